import JvmDerived
import JvmDerived.Pilot.@@N@@Statement
import JvmDerived.Pilot.@@N@@Code
set_option linter.unusedVariables false
set_option linter.unusedSimpArgs false
namespace Jvm.Pilot.@@N@@
open Jvm Jvm.ClassFile Sem Op Lib Jvm.Free Jvm.Stand Jvm.LawKit Jvm.RoadKit Bundle Jvm.Pilot.@@N@@.Jvm.D
section OwnRoad
variable {p : Program} {l : Launch} {e : Env} {R : Room} {s : State} {m : MethodId} {args : Array Value} {below : List Frame} {meth : Method} {c : Code} {T : State} {locs : List Loc} {cells slots : Nat}
/-- from A the run comes to an end of which G speaks -/
def OEnds (tb : Tables) (e : Env) (below : List Frame) (G : Outcome → State → Prop) (A : State) : Prop := ∃ s₂ o, Steps tb e below A s₂ ∧ s₂.status = .running ∧ Ended s₂ below o ∧ G o s₂
theorem OEnds.st {tb : Tables} {e : Env} {below : List Frame} {G : Outcome → State → Prop} {A B : State} (h : ∀ t, Steps tb e below B t → Steps tb e below A t) (k : OEnds tb e below G B) : OEnds tb e below G A := by
  obtain ⟨s, o, h1, h2⟩ := k
  exact ⟨s, o, h _ h1, h2⟩
def OGoal (Q : Option Value → Heap → List Loc → Prop) (s : State) (C S : Nat) (o : Outcome) (t : State) : Prop := ∃ v L, o = .returned v ∧ Q v t.heap L ∧ FrameEnd s o t L C S
theorem OEnds.out (X : Stand p l e R s m args below meth c T locs cells slots) (hlk : meth.locks = false) {v : Option Value} (hv : meth.sig.returnType = none → v = none) {Q : Option Value → Heap → List Loc → Prop} {C S : Nat} {A : State}
    (st : ∀ fs, (∀ (f : JFrame) (acts : List Action), f.method = m → f.locked = none → f.entered = [] → (doReturn e (T.setTop f) acts v).1 = T.setFrames fs) → Steps p.tables e below A (T.setFrames fs)) (hc : cells ≤ C) (hs : slots ≤ S) (hQ : Q v T.heap locs) : OEnds p.tables e below (OGoal Q s C S) A := by
  obtain ⟨fs, hr, hrun, hended, hW, hsame⟩ := X.leave (v := v) hv hlk
  exact ⟨_, _, st fs hr, hrun, hended, _, _, rfl, hQ, ⟨_, rfl⟩, hW, hsame.mono hc hs⟩
theorem OEnds.retI (X : Stand p l e R s m args below meth c T locs cells slots) (hx : p.tables.exec = Jvm.exec) (hlk : meth.locks = false) (hret : meth.sig.returnType = some .int) {pc : Nat} {Ls : Array Slot} {z : Int32} {rest : List Value} (hd : decode c.code pc = .ok (.ireturn, 1)) {Q : Option Value → Heap → List Loc → Prop} {C S : Nat} (hc : cells ≤ C) (hs : slots ≤ S) (hQ : Q (some (.int z)) T.heap locs) :
    OEnds p.tables e below (OGoal Q s C S) (T.setTop (mkF m pc Ls (.int z :: rest))) :=
  OEnds.out X hlk (fun h => by rw [hret] at h; cases h) (fun fs hr => retOut X hx hret rfl (Or.inl ⟨rfl, Or.inl rfl, _, rfl⟩) hd hr) hc hs hQ
theorem OEnds.retZ (X : Stand p l e R s m args below meth c T locs cells slots) (hx : p.tables.exec = Jvm.exec) (hlk : meth.locks = false) (hret : meth.sig.returnType = some .boolean) {pc : Nat} {Ls : Array Slot} {z : Int32} {rest : List Value} (hz : nar .boolean z = z) (hd : decode c.code pc = .ok (.ireturn, 1)) {Q : Option Value → Heap → List Loc → Prop} {C S : Nat} (hc : cells ≤ C) (hs : slots ≤ S) (hQ : Q (some (.int z)) T.heap locs) :
    OEnds p.tables e below (OGoal Q s C S) (T.setTop (mkF m pc Ls (.int z :: rest))) :=
  OEnds.out X hlk (fun h => by rw [hret] at h; cases h) (fun fs hr => retN X hx (t := .boolean) hret (Or.inl rfl) hd (by rw [hz]; exact hr)) hc hs hQ
theorem OEnds.retB (X : Stand p l e R s m args below meth c T locs cells slots) (hx : p.tables.exec = Jvm.exec) (hlk : meth.locks = false) (hret : meth.sig.returnType = some .byte) {pc : Nat} {Ls : Array Slot} {z : Int32} {rest : List Value} (hz : nar .byte z = z) (hd : decode c.code pc = .ok (.ireturn, 1)) {Q : Option Value → Heap → List Loc → Prop} {C S : Nat} (hc : cells ≤ C) (hs : slots ≤ S) (hQ : Q (some (.int z)) T.heap locs) :
    OEnds p.tables e below (OGoal Q s C S) (T.setTop (mkF m pc Ls (.int z :: rest))) :=
  OEnds.out X hlk (fun h => by rw [hret] at h; cases h) (fun fs hr => retN X hx (t := .byte) hret (Or.inr (Or.inl rfl)) hd (by rw [hz]; exact hr)) hc hs hQ
theorem OEnds.retJ (X : Stand p l e R s m args below meth c T locs cells slots) (hx : p.tables.exec = Jvm.exec) (hlk : meth.locks = false) (hret : meth.sig.returnType = some .long) {pc : Nat} {Ls : Array Slot} {z : Int64} {rest : List Value} (hd : decode c.code pc = .ok (.lreturn, 1)) {Q : Option Value → Heap → List Loc → Prop} {C S : Nat} (hc : cells ≤ C) (hs : slots ≤ S) (hQ : Q (some (.long z)) T.heap locs) :
    OEnds p.tables e below (OGoal Q s C S) (T.setTop (mkF m pc Ls (.long z :: rest))) :=
  OEnds.out X hlk (fun h => by rw [hret] at h; cases h) (fun fs hr => retOut X hx hret rfl (Or.inr (Or.inl ⟨rfl, rfl, _, rfl⟩)) hd hr) hc hs hQ
theorem OEnds.retA (X : Stand p l e R s m args below meth c T locs cells slots) (hx : p.tables.exec = Jvm.exec) (hlk : meth.locks = false) {t : FieldType} (hret : meth.sig.returnType = some t) {pc : Nat} {Ls : Array Slot} {w : Value} {rest : List Value} (hw : w.isRef = true) (ht : t.isReference = true) (hd : decode c.code pc = .ok (.areturn, 1)) {Q : Option Value → Heap → List Loc → Prop} {C S : Nat} (hc : cells ≤ C) (hs : slots ≤ S) (hQ : Q (some w) T.heap locs) :
    OEnds p.tables e below (OGoal Q s C S) (T.setTop (mkF m pc Ls (w :: rest))) :=
  OEnds.out X hlk (fun h => by rw [hret] at h; cases h) (fun fs hr => retOut X hx hret (by cases t <;> cases w <;> first | rfl | (cases ht; done) | (cases hw; done)) (Or.inr (Or.inr (Or.inr (Or.inr ⟨rfl, ht, hw⟩)))) hd hr) hc hs hQ
theorem OEnds.retV (X : Stand p l e R s m args below meth c T locs cells slots) (hx : p.tables.exec = Jvm.exec) (hlk : meth.locks = false) (hret : meth.sig.returnType = none) {pc : Nat} {Ls : Array Slot} (hd : decode c.code pc = .ok (.return_, 1)) {Q : Option Value → Heap → List Loc → Prop} {C S : Nat} (hc : cells ≤ C) (hs : slots ≤ S) (hQ : Q none T.heap locs) :
    OEnds p.tables e below (OGoal Q s C S) (T.setTop (mkF m pc Ls [])) :=
  OEnds.out X hlk (fun _ => rfl) (fun fs hr => X.returnOut hx hret hd hr) hc hs hQ
def OGoalW (Q : Option Value → Heap → List Loc → Prop) (s : State) (C S : Nat) (o : Outcome) (t : State) : Prop := ∃ v L, o = .returned v ∧ Q v t.heap L ∧ Jvm.ReturnedEndW s o t L C S
theorem own_growW {s t : State} {o : Outcome} {L : List Loc} {k n k' n' : Nat} (h : Jvm.ReturnedEndW s o t L k n) (hk : k ≤ k') (hn : n ≤ n') : Jvm.ReturnedEndW s o t L k' n' := ⟨h.1, h.2.1, h.2.2.1, h.2.2.2.mono hk hn⟩
theorem OEnds.retZW {vm0 : Vm} (X : Stand p l e R (s.setVm vm0) m args below meth c T locs cells slots) {n : Nat} (hS : s.Since vm0 n) (hn : n ≤ T.heap.size) (hx : p.tables.exec = Jvm.exec) (hlk : meth.locks = false) (hret : meth.sig.returnType = some .boolean) {pc : Nat} {Ls : Array Slot} {z : Int32} {rest : List Value} (hz : nar .boolean z = z) (hd : decode c.code pc = .ok (.ireturn, 1)) {Q : Option Value → Heap → List Loc → Prop} {C S : Nat} (hc : cells ≤ C) (hs : slots ≤ S) (hQ : Q (some (.int z)) T.heap locs) :
    OEnds p.tables e below (OGoalW Q s C S) (T.setTop (mkF m pc Ls (.int z :: rest))) := by
  obtain ⟨fs, hr, hrun, hended, hW⟩ := X.leaveW hS hn (v := some (.int z)) (fun h => by rw [hret] at h; cases h) hlk
  exact ⟨_, _, retN X hx (t := .boolean) hret (Or.inl rfl) hd (by rw [hz]; exact hr), hrun, hended, _, _, rfl, hQ, own_growW hW hc hs⟩
theorem own_b8 (x : Int32) : nar .byte (x.toInt8.toInt32) = x.toInt8.toInt32 := by
  show (x.toInt8.toInt32).toInt8.toInt32 = _
  rw [Int8.toInt8_toInt32]
theorem own_selP {s : State} {args : Array Value} {n : Nat} {y : MethodName} (hins : (Jvm.Cond.instantiable y.cls n).before args s = true) (hpriv : (Jvm.Cond.privateMethod y).before args s = true) (hinst : (Jvm.Cond.instanceMethod y).before args s = true) (hy : y.cls ≠ "java/lang/invoke/MethodHandle" ∧ y.cls ≠ "java/lang/invoke/VarHandle") :
    (Jvm.Cond.selects y.cls y y).before args s = true := by
  obtain ⟨c, k, hc, hk, -, hniab, -, -⟩ := Cond.instantiable_spec hins
  have hni : k.isInterface = false := (Bool.or_eq_false_iff.mp hniab).1
  obtain ⟨mk, methM, hnamed, hmethM, -, -⟩ := Cond.instanceMethod_spec hinst
  have hfound : s.methodFound? y.cls y.name y.desc = some mk := State.methodFound?_of_named hnamed hy
  have hcls : mk.cls = c := Option.some.inj ((findClass_of_methodNamed hnamed).symm.trans hc)
  have hsel : selectMethod {} s.vm c mk = .method mk := selectMethod_private hmethM (Cond.privateMethod_at hpriv mk methM hnamed hmethM)
  simp only [Cond.before, Cond.holds, Cond.value, hc, hfound, hnamed, hsel, hcls, hk]
  simp; exact hni
theorem own_exa_ns {Z : State} {h : Heap} {a : Addr} {C : String} (E : Exa Z h a C) : ∀ cell : Cell, h[a]? = some cell → cell.vm.isStatics = false := fun cell q => by
  obtain ⟨c, k, h1, -, -, h4, -⟩ := E
  cases h1.symm.trans q
  exact h4
theorem own_Sta_keep {Z : State} {h h' : Heap} {C n d : String} {v : Value} {ws : List Addr} (F : Sta Z h C n d v) (K : Keep h h' ws) (q : ∀ x ∈ ws, ∀ cell : Cell, h[x]? = some cell → cell.vm.isStatics = false) : Sta Z h' C n d v := by
  obtain ⟨cf, i, k, f, st, cell, h1, h2, h3, h4, h5, h6, h7⟩ := F
  refine ⟨cf, i, k, f, st, cell, h1, h2, h3, h4, K.2.1 _ _ h5 (fun hm => ?_), h6, h7⟩
  rw [q _ hm _ h5] at h6
  cases h6
theorem own_grow (X : Stand p l e R s m args below meth c T locs cells slots) {C S : Nat} (hc : cells ≤ C) (hs : slots ≤ S) : Stand p l e R s m args below meth c T locs C S :=
  ⟨X.admits, X.cas, X.clock, X.frames, X.room, X.hears, X.method, X.code, X.here, X.tail, X.warmed, X.limits, X.bytes, X.same.mono hc hs⟩
end OwnRoad
def own_mix (x : Int64) : Int64 := x ^^^ ((x.toUInt64 >>> ((33 : Int32) &&& 0x3f).toInt64.toUInt64).toInt64)
def own_hash (a b : Int64) : Int64 := own_mix (own_mix (own_mix ((a * (-7046029254386353131 : Int64)) ^^^ b) * (-49064778989728563 : Int64)) * (-4265267296055464877 : Int64))
def own_ps (x : Int64) : Int64 := (x &&& (9223372036854775807 : Int64)) % (9223372036854775807 : Int64)
def own_min (x y : Int64) : Int64 := if y < x then y else x
def own_max (x y : Int64) : Int64 := if x < y then y else x
def own_T (M : Nat) (f : Nat → Int64) : List Value := (List.range M).map (fun i => Value.long (f i))
def own_G (C : Nat) (g : Nat → Int32) : List Value := (List.range C).map (fun i => Value.int (g i))
def own_E : Nat → Int64 := fun _ => -1
def own_Z : Nat → Int32 := fun _ => 0
def own_up (f : Nat → Int64) (j : Nat) (x : Int64) : Nat → Int64 := fun i => if i = j then x else f i
def own_ui (g : Nat → Int32) (j : Nat) (x : Int32) : Nat → Int32 := fun i => if i = j then x else g i
theorem own_T_len (M : Nat) (f : Nat → Int64) : (own_T M f).length = M := by simp [own_T]
theorem own_G_len (M : Nat) (f : Nat → Int32) : (own_G M f).length = M := by simp [own_G]
theorem own_T_get {M : Nat} (f : Nat → Int64) {j : Nat} (h : j < M) (d : Value) : (own_T M f).getD j d = .long (f j) := by
  simp [own_T, List.getD, h]
theorem own_G_get {M : Nat} (f : Nat → Int32) {j : Nat} (h : j < M) (d : Value) : (own_G M f).getD j d = .int (f j) := by
  simp [own_G, List.getD, h]
theorem own_T_set (M : Nat) (f : Nat → Int64) (j : Nat) (x : Int64) : (own_T M f).set j (.long x) = own_T M (own_up f j x) := by
  apply List.ext_getElem
  · simp [own_T]
  · intro i h1 h2
    simp only [own_T, List.length_map, List.length_range, List.length_set] at h1 h2
    simp only [own_T, own_up, List.getElem_set, List.getElem_map, List.getElem_range]
    by_cases q : j = i
    · subst q; simp
    · have q' : ¬ i = j := fun y => q y.symm
      simp [q, q']
theorem own_G_set (M : Nat) (f : Nat → Int32) (j : Nat) (x : Int32) : (own_G M f).set j (.int x) = own_G M (own_ui f j x) := by
  apply List.ext_getElem
  · simp [own_G]
  · intro i h1 h2
    simp only [own_G, List.length_map, List.length_range, List.length_set] at h1 h2
    simp only [own_G, own_ui, List.getElem_set, List.getElem_map, List.getElem_range]
    by_cases q : j = i
    · subst q; simp
    · have q' : ¬ i = j := fun y => q y.symm
      simp [q, q']
theorem own_T_emp {M : Nat} {f : Nat → Int64} (h : ∀ i, i < M → f i = -1) : own_T M f = own_T M own_E := by
  apply List.map_congr_left
  intro i hi
  rw [h i (List.mem_range.mp hi)]
  rfl
theorem own_i0 : (0 : Int32).toInt = 0 := by decide
theorem own_i1 : (1 : Int32).toInt = 1 := by decide
theorem own_nl {v : Int32} {M : Nat} (h : 0 ≤ v.toInt ∧ v.toInt < M) : ¬ v < 0 := by
  rw [Int32.lt_iff_toInt_lt]; have := own_i0; omega
theorem own_lz {v z : Int32} {M : Nat} (hz : z.toInt = (M : Int)) (h : 0 ≤ v.toInt ∧ v.toInt < M) : v < z := by
  rw [Int32.lt_iff_toInt_lt]; omega
theorem own_jl {v : Int32} {M : Nat} (h : 0 ≤ v.toInt ∧ v.toInt < M) : v.toNatClampNeg < M := by
  have := nat_of (own_nl h); omega
theorem own_jT {v : Int32} {M : Nat} (f : Nat → Int64) (h : 0 ≤ v.toInt ∧ v.toInt < M) : v.toNatClampNeg < (own_T M f).length := by rw [own_T_len]; exact own_jl h
theorem own_jG {v : Int32} {M : Nat} (f : Nat → Int32) (h : 0 ≤ v.toInt ∧ v.toInt < M) : v.toNatClampNeg < (own_G M f).length := by rw [own_G_len]; exact own_jl h
def own_Inv (M : Nat) (f : Nat → Int64) (g : Nat → Int32) (n : Int32) (b : Nat) (C : Nat) : Prop := 0 ≤ n.toInt ∧ n.toInt ≤ b ∧ n.toInt ≤ C ∧ (∀ i, i < M → f i = -1 ∨ ∃ k : Nat, (k : Int) < n.toInt ∧ (g k).toNatClampNeg = i) ∧ (∀ k : Nat, (k : Int) < n.toInt → 0 ≤ (g k).toInt ∧ (g k).toInt < M)
def own_Step (M : Nat) (cz : Int32) (f : Nat → Int64) (g : Nat → Int32) (n ov : Int32) (p : Int64) (st : Nat) (f1 : Nat → Int64) (g1 : Nat → Int32) (n1 ov1 : Int32) : Prop :=
  ∃ v : Int32, (0 ≤ v.toInt ∧ v.toInt < M) ∧ (f v.toNatClampNeg = (-1 : Int64) ∨ f v.toNatClampNeg = p) ∧ ((f st = (-1 : Int64) ∨ f st = p) → v.toNatClampNeg = st) ∧
    ((¬ f v.toNatClampNeg = (-1 : Int64) ∧ f1 = f ∧ g1 = g ∧ n1 = n ∧ ov1 = ov) ∨ (f v.toNatClampNeg = (-1 : Int64) ∧ n = cz ∧ f1 = f ∧ g1 = g ∧ n1 = n ∧ ov1 = 1) ∨ (f v.toNatClampNeg = (-1 : Int64) ∧ ¬ n = cz ∧ f1 = own_up f v.toNatClampNeg p ∧ g1 = own_ui g n.toNatClampNeg v ∧ n1 = n + (1 : Int32) ∧ ov1 = ov))
/-- there is an empty slot -/
theorem own_empty {M : Nat} {f : Nat → Int64} {g : Nat → Int32} {n : Int32} {C : Nat} (h : own_Inv M f g n 2 C) (hM : 4 ≤ M) : ∃ e, e < M ∧ f e = -1 := by
  obtain ⟨h1, h2, -, h3, h4⟩ := h
  rcases h3 0 (by omega) with a | ⟨k0, a, a'⟩
  · exact ⟨0, by omega, a⟩
  rcases h3 1 (by omega) with b | ⟨k1, b, b'⟩
  · exact ⟨1, by omega, b⟩
  rcases h3 2 (by omega) with c | ⟨k2, c, c'⟩
  · exact ⟨2, by omega, c⟩
  exfalso
  have z0 : k0 = 0 ∨ k0 = 1 := by omega
  have z1 : k1 = 0 ∨ k1 = 1 := by omega
  have z2 : k2 = 0 ∨ k2 = 1 := by omega
  rcases z0 with rfl | rfl <;> rcases z1 with rfl | rfl <;> rcases z2 with rfl | rfl <;> omega
theorem own_add1 {n : Int32} (h : 0 ≤ n.toInt ∧ n.toInt ≤ 3) : (n + (1 : Int32)).toInt = n.toInt + 1 := by
  have a := c_iadd n (1 : Int32)
  have b := rng32 (n + (1 : Int32))
  have := own_i1
  omega
/-- a step keeps the invariant -/
theorem own_keepI {M : Nat} {cz : Int32} {f f1 : Nat → Int64} {g g1 : Nat → Int32} {n ov n1 ov1 : Int32} {p : Int64} {st b C : Nat} (hb : b ≤ 2) (hC : cz.toInt = (C : Int)) (h : own_Inv M f g n b C) (S : own_Step M cz f g n ov p st f1 g1 n1 ov1) : own_Inv M f1 g1 n1 (b + 1) C := by
  obtain ⟨h1, h2, h3, h4, h5⟩ := h
  obtain ⟨v, v1, -, -, S⟩ := S
  rcases S with ⟨-, rfl, rfl, rfl, rfl⟩ | ⟨-, -, rfl, rfl, rfl, rfl⟩ | ⟨-, q, rfl, rfl, rfl, rfl⟩
  · exact ⟨h1, by omega, h3, h4, h5⟩
  · exact ⟨h1, by omega, h3, h4, h5⟩
  · have e := own_add1 (n := n) (by omega)
    have q' : ¬ n.toInt = cz.toInt := fun y => q (Int32.toInt_inj.mp y)
    have hn : n.toInt = (n.toNatClampNeg : Int) := nat_of (by rw [Int32.lt_iff_toInt_lt]; have := own_i0; omega)
    refine ⟨by omega, by omega, by omega, fun i hi => ?_, fun k hk => ?_⟩
    · by_cases y : i = v.toNatClampNeg
      · exact Or.inr ⟨n.toNatClampNeg, by omega, by rw [y]; simp [own_ui]⟩
      · rcases h4 i hi with a | ⟨k, a, a'⟩
        · left; simp [own_up, y, a]
        · right
          refine ⟨k, by omega, ?_⟩
          have : ¬ k = n.toNatClampNeg := by omega
          simp [own_ui, this, a']
    · by_cases y : k = n.toNatClampNeg
      · simp only [own_ui, y, if_true]; exact v1
      · simp only [own_ui, y, if_false]; exact h5 k (by omega)
theorem own_wid {M : Nat} {f : Nat → Int64} {g : Nat → Int32} {n : Int32} {b b' C : Nat} (hb : b ≤ b') (h : own_Inv M f g n b C) : own_Inv M f g n b' C := ⟨h.1, by have := h.2.1; omega, h.2.2⟩
theorem own_ps_rng (x : Int64) : 0 ≤ (own_ps x).toInt ∧ (own_ps x).toInt < 9223372036854775807 := by
  have e1 := c_maskL x (9223372036854775807 : Int64) 63 (by decide) (by decide)
  have e2 := (c_lrem (x &&& (9223372036854775807 : Int64)) (9223372036854775807 : Int64) 9223372036854775807 (by decide)).1 (by omega)
  rw [lrem_mod] at e2
  unfold own_ps
  omega
theorem own_ps_ne (x : Int64) : ¬ own_ps x = (-1 : Int64) := fun y => by
  have a := own_ps_rng x
  rw [y] at a
  have : (-1 : Int64).toInt = -1 := by decide
  omega
theorem own_ps_lt (x : Int64) : own_ps x < (9223372036854775807 : Int64) := by
  have a := own_ps_rng x
  have : (9223372036854775807 : Int64).toInt = 9223372036854775807 := by decide
  rw [Int64.lt_iff_toInt_lt]; omega
/-- the next slot -/
theorem own_next {M : Nat} {z v : Int32} {em d : Nat} (hM : 4 ≤ M ∧ M ≤ 16) (hmk : ∀ x : Int32, (x &&& (z - (1 : Int32))).toInt = x.toInt % (M : Int)) (hv : 0 ≤ v.toInt ∧ v.toInt < M) (hd : (v.toInt + (d + 1 : Nat)) % (M : Int) = em) :
    (0 ≤ ((v + (1 : Int32)) &&& (z - (1 : Int32))).toInt ∧ ((v + (1 : Int32)) &&& (z - (1 : Int32))).toInt < M) ∧ (((v + (1 : Int32)) &&& (z - (1 : Int32))).toInt + d) % (M : Int) = em := by
  have e : (v + (1 : Int32)).toInt = v.toInt + 1 := by
    have a := c_iadd v (1 : Int32)
    have b := rng32 (v + (1 : Int32))
    have := own_i1
    omega
  rw [hmk, e]
  refine ⟨⟨Int.emod_nonneg _ (by omega), Int.emod_lt_of_pos _ (by omega)⟩, ?_⟩
  rw [← hd, Int.emod_add_emod]
  congr 1
  omega
theorem own_at0 {M : Nat} {v : Int32} {em : Nat} (hv : 0 ≤ v.toInt ∧ v.toInt < M) (hd : (v.toInt + (0 : Nat)) % (M : Int) = em) : v.toNatClampNeg = em := by
  have a := nat_of (own_nl hv)
  have b : (v.toInt + (0 : Nat)) % (M : Int) = v.toInt := by rw [show ((0 : Nat) : Int) = 0 from rfl, Int.add_zero]; exact Int.emod_eq_of_lt hv.1 hv.2
  omega
theorem own_dist {M : Nat} {v : Int32} {em : Nat} (hM : 4 ≤ M) (he : em < M) (hv : 0 ≤ v.toInt ∧ v.toInt < M) : ∃ d : Nat, (v.toInt + d) % (M : Int) = em := by
  have a := nat_of (own_nl hv)
  refine ⟨M + em - v.toNatClampNeg, ?_⟩
  have b : v.toInt + ((M + em - v.toNatClampNeg : Nat) : Int) = (em : Int) + (M : Int) := by omega
  rw [b, Int.add_emod_right]
  exact Int.emod_eq_of_lt (by omega) (by omega)
theorem own_lt_of_ne {n cz : Int32} {M C b : Nat} {f : Nat → Int64} {g : Nat → Int32} (hC : cz.toInt = (C : Int)) (h : own_Inv M f g n b C) (q : ¬ n = cz) : 0 ≤ n.toInt ∧ n.toInt < C := by
  have q' : ¬ n.toInt = cz.toInt := fun y => q (Int32.toInt_inj.mp y)
  have := h.1
  have := h.2.2.1
  omega
theorem own_clr {M : Nat} {f f1 : Nat → Int64} {g : Nat → Int32} {n : Int32} {b C : Nat} (h : own_Inv M f g n b C) (h1 : ∀ i, f i = -1 → f1 i = -1) (h2 : ∀ k : Nat, (k : Int) < n.toInt → f1 (g k).toNatClampNeg = -1) : ∀ i, i < M → f1 i = -1 := fun i hi => by
  rcases h.2.2.2.1 i hi with a | ⟨k, a, rfl⟩
  · exact h1 i a
  · exact h2 k a
theorem own_upm {f : Nat → Int64} {j : Nat} : ∀ i, f i = -1 → own_up f j (-1 : Int64) i = -1 := fun i h => by
  by_cases q : i = j
  · simp [own_up, q]
  · simp [own_up, q, h]
theorem own_min_lt {x y : Int64} (h : y < x) : own_min x y = y := if_pos h
theorem own_max_lt {x y : Int64} (h : x < y) : own_max x y = y := if_pos h
theorem own_min_ge {x y : Int64} (h : ¬ y < x) : own_min x y = x := if_neg h
theorem own_max_ge {x y : Int64} (h : ¬ x < y) : own_max x y = x := if_neg h
theorem own_cap (x : Int32) : ((1 : Int32) + (x &&& (3 : Int32))) = (1 : Int32) ∨ ((1 : Int32) + (x &&& (3 : Int32))) = (2 : Int32) ∨ ((1 : Int32) + (x &&& (3 : Int32))) = (3 : Int32) ∨ ((1 : Int32) + (x &&& (3 : Int32))) = (4 : Int32) := by
  have e1 := c_mask x (3 : Int32) 2 (by decide) (by decide)
  have e2 := c_iadd (1 : Int32) (x &&& (3 : Int32))
  have b := rng32 ((1 : Int32) + (x &&& (3 : Int32)))
  have i1 := own_i1
  have i2 : (2 : Int32).toInt = 2 := by decide
  have i3 : (3 : Int32).toInt = 3 := by decide
  have i4 : (4 : Int32).toInt = 4 := by decide
  have q : ((1 : Int32) + (x &&& (3 : Int32))).toInt = 1 ∨ ((1 : Int32) + (x &&& (3 : Int32))).toInt = 2 ∨ ((1 : Int32) + (x &&& (3 : Int32))).toInt = 3 ∨ ((1 : Int32) + (x &&& (3 : Int32))).toInt = 4 := by omega
  rcases q with q | q | q | q
  · exact Or.inl (Int32.toInt_inj.mp (q.trans i1.symm))
  · exact Or.inr (Or.inl (Int32.toInt_inj.mp (q.trans i2.symm)))
  · exact Or.inr (Or.inr (Or.inl (Int32.toInt_inj.mp (q.trans i3.symm))))
  · exact Or.inr (Or.inr (Or.inr (Int32.toInt_inj.mp (q.trans i4.symm))))
theorem own_mk4 (x : Int32) : (x &&& ((4 : Int32) - (1 : Int32))).toInt = x.toInt % ((4 : Nat) : Int) := c_mask x ((4 : Int32) - (1 : Int32)) 2 (by decide) (by decide)
theorem own_mk8 (x : Int32) : (x &&& ((8 : Int32) - (1 : Int32))).toInt = x.toInt % ((8 : Nat) : Int) := c_mask x ((8 : Int32) - (1 : Int32)) 3 (by decide) (by decide)
theorem own_mk16 (x : Int32) : (x &&& ((16 : Int32) - (1 : Int32))).toInt = x.toInt % ((16 : Nat) : Int) := c_mask x ((16 : Int32) - (1 : Int32)) 4 (by decide) (by decide)
theorem own_InvE (M : Nat) (g : Nat → Int32) (b C : Nat) : own_Inv M own_E g (0 : Int32) b C := by
  have := own_i0
  exact ⟨by omega, by omega, by omega, fun _ _ => Or.inl rfl, fun k hk => by omega⟩
theorem own_n3 {M : Nat} {f : Nat → Int64} {g : Nat → Int32} {n : Int32} {C : Nat} (h : own_Inv M f g n 3 C) : n = (0 : Int32) ∨ n = (1 : Int32) ∨ n = (2 : Int32) ∨ n = (3 : Int32) := by
  have a := h.1
  have b := h.2.1
  have i0 := own_i0
  have i1 := own_i1
  have i2 : (2 : Int32).toInt = 2 := by decide
  have i3 : (3 : Int32).toInt = 3 := by decide
  have q : n.toInt = 0 ∨ n.toInt = 1 ∨ n.toInt = 2 ∨ n.toInt = 3 := by omega
  rcases q with q | q | q | q
  · exact Or.inl (Int32.toInt_inj.mp (q.trans i0.symm))
  · exact Or.inr (Or.inl (Int32.toInt_inj.mp (q.trans i1.symm)))
  · exact Or.inr (Or.inr (Or.inl (Int32.toInt_inj.mp (q.trans i2.symm))))
  · exact Or.inr (Or.inr (Or.inr (Int32.toInt_inj.mp (q.trans i3.symm))))
/-- the first position after clear -/
theorem own_S1 {M : Nat} {cz : Int32} {g g1 : Nat → Int32} {f1 : Nat → Int64} {n1 o1 : Int32} {p : Int64} {st : Nat} (S : own_Step M cz own_E g (0 : Int32) (0 : Int32) p st f1 g1 n1 o1) (h : ¬ (0 : Int32) = cz) :
    ∃ v : Int32, v.toNatClampNeg = st ∧ f1 = own_up own_E v.toNatClampNeg p ∧ g1 = own_ui g (0 : Int32).toNatClampNeg v ∧ n1 = (1 : Int32) ∧ o1 = (0 : Int32) := by
  obtain ⟨v, -, -, hs, S⟩ := S
  refine ⟨v, hs (Or.inl rfl), ?_⟩
  rcases S with ⟨q, -⟩ | ⟨-, q, -⟩ | ⟨-, -, a, b, c, d⟩
  · exact absurd rfl q
  · exact absurd q h
  · exact ⟨a, b, c, d⟩
/-- the same position again -/
theorem own_S2a {M : Nat} {cz : Int32} {g g1 g2 : Nat → Int32} {f1 f2 : Nat → Int64} {n2 o2 v : Int32} {p : Int64} {st : Nat} (hp : ¬ p = (-1 : Int64)) (hv : v.toNatClampNeg = st) (e1 : f1 = own_up own_E v.toNatClampNeg p) (e2 : g1 = own_ui g (0 : Int32).toNatClampNeg v) (S : own_Step M cz f1 g1 (1 : Int32) (0 : Int32) p st f2 g2 n2 o2) :
    n2 = (1 : Int32) ∧ o2 = (0 : Int32) ∧ f2 (g2 (0 : Int32).toNatClampNeg).toNatClampNeg = p := by
  obtain ⟨w, -, -, hs, S⟩ := S
  have e3 : f1 st = p := by rw [e1, hv]; simp [own_up]
  have e4 := hs (Or.inr e3)
  rcases S with ⟨-, a, b, c, d⟩ | ⟨q, -⟩ | ⟨q, -⟩
  · refine ⟨c, d, ?_⟩
    rw [a, b, e2, e1]; simp [own_ui, own_up]
  · exact absurd (e3.symm.trans (e4 ▸ q)) hp
  · exact absurd (e3.symm.trans (e4 ▸ q)) hp
/-- another position, and the set is full -/
theorem own_S2b {M : Nat} {cz : Int32} {g g1 g2 : Nat → Int32} {f1 f2 : Nat → Int64} {n2 o2 v : Int32} {p r : Int64} {st : Nat} (hr : ¬ r = (-1 : Int64)) (hpr : ¬ p = r) (hc : cz = (1 : Int32)) (e1 : f1 = own_up own_E v.toNatClampNeg p) (e2 : g1 = own_ui g (0 : Int32).toNatClampNeg v) (S : own_Step M cz f1 g1 (1 : Int32) (0 : Int32) r st f2 g2 n2 o2) :
    n2 = (1 : Int32) ∧ o2 = (1 : Int32) ∧ f2 (g2 (0 : Int32).toNatClampNeg).toNatClampNeg = p := by
  obtain ⟨w, -, hw, -, S⟩ := S
  have hne : ¬ f1 w.toNatClampNeg = r := by
    rw [e1]; by_cases q : w.toNatClampNeg = v.toNatClampNeg
    · simp [own_up, q, hpr]
    · simp only [own_up, q, if_false, own_E]; exact fun y => hr y.symm
  have hm := hw.resolve_right hne
  rcases S with ⟨q, -⟩ | ⟨-, -, a, b, c, d⟩ | ⟨-, q, -⟩
  · exact absurd hm q
  · refine ⟨c, d, ?_⟩
    rw [a, b, e2, e1]; simp [own_ui, own_up]
  · exact absurd hc.symm q
/-- another position, and there is room -/
theorem own_S2c {M : Nat} {cz : Int32} {g g1 g2 : Nat → Int32} {f1 f2 : Nat → Int64} {n2 o2 v : Int32} {p r : Int64} {st : Nat} (hp : ¬ p = (-1 : Int64)) (hr : ¬ r = (-1 : Int64)) (hpr : ¬ p = r) (hc : ¬ cz = (1 : Int32)) (e1 : f1 = own_up own_E v.toNatClampNeg p) (e2 : g1 = own_ui g (0 : Int32).toNatClampNeg v) (S : own_Step M cz f1 g1 (1 : Int32) (0 : Int32) r st f2 g2 n2 o2) :
    n2 = (2 : Int32) ∧ o2 = (0 : Int32) ∧ f2 (g2 (0 : Int32).toNatClampNeg).toNatClampNeg = p ∧ f2 (g2 (1 : Int32).toNatClampNeg).toNatClampNeg = r := by
  obtain ⟨w, -, hw, -, S⟩ := S
  have hne : ¬ f1 w.toNatClampNeg = r := by
    rw [e1]; by_cases q : w.toNatClampNeg = v.toNatClampNeg
    · simp [own_up, q, hpr]
    · simp only [own_up, q, if_false, own_E]; exact fun y => hr y.symm
  have hm := hw.resolve_right hne
  have h01 : ¬ (0 : Int32).toNatClampNeg = (1 : Int32).toNatClampNeg := by decide
  have hvw : ¬ v.toNatClampNeg = w.toNatClampNeg := fun y => by
    rw [← y, e1] at hm; simp only [own_up, if_true] at hm; exact hp hm
  rcases S with ⟨q, -⟩ | ⟨-, q, -⟩ | ⟨-, -, a, b, c, d⟩
  · exact absurd hm q
  · exact absurd q.symm hc
  · refine ⟨c, d, ?_, ?_⟩
    · rw [a, b]; simp only [own_ui, h01, if_false]
      rw [e2, e1]; simp only [own_ui, own_up, if_true, hvw, if_false]
    · rw [a, b]; simp only [own_ui, own_up, if_true]
def own_O : Nat → Int64 := fun _ => 0
theorem own_inc {v : Int32} {M d : Nat} (hM : M ≤ 16) (h0 : 0 ≤ v.toInt) (h : v.toInt + ((d + 1 : Nat) : Int) = M) : (v + (1 : Int32)).toInt = v.toInt + 1 := by
  have a := c_iadd v (1 : Int32)
  have b := rng32 (v + (1 : Int32))
  have := own_i1
  omega
theorem own_fdn {ff : Nat → Int64} {v : Int32} {M : Nat} (hv : 0 ≤ v.toInt ∧ v.toInt < M) (e : (v + (1 : Int32)).toInt = v.toInt + 1) (h : ∀ i : Nat, (i : Int) < v.toInt → ff i = -1) : ∀ i : Nat, (i : Int) < (v + (1 : Int32)).toInt → own_up ff v.toNatClampNeg (-1 : Int64) i = -1 := fun i hi => by
  have a := nat_of (own_nl hv)
  by_cases q : i = v.toNatClampNeg
  · simp [own_up, q]
  · simp only [own_up, q, if_false]; exact h i (by omega)
theorem pn_0 : plainName "com/example/clearingd/clearingd/store/PositionSetClearPinLaw" = true := by first | (simp [plainName, overriddenIn]; done) | decide +kernel
theorem ef_1 (m : MethodId) (q1 : Int64) : entryFrame m #[(.long q1)] 2 = mkF m 0 #[.val (.long q1), .second] [] := by first | (simp [entryFrame, mkF, argsToLocals, Value.category]; done) | rfl
def Q1 (Z : State) (q1 : Int64) (h0 : Heap) (n0 : Nat) (v : Option Value) (h : Heap) (L : List Loc) : Prop := v = some (.long (own_ps q1)) ∧ Fr n0 L ∧ h = h0
theorem d1_0 : decode method_2_code 0 = .ok (.lload_n 0, 1) := by decide +kernel
theorem d1_1 : decode method_2_code 1 = .ok (.ldc2_w 9, 3) := by decide +kernel
theorem d1_4 : decode method_2_code 4 = .ok (.land, 1) := by decide +kernel
theorem d1_5 : decode method_2_code 5 = .ok (.ldc2_w 9, 3) := by decide +kernel
theorem d1_8 : decode method_2_code 8 = .ok (.lrem, 1) := by decide +kernel
theorem d1_9 : decode method_2_code 9 = .ok (.lreturn, 1) := by decide +kernel
set_option maxRecDepth 65536 in
set_option maxHeartbeats 40000000 in
theorem rm1 (l : Launch) (Z : State) (a0 : Array Value) (hw : ∀ d ∈ tables_1, d.before a0 Z = true) (ws : List Jvm.Cond) (q1 : Int64) (h0 : Heap) (n0 : Nat) (Z0 : n0 ≤ h0.size) :
    MetFree l (⟨"com/example/clearingd/clearingd/store/PositionSetClearPinLaw", "pos", "(J)J"⟩ : MethodName) (head1 (Jvm.Cond.code (⟨"com/example/clearingd/clearingd/store/PositionSetClearPinLaw", "pos", "(J)J"⟩ : MethodName) method_2_code 2 (some .long) :: ws) ({ frames := 0, cells := 0, slots := 0, locals := 0 } : Room)) (fun a U => a = #[(.long q1)] ∧ Z.Warmed39 U.vm ∧ U.heap = h0) (fun _ _ _ _ _ => True) (fun _ U o U' => ∃ v L, o = .returned v ∧ Q1 Z q1 h0 n0 v U'.heap L ∧ FrameEnd U o U' L ({ frames := 0, cells := 0, slots := 0, locals := 0 } : Room).cells ({ frames := 0, cells := 0, slots := 0, locals := 0 } : Room).slots) := by
  refine MetFree.of_bodySF (plainFor_of_name pn_0) hisR ?_
  intro p e s m args below meth c s₁ Bd hml0 hP hK
  obtain ⟨rfl, hZ, hh⟩ := hP
  have hx := Bd.exec
  have hby := Bd.bytes
  have hml : c.maxLocals = 2 := hml0
  have hown : s.vm.findClass "com/example/clearingd/clearingd/store/PositionSetClearPinLaw" = some m.cls := findClass_of_methodNamed Bd.named
  have hnm := (name_of_methodNamed Bd.named Bd.method).1
  have hlk : meth.locks = false := BodyLoose.notSynchronized Bd
  have X0 : Stand p l e ({ frames := 0, cells := 0, slots := 0, locals := 0 } : Room) s m #[(.long q1)] below meth c s₁ [] 0 0 := Stand.of_body Bd
  have e0 : s₁.heap = h0 := by rw [← hh, Bd.state]; rfl
  have N0 := Fr.nil n0
  show OEnds p.tables e below (OGoal (Q1 Z q1 h0 n0) s 0 0) (s₁.setTop (entryFrame m #[(.long q1)] 2))
  refine OEnds.st (fun t k => castTop (ef_1 m q1) k) ?_
  generalize hG : OGoal (Q1 Z q1 h0 n0) s 0 0 = G
  have KK0 : Keep h0 h0 [] := Keep.refl h0 []
  show OEnds p.tables e below G (s₁.setTop (mkF m 0 #[.val (.long q1), .second] []))
  refine OEnds.st (fun _ k => XS.lloadN X0.here hx rfl (hb hby d1_0) rfl k) ?_
  show OEnds p.tables e below G (s₁.setTop (mkF m 1 #[.val (.long q1), .second] [(.long q1)]))
  refine OEnds.st (X0.ldc2Long hx hown (mvT hZ (hw _ (List.mem_of_getElem? (i := 4) rfl))) (g := (mkF m 1 #[.val (.long q1), .second] [(.long q1)])) rfl (hb hby d1_1)) ?_
  show OEnds p.tables e below G (s₁.setTop (mkF m 4 #[.val (.long q1), .second] [(.long (9223372036854775807 : Int64)), (.long q1)]))
  refine OEnds.st (fun _ k => XS.land X0.here hx rfl (hb hby d1_4) rfl k) ?_
  show OEnds p.tables e below G (s₁.setTop (mkF m 5 #[.val (.long q1), .second] [(.long (q1 &&& (9223372036854775807 : Int64)))]))
  refine OEnds.st (X0.ldc2Long hx hown (mvT hZ (hw _ (List.mem_of_getElem? (i := 4) rfl))) (g := (mkF m 5 #[.val (.long q1), .second] [(.long (q1 &&& (9223372036854775807 : Int64)))])) rfl (hb hby d1_5)) ?_
  show OEnds p.tables e below G (s₁.setTop (mkF m 8 #[.val (.long q1), .second] [(.long (9223372036854775807 : Int64)), (.long (q1 &&& (9223372036854775807 : Int64)))]))
  refine OEnds.st (fun _ k => XS.lrem X0.here hx rfl (hb hby d1_8) rfl (by decide) k) ?_
  show OEnds p.tables e below G (s₁.setTop (mkF m 9 #[.val (.long q1), .second] [(.long ((q1 &&& (9223372036854775807 : Int64)) - ((q1 &&& (9223372036854775807 : Int64)) / (9223372036854775807 : Int64)) * (9223372036854775807 : Int64)))]))
  rw [lrem_mod]
  show OEnds p.tables e below G (s₁.setTop (mkF m 9 #[.val (.long q1), .second] [(.long ((q1 &&& (9223372036854775807 : Int64)) % (9223372036854775807 : Int64)))]))
  rw [← hG]
  refine OEnds.retJ X0 hx hlk Bd.returns (hb hby d1_9) (by decide) (by decide) ?_
  rw [e0]
  exact ⟨rfl, N0, rfl⟩
theorem pn_1 : plainName "com/example/clearingd/clearingd/store/Entries" = true := by first | (simp [plainName, overriddenIn]; done) | decide +kernel
theorem ef_16 (m : MethodId) (q1 : Int64) (q2 : Int64) : entryFrame m #[(.long q1), (.long q2)] 6 = mkF m 0 #[.val (.long q1), .second, .val (.long q2), .second, .unset, .unset] [] := by first | (simp [entryFrame, mkF, argsToLocals, Value.category]; done) | rfl
def Q16 (Z : State) (q1 : Int64) (q2 : Int64) (h0 : Heap) (n0 : Nat) (v : Option Value) (h : Heap) (L : List Loc) : Prop := v = some (.long (own_hash q1 q2)) ∧ Fr n0 L ∧ h = h0
theorem d16_0 : decode prog_40_method_3_code 0 = .ok (.lload_n 0, 1) := by decide +kernel
theorem d16_1 : decode prog_40_method_3_code 1 = .ok (.ldc2_w 19, 3) := by decide +kernel
theorem d16_4 : decode prog_40_method_3_code 4 = .ok (.lmul, 1) := by decide +kernel
theorem d16_5 : decode prog_40_method_3_code 5 = .ok (.lload_n 2, 1) := by decide +kernel
theorem d16_6 : decode prog_40_method_3_code 6 = .ok (.lxor, 1) := by decide +kernel
theorem d16_7 : decode prog_40_method_3_code 7 = .ok (.lstore 4, 2) := by decide +kernel
theorem d16_9 : decode prog_40_method_3_code 9 = .ok (.lload 4, 2) := by decide +kernel
theorem d16_11 : decode prog_40_method_3_code 11 = .ok (.lload 4, 2) := by decide +kernel
theorem d16_13 : decode prog_40_method_3_code 13 = .ok (.bipush 33, 2) := by decide +kernel
theorem d16_15 : decode prog_40_method_3_code 15 = .ok (.lushr, 1) := by decide +kernel
theorem d16_16 : decode prog_40_method_3_code 16 = .ok (.lxor, 1) := by decide +kernel
theorem d16_17 : decode prog_40_method_3_code 17 = .ok (.ldc2_w 21, 3) := by decide +kernel
theorem d16_20 : decode prog_40_method_3_code 20 = .ok (.lmul, 1) := by decide +kernel
theorem d16_21 : decode prog_40_method_3_code 21 = .ok (.lstore 4, 2) := by decide +kernel
theorem d16_23 : decode prog_40_method_3_code 23 = .ok (.lload 4, 2) := by decide +kernel
theorem d16_25 : decode prog_40_method_3_code 25 = .ok (.lload 4, 2) := by decide +kernel
theorem d16_27 : decode prog_40_method_3_code 27 = .ok (.bipush 33, 2) := by decide +kernel
theorem d16_29 : decode prog_40_method_3_code 29 = .ok (.lushr, 1) := by decide +kernel
theorem d16_30 : decode prog_40_method_3_code 30 = .ok (.lxor, 1) := by decide +kernel
theorem d16_31 : decode prog_40_method_3_code 31 = .ok (.ldc2_w 23, 3) := by decide +kernel
theorem d16_34 : decode prog_40_method_3_code 34 = .ok (.lmul, 1) := by decide +kernel
theorem d16_35 : decode prog_40_method_3_code 35 = .ok (.lstore 4, 2) := by decide +kernel
theorem d16_37 : decode prog_40_method_3_code 37 = .ok (.lload 4, 2) := by decide +kernel
theorem d16_39 : decode prog_40_method_3_code 39 = .ok (.lload 4, 2) := by decide +kernel
theorem d16_41 : decode prog_40_method_3_code 41 = .ok (.bipush 33, 2) := by decide +kernel
theorem d16_43 : decode prog_40_method_3_code 43 = .ok (.lushr, 1) := by decide +kernel
theorem d16_44 : decode prog_40_method_3_code 44 = .ok (.lxor, 1) := by decide +kernel
theorem d16_45 : decode prog_40_method_3_code 45 = .ok (.lreturn, 1) := by decide +kernel
set_option maxRecDepth 65536 in
set_option maxHeartbeats 40000000 in
theorem rm16 (l : Launch) (Z : State) (a0 : Array Value) (hw : ∀ d ∈ tables_1, d.before a0 Z = true) (ws : List Jvm.Cond) (q1 : Int64) (q2 : Int64) (h0 : Heap) (n0 : Nat) (Z0 : n0 ≤ h0.size) :
    MetFree l (⟨"com/example/clearingd/clearingd/store/Entries", "hash", "(JJ)J"⟩ : MethodName) (head1 (Jvm.Cond.code (⟨"com/example/clearingd/clearingd/store/Entries", "hash", "(JJ)J"⟩ : MethodName) prog_40_method_3_code 6 (some .long) :: ws) ({ frames := 0, cells := 0, slots := 0, locals := 0 } : Room)) (fun a U => a = #[(.long q1), (.long q2)] ∧ Z.Warmed39 U.vm ∧ U.heap = h0) (fun _ _ _ _ _ => True) (fun _ U o U' => ∃ v L, o = .returned v ∧ Q16 Z q1 q2 h0 n0 v U'.heap L ∧ FrameEnd U o U' L ({ frames := 0, cells := 0, slots := 0, locals := 0 } : Room).cells ({ frames := 0, cells := 0, slots := 0, locals := 0 } : Room).slots) := by
  refine MetFree.of_bodySF (plainFor_of_name pn_1) hisR ?_
  intro p e s m args below meth c s₁ Bd hml0 hP hK
  obtain ⟨rfl, hZ, hh⟩ := hP
  have hx := Bd.exec
  have hby := Bd.bytes
  have hml : c.maxLocals = 6 := hml0
  have hown : s.vm.findClass "com/example/clearingd/clearingd/store/Entries" = some m.cls := findClass_of_methodNamed Bd.named
  have hnm := (name_of_methodNamed Bd.named Bd.method).1
  have hlk : meth.locks = false := BodyLoose.notSynchronized Bd
  have X0 : Stand p l e ({ frames := 0, cells := 0, slots := 0, locals := 0 } : Room) s m #[(.long q1), (.long q2)] below meth c s₁ [] 0 0 := Stand.of_body Bd
  have e0 : s₁.heap = h0 := by rw [← hh, Bd.state]; rfl
  have N0 := Fr.nil n0
  show OEnds p.tables e below (OGoal (Q16 Z q1 q2 h0 n0) s 0 0) (s₁.setTop (entryFrame m #[(.long q1), (.long q2)] 6))
  refine OEnds.st (fun t k => castTop (ef_16 m q1 q2) k) ?_
  generalize hG : OGoal (Q16 Z q1 q2 h0 n0) s 0 0 = G
  have KK0 : Keep h0 h0 [] := Keep.refl h0 []
  show OEnds p.tables e below G (s₁.setTop (mkF m 0 #[.val (.long q1), .second, .val (.long q2), .second, .unset, .unset] []))
  refine OEnds.st (fun _ k => XS.lloadN X0.here hx rfl (hb hby d16_0) rfl k) ?_
  show OEnds p.tables e below G (s₁.setTop (mkF m 1 #[.val (.long q1), .second, .val (.long q2), .second, .unset, .unset] [(.long q1)]))
  refine OEnds.st (X0.ldc2Long hx hown (mvT hZ (hw _ (List.mem_of_getElem? (i := 81) rfl))) (g := (mkF m 1 #[.val (.long q1), .second, .val (.long q2), .second, .unset, .unset] [(.long q1)])) rfl (hb hby d16_1)) ?_
  show OEnds p.tables e below G (s₁.setTop (mkF m 4 #[.val (.long q1), .second, .val (.long q2), .second, .unset, .unset] [(.long (-7046029254386353131 : Int64)), (.long q1)]))
  refine OEnds.st (fun _ k => XS.lmul X0.here hx rfl (hb hby d16_4) rfl k) ?_
  show OEnds p.tables e below G (s₁.setTop (mkF m 5 #[.val (.long q1), .second, .val (.long q2), .second, .unset, .unset] [(.long (q1 * (-7046029254386353131 : Int64)))]))
  refine OEnds.st (fun _ k => XS.lloadN X0.here hx rfl (hb hby d16_5) rfl k) ?_
  show OEnds p.tables e below G (s₁.setTop (mkF m 6 #[.val (.long q1), .second, .val (.long q2), .second, .unset, .unset] [(.long q2), (.long (q1 * (-7046029254386353131 : Int64)))]))
  refine OEnds.st (fun _ k => XS.lxor X0.here hx rfl (hb hby d16_6) rfl k) ?_
  show OEnds p.tables e below G (s₁.setTop (mkF m 7 #[.val (.long q1), .second, .val (.long q2), .second, .unset, .unset] [(.long ((q1 * (-7046029254386353131 : Int64)) ^^^ q2))]))
  refine OEnds.st (fun _ k => XS.lstore X0.here hx rfl (hb hby d16_7) rfl (l' := #[.val (.long q1), .second, .val (.long q2), .second, .val (.long ((q1 * (-7046029254386353131 : Int64)) ^^^ q2)), .second]) rfl k) ?_
  show OEnds p.tables e below G (s₁.setTop (mkF m 9 #[.val (.long q1), .second, .val (.long q2), .second, .val (.long ((q1 * (-7046029254386353131 : Int64)) ^^^ q2)), .second] []))
  generalize hv_v1001 : ((q1 * (-7046029254386353131 : Int64)) ^^^ q2) = v1001
  show OEnds p.tables e below G (s₁.setTop (mkF m 9 #[.val (.long q1), .second, .val (.long q2), .second, .val (.long v1001), .second] []))
  refine OEnds.st (fun _ k => XS.lload X0.here hx rfl (hb hby d16_9) rfl k) ?_
  show OEnds p.tables e below G (s₁.setTop (mkF m 11 #[.val (.long q1), .second, .val (.long q2), .second, .val (.long v1001), .second] [(.long v1001)]))
  refine OEnds.st (fun _ k => XS.lload X0.here hx rfl (hb hby d16_11) rfl k) ?_
  show OEnds p.tables e below G (s₁.setTop (mkF m 13 #[.val (.long q1), .second, .val (.long q2), .second, .val (.long v1001), .second] [(.long v1001), (.long v1001)]))
  refine OEnds.st (fun _ k => XS.bipush X0.here hx rfl (hb hby d16_13) k) ?_
  show OEnds p.tables e below G (s₁.setTop (mkF m 15 #[.val (.long q1), .second, .val (.long q2), .second, .val (.long v1001), .second] [(.int (33 : Int32)), (.long v1001), (.long v1001)]))
  refine OEnds.st (fun _ k => XS.lushr X0.here hx rfl (hb hby d16_15) rfl k) ?_
  show OEnds p.tables e below G (s₁.setTop (mkF m 16 #[.val (.long q1), .second, .val (.long q2), .second, .val (.long v1001), .second] [(.long ((v1001.toUInt64 >>> ((33 : Int32) &&& 0x3f).toInt64.toUInt64).toInt64)), (.long v1001)]))
  refine OEnds.st (fun _ k => XS.lxor X0.here hx rfl (hb hby d16_16) rfl k) ?_
  show OEnds p.tables e below G (s₁.setTop (mkF m 17 #[.val (.long q1), .second, .val (.long q2), .second, .val (.long v1001), .second] [(.long (v1001 ^^^ ((v1001.toUInt64 >>> ((33 : Int32) &&& 0x3f).toInt64.toUInt64).toInt64)))]))
  refine OEnds.st (X0.ldc2Long hx hown (mvT hZ (hw _ (List.mem_of_getElem? (i := 82) rfl))) (g := (mkF m 17 #[.val (.long q1), .second, .val (.long q2), .second, .val (.long v1001), .second] [(.long (v1001 ^^^ ((v1001.toUInt64 >>> ((33 : Int32) &&& 0x3f).toInt64.toUInt64).toInt64)))])) rfl (hb hby d16_17)) ?_
  show OEnds p.tables e below G (s₁.setTop (mkF m 20 #[.val (.long q1), .second, .val (.long q2), .second, .val (.long v1001), .second] [(.long (-49064778989728563 : Int64)), (.long (v1001 ^^^ ((v1001.toUInt64 >>> ((33 : Int32) &&& 0x3f).toInt64.toUInt64).toInt64)))]))
  refine OEnds.st (fun _ k => XS.lmul X0.here hx rfl (hb hby d16_20) rfl k) ?_
  show OEnds p.tables e below G (s₁.setTop (mkF m 21 #[.val (.long q1), .second, .val (.long q2), .second, .val (.long v1001), .second] [(.long ((v1001 ^^^ ((v1001.toUInt64 >>> ((33 : Int32) &&& 0x3f).toInt64.toUInt64).toInt64)) * (-49064778989728563 : Int64)))]))
  refine OEnds.st (fun _ k => XS.lstore X0.here hx rfl (hb hby d16_21) rfl (l' := #[.val (.long q1), .second, .val (.long q2), .second, .val (.long ((v1001 ^^^ ((v1001.toUInt64 >>> ((33 : Int32) &&& 0x3f).toInt64.toUInt64).toInt64)) * (-49064778989728563 : Int64))), .second]) rfl k) ?_
  show OEnds p.tables e below G (s₁.setTop (mkF m 23 #[.val (.long q1), .second, .val (.long q2), .second, .val (.long ((v1001 ^^^ ((v1001.toUInt64 >>> ((33 : Int32) &&& 0x3f).toInt64.toUInt64).toInt64)) * (-49064778989728563 : Int64))), .second] []))
  generalize hv_v1002 : ((v1001 ^^^ ((v1001.toUInt64 >>> ((33 : Int32) &&& 0x3f).toInt64.toUInt64).toInt64)) * (-49064778989728563 : Int64)) = v1002
  show OEnds p.tables e below G (s₁.setTop (mkF m 23 #[.val (.long q1), .second, .val (.long q2), .second, .val (.long v1002), .second] []))
  refine OEnds.st (fun _ k => XS.lload X0.here hx rfl (hb hby d16_23) rfl k) ?_
  show OEnds p.tables e below G (s₁.setTop (mkF m 25 #[.val (.long q1), .second, .val (.long q2), .second, .val (.long v1002), .second] [(.long v1002)]))
  refine OEnds.st (fun _ k => XS.lload X0.here hx rfl (hb hby d16_25) rfl k) ?_
  show OEnds p.tables e below G (s₁.setTop (mkF m 27 #[.val (.long q1), .second, .val (.long q2), .second, .val (.long v1002), .second] [(.long v1002), (.long v1002)]))
  refine OEnds.st (fun _ k => XS.bipush X0.here hx rfl (hb hby d16_27) k) ?_
  show OEnds p.tables e below G (s₁.setTop (mkF m 29 #[.val (.long q1), .second, .val (.long q2), .second, .val (.long v1002), .second] [(.int (33 : Int32)), (.long v1002), (.long v1002)]))
  refine OEnds.st (fun _ k => XS.lushr X0.here hx rfl (hb hby d16_29) rfl k) ?_
  show OEnds p.tables e below G (s₁.setTop (mkF m 30 #[.val (.long q1), .second, .val (.long q2), .second, .val (.long v1002), .second] [(.long ((v1002.toUInt64 >>> ((33 : Int32) &&& 0x3f).toInt64.toUInt64).toInt64)), (.long v1002)]))
  refine OEnds.st (fun _ k => XS.lxor X0.here hx rfl (hb hby d16_30) rfl k) ?_
  show OEnds p.tables e below G (s₁.setTop (mkF m 31 #[.val (.long q1), .second, .val (.long q2), .second, .val (.long v1002), .second] [(.long (v1002 ^^^ ((v1002.toUInt64 >>> ((33 : Int32) &&& 0x3f).toInt64.toUInt64).toInt64)))]))
  refine OEnds.st (X0.ldc2Long hx hown (mvT hZ (hw _ (List.mem_of_getElem? (i := 83) rfl))) (g := (mkF m 31 #[.val (.long q1), .second, .val (.long q2), .second, .val (.long v1002), .second] [(.long (v1002 ^^^ ((v1002.toUInt64 >>> ((33 : Int32) &&& 0x3f).toInt64.toUInt64).toInt64)))])) rfl (hb hby d16_31)) ?_
  show OEnds p.tables e below G (s₁.setTop (mkF m 34 #[.val (.long q1), .second, .val (.long q2), .second, .val (.long v1002), .second] [(.long (-4265267296055464877 : Int64)), (.long (v1002 ^^^ ((v1002.toUInt64 >>> ((33 : Int32) &&& 0x3f).toInt64.toUInt64).toInt64)))]))
  refine OEnds.st (fun _ k => XS.lmul X0.here hx rfl (hb hby d16_34) rfl k) ?_
  show OEnds p.tables e below G (s₁.setTop (mkF m 35 #[.val (.long q1), .second, .val (.long q2), .second, .val (.long v1002), .second] [(.long ((v1002 ^^^ ((v1002.toUInt64 >>> ((33 : Int32) &&& 0x3f).toInt64.toUInt64).toInt64)) * (-4265267296055464877 : Int64)))]))
  refine OEnds.st (fun _ k => XS.lstore X0.here hx rfl (hb hby d16_35) rfl (l' := #[.val (.long q1), .second, .val (.long q2), .second, .val (.long ((v1002 ^^^ ((v1002.toUInt64 >>> ((33 : Int32) &&& 0x3f).toInt64.toUInt64).toInt64)) * (-4265267296055464877 : Int64))), .second]) rfl k) ?_
  show OEnds p.tables e below G (s₁.setTop (mkF m 37 #[.val (.long q1), .second, .val (.long q2), .second, .val (.long ((v1002 ^^^ ((v1002.toUInt64 >>> ((33 : Int32) &&& 0x3f).toInt64.toUInt64).toInt64)) * (-4265267296055464877 : Int64))), .second] []))
  generalize hv_v1003 : ((v1002 ^^^ ((v1002.toUInt64 >>> ((33 : Int32) &&& 0x3f).toInt64.toUInt64).toInt64)) * (-4265267296055464877 : Int64)) = v1003
  show OEnds p.tables e below G (s₁.setTop (mkF m 37 #[.val (.long q1), .second, .val (.long q2), .second, .val (.long v1003), .second] []))
  refine OEnds.st (fun _ k => XS.lload X0.here hx rfl (hb hby d16_37) rfl k) ?_
  show OEnds p.tables e below G (s₁.setTop (mkF m 39 #[.val (.long q1), .second, .val (.long q2), .second, .val (.long v1003), .second] [(.long v1003)]))
  refine OEnds.st (fun _ k => XS.lload X0.here hx rfl (hb hby d16_39) rfl k) ?_
  show OEnds p.tables e below G (s₁.setTop (mkF m 41 #[.val (.long q1), .second, .val (.long q2), .second, .val (.long v1003), .second] [(.long v1003), (.long v1003)]))
  refine OEnds.st (fun _ k => XS.bipush X0.here hx rfl (hb hby d16_41) k) ?_
  show OEnds p.tables e below G (s₁.setTop (mkF m 43 #[.val (.long q1), .second, .val (.long q2), .second, .val (.long v1003), .second] [(.int (33 : Int32)), (.long v1003), (.long v1003)]))
  refine OEnds.st (fun _ k => XS.lushr X0.here hx rfl (hb hby d16_43) rfl k) ?_
  show OEnds p.tables e below G (s₁.setTop (mkF m 44 #[.val (.long q1), .second, .val (.long q2), .second, .val (.long v1003), .second] [(.long ((v1003.toUInt64 >>> ((33 : Int32) &&& 0x3f).toInt64.toUInt64).toInt64)), (.long v1003)]))
  refine OEnds.st (fun _ k => XS.lxor X0.here hx rfl (hb hby d16_44) rfl k) ?_
  show OEnds p.tables e below G (s₁.setTop (mkF m 45 #[.val (.long q1), .second, .val (.long q2), .second, .val (.long v1003), .second] [(.long (v1003 ^^^ ((v1003.toUInt64 >>> ((33 : Int32) &&& 0x3f).toInt64.toUInt64).toInt64)))]))
  rw [← hG]
  refine OEnds.retJ X0 hx hlk Bd.returns (hb hby d16_45) (by decide) (by decide) ?_
  rw [e0]
  subst hv_v1001 hv_v1002 hv_v1003
  exact ⟨rfl, N0, rfl⟩
theorem ef_17 (m : MethodId) (q1 : Int64) (q2 : Int64) : entryFrame m #[(.long q1), (.long q2)] 4 = mkF m 0 #[.val (.long q1), .second, .val (.long q2), .second] [] := by first | (simp [entryFrame, mkF, argsToLocals, Value.category]; done) | rfl
def Q17 (Z : State) (q1 : Int64) (q2 : Int64) (h0 : Heap) (n0 : Nat) (v : Option Value) (h : Heap) (L : List Loc) : Prop := v = some (.long (own_min q1 q2)) ∧ Fr n0 L ∧ h = h0
theorem d17_0 : decode jdk_29_method_70_code 0 = .ok (.lload_n 0, 1) := by decide +kernel
theorem d17_1 : decode jdk_29_method_70_code 1 = .ok (.lload_n 2, 1) := by decide +kernel
theorem d17_2 : decode jdk_29_method_70_code 2 = .ok (.lcmp, 1) := by decide +kernel
theorem d17_3 : decode jdk_29_method_70_code 3 = .ok (.ifCond .gt 7, 3) := by decide +kernel
theorem d17_6 : decode jdk_29_method_70_code 6 = .ok (.lload_n 0, 1) := by decide +kernel
theorem d17_7 : decode jdk_29_method_70_code 7 = .ok (.goto 4, 3) := by decide +kernel
theorem d17_10 : decode jdk_29_method_70_code 10 = .ok (.lload_n 2, 1) := by decide +kernel
theorem d17_11 : decode jdk_29_method_70_code 11 = .ok (.lreturn, 1) := by decide +kernel
set_option maxRecDepth 65536 in
set_option maxHeartbeats 40000000 in
theorem rm17 (l : Launch) (Z : State) (a0 : Array Value) (hw : ∀ d ∈ tables_1, d.before a0 Z = true) (ws : List Jvm.Cond) (q1 : Int64) (q2 : Int64) (h0 : Heap) (n0 : Nat) (Z0 : n0 ≤ h0.size) :
    MetFree l (⟨"java/lang/Math", "min", "(JJ)J"⟩ : MethodName) (head1 (Jvm.Cond.code (⟨"java/lang/Math", "min", "(JJ)J"⟩ : MethodName) jdk_29_method_70_code 4 (some .long) :: ws) ({ frames := 0, cells := 0, slots := 0, locals := 0 } : Room)) (fun a U => a = #[(.long q1), (.long q2)] ∧ Z.Warmed39 U.vm ∧ U.heap = h0) (fun _ _ _ _ _ => True) (fun _ U o U' => ∃ v L, o = .returned v ∧ Q17 Z q1 q2 h0 n0 v U'.heap L ∧ FrameEnd U o U' L ({ frames := 0, cells := 0, slots := 0, locals := 0 } : Room).cells ({ frames := 0, cells := 0, slots := 0, locals := 0 } : Room).slots) := by
  refine MetFree.of_bodySF (Jvm.Free.JP.mathPlain rfl (by decide +kernel)) hisR ?_
  intro p e s m args below meth c s₁ Bd hml0 hP hK
  obtain ⟨rfl, hZ, hh⟩ := hP
  have hx := Bd.exec
  have hby := Bd.bytes
  have hml : c.maxLocals = 4 := hml0
  have hown : s.vm.findClass "java/lang/Math" = some m.cls := findClass_of_methodNamed Bd.named
  have hnm := (name_of_methodNamed Bd.named Bd.method).1
  have hlk : meth.locks = false := BodyLoose.notSynchronized Bd
  have X0 : Stand p l e ({ frames := 0, cells := 0, slots := 0, locals := 0 } : Room) s m #[(.long q1), (.long q2)] below meth c s₁ [] 0 0 := Stand.of_body Bd
  have e0 : s₁.heap = h0 := by rw [← hh, Bd.state]; rfl
  have N0 := Fr.nil n0
  show OEnds p.tables e below (OGoal (Q17 Z q1 q2 h0 n0) s 0 0) (s₁.setTop (entryFrame m #[(.long q1), (.long q2)] 4))
  refine OEnds.st (fun t k => castTop (ef_17 m q1 q2) k) ?_
  generalize hG : OGoal (Q17 Z q1 q2 h0 n0) s 0 0 = G
  have KK0 : Keep h0 h0 [] := Keep.refl h0 []
  show OEnds p.tables e below G (s₁.setTop (mkF m 0 #[.val (.long q1), .second, .val (.long q2), .second] []))
  refine OEnds.st (fun _ k => XS.lloadN X0.here hx rfl (hb hby d17_0) rfl k) ?_
  show OEnds p.tables e below G (s₁.setTop (mkF m 1 #[.val (.long q1), .second, .val (.long q2), .second] [(.long q1)]))
  refine OEnds.st (fun _ k => XS.lloadN X0.here hx rfl (hb hby d17_1) rfl k) ?_
  show OEnds p.tables e below G (s₁.setTop (mkF m 2 #[.val (.long q1), .second, .val (.long q2), .second] [(.long q2), (.long q1)]))
  refine OEnds.st (fun _ k => XS.lcmp X0.here hx rfl (hb hby d17_2) rfl k) ?_
  show OEnds p.tables e below G (s₁.setTop (mkF m 3 #[.val (.long q1), .second, .val (.long q2), .second] [(.int (lcmpW q1 q2))]))
  by_cases hc3_1001 : q2 < q1
  · -- pc 3: yes
    refine OEnds.st (fun _ k => XS.ifYes X0.here hx rfl (pc0 := 3) (pc' := 10) rfl (hb hby d17_3) rfl ((if0 _ _).trans (tlt ((lw_gt q1 q2).mpr hc3_1001)).2.2.1) (by decide) (by decide) k) ?_
    show OEnds p.tables e below G (s₁.setTop (mkF m 10 #[.val (.long q1), .second, .val (.long q2), .second] []))
    refine OEnds.st (fun _ k => XS.lloadN X0.here hx rfl (hb hby d17_10) rfl k) ?_
    show OEnds p.tables e below G (s₁.setTop (mkF m 11 #[.val (.long q1), .second, .val (.long q2), .second] [(.long q2)]))
    rw [← hG]
    refine OEnds.retJ X0 hx hlk Bd.returns (hb hby d17_11) (by decide) (by decide) ?_
    rw [e0]
    exact ⟨congrArg some (congrArg Value.long (by simp only [own_min, if_pos hc3_1001])), N0, rfl⟩
  · -- pc 3: no
    refine OEnds.st (fun _ k => XS.ifNo X0.here hx rfl (hb hby d17_3) rfl ((if0 _ _).trans (flt (fun q => hc3_1001 ((lw_gt q1 q2).mp q))).2.2.1) k) ?_
    show OEnds p.tables e below G (s₁.setTop (mkF m 6 #[.val (.long q1), .second, .val (.long q2), .second] []))
    refine OEnds.st (fun _ k => XS.lloadN X0.here hx rfl (hb hby d17_6) rfl k) ?_
    show OEnds p.tables e below G (s₁.setTop (mkF m 7 #[.val (.long q1), .second, .val (.long q2), .second] [(.long q1)]))
    refine OEnds.st (fun _ k => XS.goto X0.here hx rfl (pc0 := 7) (pc' := 11) rfl (hb hby d17_7) (by decide) (by decide) k) ?_
    show OEnds p.tables e below G (s₁.setTop (mkF m 11 #[.val (.long q1), .second, .val (.long q2), .second] [(.long q1)]))
    rw [← hG]
    refine OEnds.retJ X0 hx hlk Bd.returns (hb hby d17_11) (by decide) (by decide) ?_
    rw [e0]
    exact ⟨congrArg some (congrArg Value.long (by simp only [own_min, if_neg hc3_1001])), N0, rfl⟩
theorem ef_18 (m : MethodId) (q1 : Int64) (q2 : Int64) : entryFrame m #[(.long q1), (.long q2)] 4 = mkF m 0 #[.val (.long q1), .second, .val (.long q2), .second] [] := by first | (simp [entryFrame, mkF, argsToLocals, Value.category]; done) | rfl
def Q18 (Z : State) (q1 : Int64) (q2 : Int64) (h0 : Heap) (n0 : Nat) (v : Option Value) (h : Heap) (L : List Loc) : Prop := v = some (.long (own_max q1 q2)) ∧ Fr n0 L ∧ h = h0
theorem d18_0 : decode jdk_29_method_66_code 0 = .ok (.lload_n 0, 1) := by decide +kernel
theorem d18_1 : decode jdk_29_method_66_code 1 = .ok (.lload_n 2, 1) := by decide +kernel
theorem d18_2 : decode jdk_29_method_66_code 2 = .ok (.lcmp, 1) := by decide +kernel
theorem d18_3 : decode jdk_29_method_66_code 3 = .ok (.ifCond .lt 7, 3) := by decide +kernel
theorem d18_6 : decode jdk_29_method_66_code 6 = .ok (.lload_n 0, 1) := by decide +kernel
theorem d18_7 : decode jdk_29_method_66_code 7 = .ok (.goto 4, 3) := by decide +kernel
theorem d18_10 : decode jdk_29_method_66_code 10 = .ok (.lload_n 2, 1) := by decide +kernel
theorem d18_11 : decode jdk_29_method_66_code 11 = .ok (.lreturn, 1) := by decide +kernel
set_option maxRecDepth 65536 in
set_option maxHeartbeats 40000000 in
theorem rm18 (l : Launch) (Z : State) (a0 : Array Value) (hw : ∀ d ∈ tables_1, d.before a0 Z = true) (ws : List Jvm.Cond) (q1 : Int64) (q2 : Int64) (h0 : Heap) (n0 : Nat) (Z0 : n0 ≤ h0.size) :
    MetFree l (⟨"java/lang/Math", "max", "(JJ)J"⟩ : MethodName) (head1 (Jvm.Cond.code (⟨"java/lang/Math", "max", "(JJ)J"⟩ : MethodName) jdk_29_method_66_code 4 (some .long) :: ws) ({ frames := 0, cells := 0, slots := 0, locals := 0 } : Room)) (fun a U => a = #[(.long q1), (.long q2)] ∧ Z.Warmed39 U.vm ∧ U.heap = h0) (fun _ _ _ _ _ => True) (fun _ U o U' => ∃ v L, o = .returned v ∧ Q18 Z q1 q2 h0 n0 v U'.heap L ∧ FrameEnd U o U' L ({ frames := 0, cells := 0, slots := 0, locals := 0 } : Room).cells ({ frames := 0, cells := 0, slots := 0, locals := 0 } : Room).slots) := by
  refine MetFree.of_bodySF (Jvm.Free.JP.mathPlain rfl (by decide +kernel)) hisR ?_
  intro p e s m args below meth c s₁ Bd hml0 hP hK
  obtain ⟨rfl, hZ, hh⟩ := hP
  have hx := Bd.exec
  have hby := Bd.bytes
  have hml : c.maxLocals = 4 := hml0
  have hown : s.vm.findClass "java/lang/Math" = some m.cls := findClass_of_methodNamed Bd.named
  have hnm := (name_of_methodNamed Bd.named Bd.method).1
  have hlk : meth.locks = false := BodyLoose.notSynchronized Bd
  have X0 : Stand p l e ({ frames := 0, cells := 0, slots := 0, locals := 0 } : Room) s m #[(.long q1), (.long q2)] below meth c s₁ [] 0 0 := Stand.of_body Bd
  have e0 : s₁.heap = h0 := by rw [← hh, Bd.state]; rfl
  have N0 := Fr.nil n0
  show OEnds p.tables e below (OGoal (Q18 Z q1 q2 h0 n0) s 0 0) (s₁.setTop (entryFrame m #[(.long q1), (.long q2)] 4))
  refine OEnds.st (fun t k => castTop (ef_18 m q1 q2) k) ?_
  generalize hG : OGoal (Q18 Z q1 q2 h0 n0) s 0 0 = G
  have KK0 : Keep h0 h0 [] := Keep.refl h0 []
  show OEnds p.tables e below G (s₁.setTop (mkF m 0 #[.val (.long q1), .second, .val (.long q2), .second] []))
  refine OEnds.st (fun _ k => XS.lloadN X0.here hx rfl (hb hby d18_0) rfl k) ?_
  show OEnds p.tables e below G (s₁.setTop (mkF m 1 #[.val (.long q1), .second, .val (.long q2), .second] [(.long q1)]))
  refine OEnds.st (fun _ k => XS.lloadN X0.here hx rfl (hb hby d18_1) rfl k) ?_
  show OEnds p.tables e below G (s₁.setTop (mkF m 2 #[.val (.long q1), .second, .val (.long q2), .second] [(.long q2), (.long q1)]))
  refine OEnds.st (fun _ k => XS.lcmp X0.here hx rfl (hb hby d18_2) rfl k) ?_
  show OEnds p.tables e below G (s₁.setTop (mkF m 3 #[.val (.long q1), .second, .val (.long q2), .second] [(.int (lcmpW q1 q2))]))
  by_cases hc3_1001 : q1 < q2
  · -- pc 3: yes
    refine OEnds.st (fun _ k => XS.ifYes X0.here hx rfl (pc0 := 3) (pc' := 10) rfl (hb hby d18_3) rfl ((if0 _ _).trans (tlt ((lw_lt q1 q2).mpr hc3_1001)).1) (by decide) (by decide) k) ?_
    show OEnds p.tables e below G (s₁.setTop (mkF m 10 #[.val (.long q1), .second, .val (.long q2), .second] []))
    refine OEnds.st (fun _ k => XS.lloadN X0.here hx rfl (hb hby d18_10) rfl k) ?_
    show OEnds p.tables e below G (s₁.setTop (mkF m 11 #[.val (.long q1), .second, .val (.long q2), .second] [(.long q2)]))
    rw [← hG]
    refine OEnds.retJ X0 hx hlk Bd.returns (hb hby d18_11) (by decide) (by decide) ?_
    rw [e0]
    exact ⟨congrArg some (congrArg Value.long (by simp only [own_max, if_pos hc3_1001])), N0, rfl⟩
  · -- pc 3: no
    refine OEnds.st (fun _ k => XS.ifNo X0.here hx rfl (hb hby d18_3) rfl ((if0 _ _).trans (flt (fun q => hc3_1001 ((lw_lt q1 q2).mp q))).1) k) ?_
    show OEnds p.tables e below G (s₁.setTop (mkF m 6 #[.val (.long q1), .second, .val (.long q2), .second] []))
    refine OEnds.st (fun _ k => XS.lloadN X0.here hx rfl (hb hby d18_6) rfl k) ?_
    show OEnds p.tables e below G (s₁.setTop (mkF m 7 #[.val (.long q1), .second, .val (.long q2), .second] [(.long q1)]))
    refine OEnds.st (fun _ k => XS.goto X0.here hx rfl (pc0 := 7) (pc' := 11) rfl (hb hby d18_7) (by decide) (by decide) k) ?_
    show OEnds p.tables e below G (s₁.setTop (mkF m 11 #[.val (.long q1), .second, .val (.long q2), .second] [(.long q1)]))
    rw [← hG]
    refine OEnds.retJ X0 hx hlk Bd.returns (hb hby d18_11) (by decide) (by decide) ?_
    rw [e0]
    exact ⟨congrArg some (congrArg Value.long (by simp only [own_max, if_neg hc3_1001])), N0, rfl⟩
theorem ef_mx1 (m : MethodId)  : entryFrame m #[(.int (1 : Int32)), (.int (1 : Int32))] 2 = mkF m 0 #[.val (.int (1 : Int32)), .val (.int (1 : Int32))] [] := by first | (simp [entryFrame, mkF, argsToLocals, Value.category]; done) | rfl
def Qmx1 (Z : State)  (h0 : Heap) (n0 : Nat) (v : Option Value) (h : Heap) (L : List Loc) : Prop := v = some (.int (1 : Int32)) ∧ Fr n0 L ∧ h = h0
theorem d4_0 : decode jdk_29_method_65_code 0 = .ok (.iload_n 0, 1) := by decide +kernel
theorem d4_1 : decode jdk_29_method_65_code 1 = .ok (.iload_n 1, 1) := by decide +kernel
theorem d4_2 : decode jdk_29_method_65_code 2 = .ok (.if_icmp .lt 7, 3) := by decide +kernel
theorem d4_5 : decode jdk_29_method_65_code 5 = .ok (.iload_n 0, 1) := by decide +kernel
theorem d4_6 : decode jdk_29_method_65_code 6 = .ok (.goto 4, 3) := by decide +kernel
theorem d4_10 : decode jdk_29_method_65_code 10 = .ok (.ireturn, 1) := by decide +kernel
set_option maxRecDepth 65536 in
set_option maxHeartbeats 40000000 in
theorem rmmx1 (l : Launch) (Z : State) (a0 : Array Value) (hw : ∀ d ∈ tables_1, d.before a0 Z = true) (ws : List Jvm.Cond)  (h0 : Heap) (n0 : Nat) (Z0 : n0 ≤ h0.size) :
    MetFree l (⟨"java/lang/Math", "max", "(II)I"⟩ : MethodName) (head1 (Jvm.Cond.code (⟨"java/lang/Math", "max", "(II)I"⟩ : MethodName) jdk_29_method_65_code 2 (some .int) :: ws) ({ frames := 0, cells := 0, slots := 0, locals := 0 } : Room)) (fun a U => a = #[(.int (1 : Int32)), (.int (1 : Int32))] ∧ Z.Warmed39 U.vm ∧ U.heap = h0) (fun _ _ _ _ _ => True) (fun _ U o U' => ∃ v L, o = .returned v ∧ Qmx1 Z  h0 n0 v U'.heap L ∧ FrameEnd U o U' L ({ frames := 0, cells := 0, slots := 0, locals := 0 } : Room).cells ({ frames := 0, cells := 0, slots := 0, locals := 0 } : Room).slots) := by
  refine MetFree.of_bodySF (Jvm.Free.JP.mathPlain rfl (by decide +kernel)) hisR ?_
  intro p e s m args below meth c s₁ Bd hml0 hP hK
  obtain ⟨rfl, hZ, hh⟩ := hP
  have hx := Bd.exec
  have hby := Bd.bytes
  have hml : c.maxLocals = 2 := hml0
  have hown : s.vm.findClass "java/lang/Math" = some m.cls := findClass_of_methodNamed Bd.named
  have hnm := (name_of_methodNamed Bd.named Bd.method).1
  have hlk : meth.locks = false := BodyLoose.notSynchronized Bd
  have X0 : Stand p l e ({ frames := 0, cells := 0, slots := 0, locals := 0 } : Room) s m #[(.int (1 : Int32)), (.int (1 : Int32))] below meth c s₁ [] 0 0 := Stand.of_body Bd
  have e0 : s₁.heap = h0 := by rw [← hh, Bd.state]; rfl
  have N0 := Fr.nil n0
  show OEnds p.tables e below (OGoal (Qmx1 Z  h0 n0) s 0 0) (s₁.setTop (entryFrame m #[(.int (1 : Int32)), (.int (1 : Int32))] 2))
  refine OEnds.st (fun t k => castTop (ef_mx1 m ) k) ?_
  generalize hG : OGoal (Qmx1 Z  h0 n0) s 0 0 = G
  have KK0 : Keep h0 h0 [] := Keep.refl h0 []
  show OEnds p.tables e below G (s₁.setTop (mkF m 0 #[.val (.int (1 : Int32)), .val (.int (1 : Int32))] []))
  refine OEnds.st (fun _ k => XS.iloadN X0.here hx rfl (hb hby d4_0) rfl k) ?_
  show OEnds p.tables e below G (s₁.setTop (mkF m 1 #[.val (.int (1 : Int32)), .val (.int (1 : Int32))] [(.int (1 : Int32))]))
  refine OEnds.st (fun _ k => XS.iloadN X0.here hx rfl (hb hby d4_1) rfl k) ?_
  show OEnds p.tables e below G (s₁.setTop (mkF m 2 #[.val (.int (1 : Int32)), .val (.int (1 : Int32))] [(.int (1 : Int32)), (.int (1 : Int32))]))
  refine OEnds.st (fun _ k => XS.icmpNo X0.here hx rfl (hb hby d4_2) rfl (flt (by decide : ¬ ((1 : Int32) < (1 : Int32)))).1 k) ?_
  show OEnds p.tables e below G (s₁.setTop (mkF m 5 #[.val (.int (1 : Int32)), .val (.int (1 : Int32))] []))
  refine OEnds.st (fun _ k => XS.iloadN X0.here hx rfl (hb hby d4_5) rfl k) ?_
  show OEnds p.tables e below G (s₁.setTop (mkF m 6 #[.val (.int (1 : Int32)), .val (.int (1 : Int32))] [(.int (1 : Int32))]))
  refine OEnds.st (fun _ k => XS.goto X0.here hx rfl (pc0 := 6) (pc' := 10) rfl (hb hby d4_6) (by decide) (by decide) k) ?_
  show OEnds p.tables e below G (s₁.setTop (mkF m 10 #[.val (.int (1 : Int32)), .val (.int (1 : Int32))] [(.int (1 : Int32))]))
  rw [← hG]
  refine OEnds.retI X0 hx hlk Bd.returns (hb hby d4_10) (by decide) (by decide) ?_
  rw [e0]
  exact ⟨rfl, N0, rfl⟩
theorem pn_2 : plainName "java/lang/Integer" = true := by first | (simp [plainName, overriddenIn]; done) | decide +kernel
theorem ef_nl1 (m : MethodId)  : entryFrame m #[(.int (1 : Int32))] 2 = mkF m 0 #[.val (.int (1 : Int32)), .unset] [] := by first | (simp [entryFrame, mkF, argsToLocals, Value.category]; done) | rfl
def Qnl1 (Z : State)  (h0 : Heap) (n0 : Nat) (v : Option Value) (h : Heap) (L : List Loc) : Prop := v = some (.int (31 : Int32)) ∧ Fr n0 L ∧ h = h0
theorem d6_0 : decode jdk_33_method_47_code 0 = .ok (.iload_n 0, 1) := by decide +kernel
theorem d6_1 : decode jdk_33_method_47_code 1 = .ok (.ifCond .gt 14, 3) := by decide +kernel
theorem d6_15 : decode jdk_33_method_47_code 15 = .ok (.bipush 31, 2) := by decide +kernel
theorem d6_17 : decode jdk_33_method_47_code 17 = .ok (.istore_n 1, 1) := by decide +kernel
theorem d6_18 : decode jdk_33_method_47_code 18 = .ok (.iload_n 0, 1) := by decide +kernel
theorem d6_19 : decode jdk_33_method_47_code 19 = .ok (.ldc_w 264, 3) := by decide +kernel
theorem d6_22 : decode jdk_33_method_47_code 22 = .ok (.if_icmp .lt 11, 3) := by decide +kernel
theorem d6_33 : decode jdk_33_method_47_code 33 = .ok (.iload_n 0, 1) := by decide +kernel
theorem d6_34 : decode jdk_33_method_47_code 34 = .ok (.sipush 256, 3) := by decide +kernel
theorem d6_37 : decode jdk_33_method_47_code 37 = .ok (.if_icmp .lt 11, 3) := by decide +kernel
theorem d6_48 : decode jdk_33_method_47_code 48 = .ok (.iload_n 0, 1) := by decide +kernel
theorem d6_49 : decode jdk_33_method_47_code 49 = .ok (.bipush 16, 2) := by decide +kernel
theorem d6_51 : decode jdk_33_method_47_code 51 = .ok (.if_icmp .lt 10, 3) := by decide +kernel
theorem d6_61 : decode jdk_33_method_47_code 61 = .ok (.iload_n 0, 1) := by decide +kernel
theorem d6_62 : decode jdk_33_method_47_code 62 = .ok (.iconst 4, 1) := by decide +kernel
theorem d6_63 : decode jdk_33_method_47_code 63 = .ok (.if_icmp .lt 10, 3) := by decide +kernel
theorem d6_73 : decode jdk_33_method_47_code 73 = .ok (.iload_n 1, 1) := by decide +kernel
theorem d6_74 : decode jdk_33_method_47_code 74 = .ok (.iload_n 0, 1) := by decide +kernel
theorem d6_75 : decode jdk_33_method_47_code 75 = .ok (.iconst 1, 1) := by decide +kernel
theorem d6_76 : decode jdk_33_method_47_code 76 = .ok (.iushr, 1) := by decide +kernel
theorem d6_77 : decode jdk_33_method_47_code 77 = .ok (.isub, 1) := by decide +kernel
theorem d6_78 : decode jdk_33_method_47_code 78 = .ok (.ireturn, 1) := by decide +kernel
set_option maxRecDepth 65536 in
set_option maxHeartbeats 40000000 in
theorem rmnl1 (l : Launch) (Z : State) (a0 : Array Value) (hw : ∀ d ∈ tables_1, d.before a0 Z = true) (ws : List Jvm.Cond)  (h0 : Heap) (n0 : Nat) (Z0 : n0 ≤ h0.size) :
    MetFree l (⟨"java/lang/Integer", "numberOfLeadingZeros", "(I)I"⟩ : MethodName) (head1 (Jvm.Cond.code (⟨"java/lang/Integer", "numberOfLeadingZeros", "(I)I"⟩ : MethodName) jdk_33_method_47_code 2 (some .int) :: ws) ({ frames := 0, cells := 0, slots := 0, locals := 0 } : Room)) (fun a U => a = #[(.int (1 : Int32))] ∧ Z.Warmed39 U.vm ∧ U.heap = h0) (fun _ _ _ _ _ => True) (fun _ U o U' => ∃ v L, o = .returned v ∧ Qnl1 Z  h0 n0 v U'.heap L ∧ FrameEnd U o U' L ({ frames := 0, cells := 0, slots := 0, locals := 0 } : Room).cells ({ frames := 0, cells := 0, slots := 0, locals := 0 } : Room).slots) := by
  refine MetFree.of_bodySF (plainFor_of_name pn_2) hisR ?_
  intro p e s m args below meth c s₁ Bd hml0 hP hK
  obtain ⟨rfl, hZ, hh⟩ := hP
  have hx := Bd.exec
  have hby := Bd.bytes
  have hml : c.maxLocals = 2 := hml0
  have hown : s.vm.findClass "java/lang/Integer" = some m.cls := findClass_of_methodNamed Bd.named
  have hnm := (name_of_methodNamed Bd.named Bd.method).1
  have hlk : meth.locks = false := BodyLoose.notSynchronized Bd
  have X0 : Stand p l e ({ frames := 0, cells := 0, slots := 0, locals := 0 } : Room) s m #[(.int (1 : Int32))] below meth c s₁ [] 0 0 := Stand.of_body Bd
  have e0 : s₁.heap = h0 := by rw [← hh, Bd.state]; rfl
  have N0 := Fr.nil n0
  show OEnds p.tables e below (OGoal (Qnl1 Z  h0 n0) s 0 0) (s₁.setTop (entryFrame m #[(.int (1 : Int32))] 2))
  refine OEnds.st (fun t k => castTop (ef_nl1 m ) k) ?_
  generalize hG : OGoal (Qnl1 Z  h0 n0) s 0 0 = G
  have KK0 : Keep h0 h0 [] := Keep.refl h0 []
  show OEnds p.tables e below G (s₁.setTop (mkF m 0 #[.val (.int (1 : Int32)), .unset] []))
  refine OEnds.st (fun _ k => XS.iloadN X0.here hx rfl (hb hby d6_0) rfl k) ?_
  show OEnds p.tables e below G (s₁.setTop (mkF m 1 #[.val (.int (1 : Int32)), .unset] [(.int (1 : Int32))]))
  refine OEnds.st (fun _ k => XS.ifYes X0.here hx rfl (pc0 := 1) (pc' := 15) rfl (hb hby d6_1) rfl ((if0 _ _).trans (tlt (by decide : (0 : Int32) < (1 : Int32))).2.2.1) (by decide) (by decide) k) ?_
  show OEnds p.tables e below G (s₁.setTop (mkF m 15 #[.val (.int (1 : Int32)), .unset] []))
  refine OEnds.st (fun _ k => XS.bipush X0.here hx rfl (hb hby d6_15) k) ?_
  show OEnds p.tables e below G (s₁.setTop (mkF m 17 #[.val (.int (1 : Int32)), .unset] [(.int (31 : Int32))]))
  refine OEnds.st (fun _ k => XS.istoreN X0.here hx rfl (hb hby d6_17) rfl (l' := #[.val (.int (1 : Int32)), .val (.int (31 : Int32))]) rfl k) ?_
  show OEnds p.tables e below G (s₁.setTop (mkF m 18 #[.val (.int (1 : Int32)), .val (.int (31 : Int32))] []))
  refine OEnds.st (fun _ k => XS.iloadN X0.here hx rfl (hb hby d6_18) rfl k) ?_
  show OEnds p.tables e below G (s₁.setTop (mkF m 19 #[.val (.int (1 : Int32)), .val (.int (31 : Int32))] [(.int (1 : Int32))]))
  refine OEnds.st (X0.ldcwInt hx hown (mvT hZ (hw _ (List.mem_of_getElem? (i := 28) rfl))) (g := (mkF m 19 #[.val (.int (1 : Int32)), .val (.int (31 : Int32))] [(.int (1 : Int32))])) rfl (hb hby d6_19)) ?_
  show OEnds p.tables e below G (s₁.setTop (mkF m 22 #[.val (.int (1 : Int32)), .val (.int (31 : Int32))] [(.int (65536 : Int32)), (.int (1 : Int32))]))
  refine OEnds.st (fun _ k => XS.icmpYes X0.here hx rfl (pc0 := 22) (pc' := 33) rfl (hb hby d6_22) rfl (tlt (by decide : (1 : Int32) < (65536 : Int32))).1 (by decide) (by decide) k) ?_
  show OEnds p.tables e below G (s₁.setTop (mkF m 33 #[.val (.int (1 : Int32)), .val (.int (31 : Int32))] []))
  refine OEnds.st (fun _ k => XS.iloadN X0.here hx rfl (hb hby d6_33) rfl k) ?_
  show OEnds p.tables e below G (s₁.setTop (mkF m 34 #[.val (.int (1 : Int32)), .val (.int (31 : Int32))] [(.int (1 : Int32))]))
  refine OEnds.st (fun _ k => XS.sipush X0.here hx rfl (hb hby d6_34) k) ?_
  show OEnds p.tables e below G (s₁.setTop (mkF m 37 #[.val (.int (1 : Int32)), .val (.int (31 : Int32))] [(.int (256 : Int32)), (.int (1 : Int32))]))
  refine OEnds.st (fun _ k => XS.icmpYes X0.here hx rfl (pc0 := 37) (pc' := 48) rfl (hb hby d6_37) rfl (tlt (by decide : (1 : Int32) < (256 : Int32))).1 (by decide) (by decide) k) ?_
  show OEnds p.tables e below G (s₁.setTop (mkF m 48 #[.val (.int (1 : Int32)), .val (.int (31 : Int32))] []))
  refine OEnds.st (fun _ k => XS.iloadN X0.here hx rfl (hb hby d6_48) rfl k) ?_
  show OEnds p.tables e below G (s₁.setTop (mkF m 49 #[.val (.int (1 : Int32)), .val (.int (31 : Int32))] [(.int (1 : Int32))]))
  refine OEnds.st (fun _ k => XS.bipush X0.here hx rfl (hb hby d6_49) k) ?_
  show OEnds p.tables e below G (s₁.setTop (mkF m 51 #[.val (.int (1 : Int32)), .val (.int (31 : Int32))] [(.int (16 : Int32)), (.int (1 : Int32))]))
  refine OEnds.st (fun _ k => XS.icmpYes X0.here hx rfl (pc0 := 51) (pc' := 61) rfl (hb hby d6_51) rfl (tlt (by decide : (1 : Int32) < (16 : Int32))).1 (by decide) (by decide) k) ?_
  show OEnds p.tables e below G (s₁.setTop (mkF m 61 #[.val (.int (1 : Int32)), .val (.int (31 : Int32))] []))
  refine OEnds.st (fun _ k => XS.iloadN X0.here hx rfl (hb hby d6_61) rfl k) ?_
  show OEnds p.tables e below G (s₁.setTop (mkF m 62 #[.val (.int (1 : Int32)), .val (.int (31 : Int32))] [(.int (1 : Int32))]))
  refine OEnds.st (fun _ k => XS.iconst X0.here hx rfl (hb hby d6_62) k) ?_
  show OEnds p.tables e below G (s₁.setTop (mkF m 63 #[.val (.int (1 : Int32)), .val (.int (31 : Int32))] [(.int (4 : Int32)), (.int (1 : Int32))]))
  refine OEnds.st (fun _ k => XS.icmpYes X0.here hx rfl (pc0 := 63) (pc' := 73) rfl (hb hby d6_63) rfl (tlt (by decide : (1 : Int32) < (4 : Int32))).1 (by decide) (by decide) k) ?_
  show OEnds p.tables e below G (s₁.setTop (mkF m 73 #[.val (.int (1 : Int32)), .val (.int (31 : Int32))] []))
  refine OEnds.st (fun _ k => XS.iloadN X0.here hx rfl (hb hby d6_73) rfl k) ?_
  show OEnds p.tables e below G (s₁.setTop (mkF m 74 #[.val (.int (1 : Int32)), .val (.int (31 : Int32))] [(.int (31 : Int32))]))
  refine OEnds.st (fun _ k => XS.iloadN X0.here hx rfl (hb hby d6_74) rfl k) ?_
  show OEnds p.tables e below G (s₁.setTop (mkF m 75 #[.val (.int (1 : Int32)), .val (.int (31 : Int32))] [(.int (1 : Int32)), (.int (31 : Int32))]))
  refine OEnds.st (fun _ k => XS.iconst X0.here hx rfl (hb hby d6_75) k) ?_
  show OEnds p.tables e below G (s₁.setTop (mkF m 76 #[.val (.int (1 : Int32)), .val (.int (31 : Int32))] [(.int (1 : Int32)), (.int (1 : Int32)), (.int (31 : Int32))]))
  refine OEnds.st (fun _ k => XS.iushr X0.here hx rfl (hb hby d6_76) rfl k) ?_
  show OEnds p.tables e below G (s₁.setTop (mkF m 77 #[.val (.int (1 : Int32)), .val (.int (31 : Int32))] [(.int (((1 : Int32).toUInt32 >>> ((1 : Int32) &&& 31).toUInt32).toInt32)), (.int (31 : Int32))]))
  rw [show (((1 : Int32).toUInt32 >>> ((1 : Int32) &&& 31).toUInt32).toInt32) = (0 : Int32) from by decide]
  show OEnds p.tables e below G (s₁.setTop (mkF m 77 #[.val (.int (1 : Int32)), .val (.int (31 : Int32))] [(.int (0 : Int32)), (.int (31 : Int32))]))
  refine OEnds.st (fun _ k => XS.isub X0.here hx rfl (hb hby d6_77) rfl k) ?_
  show OEnds p.tables e below G (s₁.setTop (mkF m 78 #[.val (.int (1 : Int32)), .val (.int (31 : Int32))] [(.int ((31 : Int32) - (0 : Int32)))]))
  rw [show ((31 : Int32) - (0 : Int32)) = (31 : Int32) from by decide]
  show OEnds p.tables e below G (s₁.setTop (mkF m 78 #[.val (.int (1 : Int32)), .val (.int (31 : Int32))] [(.int (31 : Int32))]))
  rw [← hG]
  refine OEnds.retI X0 hx hlk Bd.returns (hb hby d6_78) (by decide) (by decide) ?_
  rw [e0]
  exact ⟨rfl, N0, rfl⟩
theorem ef_ho1 (m : MethodId)  : entryFrame m #[(.int (1 : Int32))] 1 = mkF m 0 #[.val (.int (1 : Int32))] [] := by first | (simp [entryFrame, mkF, argsToLocals, Value.category]; done) | rfl
def Qho1 (Z : State)  (h0 : Heap) (n0 : Nat) (v : Option Value) (h : Heap) (L : List Loc) : Prop := v = some (.int (1 : Int32)) ∧ Fr n0 L ∧ h = h0
theorem pd_0 : parseMethodDescriptor "(I)I" = some ⟨[.int], some .int⟩ := by decide +kernel
theorem d5_0 : decode jdk_33_method_45_code 0 = .ok (.iload_n 0, 1) := by decide +kernel
theorem d5_1 : decode jdk_33_method_45_code 1 = .ok (.ldc 127, 2) := by decide +kernel
theorem d5_3 : decode jdk_33_method_45_code 3 = .ok (.iload_n 0, 1) := by decide +kernel
theorem d5_4 : decode jdk_33_method_45_code 4 = .ok (.invokestatic 51, 3) := by decide +kernel
theorem d5_7 : decode jdk_33_method_45_code 7 = .ok (.iushr, 1) := by decide +kernel
theorem d5_8 : decode jdk_33_method_45_code 8 = .ok (.iand, 1) := by decide +kernel
theorem d5_9 : decode jdk_33_method_45_code 9 = .ok (.ireturn, 1) := by decide +kernel
set_option maxRecDepth 65536 in
set_option maxHeartbeats 40000000 in
theorem rmho1 (l : Launch) (Z : State) (a0 : Array Value) (hw : ∀ d ∈ tables_1, d.before a0 Z = true) (ws : List Jvm.Cond)  (h0 : Heap) (n0 : Nat) (Z0 : n0 ≤ h0.size) :
    MetFree l (⟨"java/lang/Integer", "highestOneBit", "(I)I"⟩ : MethodName) (head1 (Jvm.Cond.code (⟨"java/lang/Integer", "highestOneBit", "(I)I"⟩ : MethodName) jdk_33_method_45_code 1 (some .int) :: ws) ({ frames := 1, cells := 0, slots := 0, locals := 15 } : Room)) (fun a U => a = #[(.int (1 : Int32))] ∧ Z.Warmed39 U.vm ∧ U.heap = h0) (fun _ _ _ _ _ => True) (fun _ U o U' => ∃ v L, o = .returned v ∧ Qho1 Z  h0 n0 v U'.heap L ∧ FrameEnd U o U' L ({ frames := 1, cells := 0, slots := 0, locals := 15 } : Room).cells ({ frames := 1, cells := 0, slots := 0, locals := 15 } : Room).slots) := by
  refine MetFree.of_bodySF (plainFor_of_name pn_2) hisR ?_
  intro p e s m args below meth c s₁ Bd hml0 hP hK
  obtain ⟨rfl, hZ, hh⟩ := hP
  have hx := Bd.exec
  have hby := Bd.bytes
  have hml : c.maxLocals = 1 := hml0
  have hown : s.vm.findClass "java/lang/Integer" = some m.cls := findClass_of_methodNamed Bd.named
  have hnm := (name_of_methodNamed Bd.named Bd.method).1
  have hlk : meth.locks = false := BodyLoose.notSynchronized Bd
  have X0 : Stand p l e ({ frames := 1, cells := 0, slots := 0, locals := 15 } : Room) s m #[(.int (1 : Int32))] below meth c s₁ [] 0 0 := Stand.of_body Bd
  have e0 : s₁.heap = h0 := by rw [← hh, Bd.state]; rfl
  have N0 := Fr.nil n0
  show OEnds p.tables e below (OGoal (Qho1 Z  h0 n0) s 0 0) (s₁.setTop (entryFrame m #[(.int (1 : Int32))] 1))
  refine OEnds.st (fun t k => castTop (ef_ho1 m ) k) ?_
  generalize hG : OGoal (Qho1 Z  h0 n0) s 0 0 = G
  have KK0 : Keep h0 h0 [] := Keep.refl h0 []
  show OEnds p.tables e below G (s₁.setTop (mkF m 0 #[.val (.int (1 : Int32))] []))
  refine OEnds.st (fun _ k => XS.iloadN X0.here hx rfl (hb hby d5_0) rfl k) ?_
  show OEnds p.tables e below G (s₁.setTop (mkF m 1 #[.val (.int (1 : Int32))] [(.int (1 : Int32))]))
  refine OEnds.st (X0.ldcInt hx hown (mvT hZ (hw _ (List.mem_of_getElem? (i := 24) rfl))) (g := (mkF m 1 #[.val (.int (1 : Int32))] [(.int (1 : Int32))])) rfl (hb hby d5_1)) ?_
  show OEnds p.tables e below G (s₁.setTop (mkF m 3 #[.val (.int (1 : Int32))] [(.int (-2147483648 : Int32)), (.int (1 : Int32))]))
  refine OEnds.st (fun _ k => XS.iloadN X0.here hx rfl (hb hby d5_3) rfl k) ?_
  show OEnds p.tables e below G (s₁.setTop (mkF m 4 #[.val (.int (1 : Int32))] [(.int (1 : Int32)), (.int (-2147483648 : Int32)), (.int (1 : Int32))]))
  obtain ⟨_, _, ⟨T1001, L1001, k1001c, n1001c⟩, -, X1001, ⟨Lc1001, hQ1001, l1001, y1001, z1001⟩, st1001⟩ := Jvm.LawKit.callS X0 hx (y := (⟨"java/lang/Integer", "numberOfLeadingZeros", "(I)I"⟩ : MethodName)) hown (mvT hZ (hw _ (List.mem_of_getElem? (i := 25) rfl))) (mvT hZ (hw _ (List.mem_of_getElem? (i := 26) rfl))) (mvT hZ (hw _ (List.mem_of_getElem? (i := 22) rfl))) (mvT hZ (hw _ (List.mem_of_getElem? (i := 27) rfl))) (by decide) (backOf (W := 2) (rmnl1 l Z a0 hw []  h0 n0 Z0 ) hZ (hw _ (List.mem_of_getElem? (i := 27) rfl)) (hw _ (List.mem_of_getElem? (i := 22) rfl)) (by decide) (by decide)) (g := (mkF m 4 #[.val (.int (1 : Int32))] [(.int (1 : Int32)), (.int (-2147483648 : Int32)), (.int (1 : Int32))])) rfl (by rw [hml]; rfl) (argsL := [(.int (1 : Int32))]) (rest := [(.int (-2147483648 : Int32)), (.int (1 : Int32))]) (lenOf pd_0 rfl) rfl (by show 2 * 0 + _ ≤ _; exact Nat.le_of_eq rfl) (hb hby d5_4) (fun _ _ => ⟨rfl, e0, (by decide : 0 + 0 ≤ _), (by decide : 0 + 0 ≤ _)⟩)
  dsimp only [Pt.U, Pt.locs, Pt.cells, Pt.slots] at X1001 l1001 y1001 z1001 st1001 hQ1001
  subst l1001 y1001 z1001
  obtain ⟨rfl, N1001q, e1001⟩ := hQ1001
  have N1001 := Fr.app N0 N1001q
  refine OEnds.st st1001 ?_
  clear st1001
  show OEnds p.tables e below G (T1001.setTop (mkF m 7 #[.val (.int (1 : Int32))] [(.int (31 : Int32)), (.int (-2147483648 : Int32)), (.int (1 : Int32))]))
  refine OEnds.st (fun _ k => XS.iushr X1001.here hx rfl (hb hby d5_7) rfl k) ?_
  show OEnds p.tables e below G (T1001.setTop (mkF m 8 #[.val (.int (1 : Int32))] [(.int (((-2147483648 : Int32).toUInt32 >>> ((31 : Int32) &&& 31).toUInt32).toInt32)), (.int (1 : Int32))]))
  rw [show (((-2147483648 : Int32).toUInt32 >>> ((31 : Int32) &&& 31).toUInt32).toInt32) = (1 : Int32) from by decide]
  show OEnds p.tables e below G (T1001.setTop (mkF m 8 #[.val (.int (1 : Int32))] [(.int (1 : Int32)), (.int (1 : Int32))]))
  refine OEnds.st (fun _ k => XS.iand X1001.here hx rfl (hb hby d5_8) rfl k) ?_
  show OEnds p.tables e below G (T1001.setTop (mkF m 9 #[.val (.int (1 : Int32))] [(.int ((1 : Int32) &&& (1 : Int32)))]))
  rw [show ((1 : Int32) &&& (1 : Int32)) = (1 : Int32) from by decide]
  show OEnds p.tables e below G (T1001.setTop (mkF m 9 #[.val (.int (1 : Int32))] [(.int (1 : Int32))]))
  rw [← hG]
  refine OEnds.retI X1001 hx hlk Bd.returns (hb hby d5_9) (by decide) (by decide) ?_
  rw [e1001]
  exact ⟨rfl, N1001, rfl⟩
theorem ef_mx2 (m : MethodId)  : entryFrame m #[(.int (1 : Int32)), (.int (2 : Int32))] 2 = mkF m 0 #[.val (.int (1 : Int32)), .val (.int (2 : Int32))] [] := by first | (simp [entryFrame, mkF, argsToLocals, Value.category]; done) | rfl
def Qmx2 (Z : State)  (h0 : Heap) (n0 : Nat) (v : Option Value) (h : Heap) (L : List Loc) : Prop := v = some (.int (2 : Int32)) ∧ Fr n0 L ∧ h = h0
theorem d4_9 : decode jdk_29_method_65_code 9 = .ok (.iload_n 1, 1) := by decide +kernel
set_option maxRecDepth 65536 in
set_option maxHeartbeats 40000000 in
theorem rmmx2 (l : Launch) (Z : State) (a0 : Array Value) (hw : ∀ d ∈ tables_1, d.before a0 Z = true) (ws : List Jvm.Cond)  (h0 : Heap) (n0 : Nat) (Z0 : n0 ≤ h0.size) :
    MetFree l (⟨"java/lang/Math", "max", "(II)I"⟩ : MethodName) (head1 (Jvm.Cond.code (⟨"java/lang/Math", "max", "(II)I"⟩ : MethodName) jdk_29_method_65_code 2 (some .int) :: ws) ({ frames := 0, cells := 0, slots := 0, locals := 0 } : Room)) (fun a U => a = #[(.int (1 : Int32)), (.int (2 : Int32))] ∧ Z.Warmed39 U.vm ∧ U.heap = h0) (fun _ _ _ _ _ => True) (fun _ U o U' => ∃ v L, o = .returned v ∧ Qmx2 Z  h0 n0 v U'.heap L ∧ FrameEnd U o U' L ({ frames := 0, cells := 0, slots := 0, locals := 0 } : Room).cells ({ frames := 0, cells := 0, slots := 0, locals := 0 } : Room).slots) := by
  refine MetFree.of_bodySF (Jvm.Free.JP.mathPlain rfl (by decide +kernel)) hisR ?_
  intro p e s m args below meth c s₁ Bd hml0 hP hK
  obtain ⟨rfl, hZ, hh⟩ := hP
  have hx := Bd.exec
  have hby := Bd.bytes
  have hml : c.maxLocals = 2 := hml0
  have hown : s.vm.findClass "java/lang/Math" = some m.cls := findClass_of_methodNamed Bd.named
  have hnm := (name_of_methodNamed Bd.named Bd.method).1
  have hlk : meth.locks = false := BodyLoose.notSynchronized Bd
  have X0 : Stand p l e ({ frames := 0, cells := 0, slots := 0, locals := 0 } : Room) s m #[(.int (1 : Int32)), (.int (2 : Int32))] below meth c s₁ [] 0 0 := Stand.of_body Bd
  have e0 : s₁.heap = h0 := by rw [← hh, Bd.state]; rfl
  have N0 := Fr.nil n0
  show OEnds p.tables e below (OGoal (Qmx2 Z  h0 n0) s 0 0) (s₁.setTop (entryFrame m #[(.int (1 : Int32)), (.int (2 : Int32))] 2))
  refine OEnds.st (fun t k => castTop (ef_mx2 m ) k) ?_
  generalize hG : OGoal (Qmx2 Z  h0 n0) s 0 0 = G
  have KK0 : Keep h0 h0 [] := Keep.refl h0 []
  show OEnds p.tables e below G (s₁.setTop (mkF m 0 #[.val (.int (1 : Int32)), .val (.int (2 : Int32))] []))
  refine OEnds.st (fun _ k => XS.iloadN X0.here hx rfl (hb hby d4_0) rfl k) ?_
  show OEnds p.tables e below G (s₁.setTop (mkF m 1 #[.val (.int (1 : Int32)), .val (.int (2 : Int32))] [(.int (1 : Int32))]))
  refine OEnds.st (fun _ k => XS.iloadN X0.here hx rfl (hb hby d4_1) rfl k) ?_
  show OEnds p.tables e below G (s₁.setTop (mkF m 2 #[.val (.int (1 : Int32)), .val (.int (2 : Int32))] [(.int (2 : Int32)), (.int (1 : Int32))]))
  refine OEnds.st (fun _ k => XS.icmpYes X0.here hx rfl (pc0 := 2) (pc' := 9) rfl (hb hby d4_2) rfl (tlt (by decide : (1 : Int32) < (2 : Int32))).1 (by decide) (by decide) k) ?_
  show OEnds p.tables e below G (s₁.setTop (mkF m 9 #[.val (.int (1 : Int32)), .val (.int (2 : Int32))] []))
  refine OEnds.st (fun _ k => XS.iloadN X0.here hx rfl (hb hby d4_9) rfl k) ?_
  show OEnds p.tables e below G (s₁.setTop (mkF m 10 #[.val (.int (1 : Int32)), .val (.int (2 : Int32))] [(.int (2 : Int32))]))
  rw [← hG]
  refine OEnds.retI X0 hx hlk Bd.returns (hb hby d4_10) (by decide) (by decide) ?_
  rw [e0]
  exact ⟨rfl, N0, rfl⟩
theorem ef_nl2 (m : MethodId)  : entryFrame m #[(.int (2 : Int32))] 2 = mkF m 0 #[.val (.int (2 : Int32)), .unset] [] := by first | (simp [entryFrame, mkF, argsToLocals, Value.category]; done) | rfl
def Qnl2 (Z : State)  (h0 : Heap) (n0 : Nat) (v : Option Value) (h : Heap) (L : List Loc) : Prop := v = some (.int (30 : Int32)) ∧ Fr n0 L ∧ h = h0
set_option maxRecDepth 65536 in
set_option maxHeartbeats 40000000 in
theorem rmnl2 (l : Launch) (Z : State) (a0 : Array Value) (hw : ∀ d ∈ tables_1, d.before a0 Z = true) (ws : List Jvm.Cond)  (h0 : Heap) (n0 : Nat) (Z0 : n0 ≤ h0.size) :
    MetFree l (⟨"java/lang/Integer", "numberOfLeadingZeros", "(I)I"⟩ : MethodName) (head1 (Jvm.Cond.code (⟨"java/lang/Integer", "numberOfLeadingZeros", "(I)I"⟩ : MethodName) jdk_33_method_47_code 2 (some .int) :: ws) ({ frames := 0, cells := 0, slots := 0, locals := 0 } : Room)) (fun a U => a = #[(.int (2 : Int32))] ∧ Z.Warmed39 U.vm ∧ U.heap = h0) (fun _ _ _ _ _ => True) (fun _ U o U' => ∃ v L, o = .returned v ∧ Qnl2 Z  h0 n0 v U'.heap L ∧ FrameEnd U o U' L ({ frames := 0, cells := 0, slots := 0, locals := 0 } : Room).cells ({ frames := 0, cells := 0, slots := 0, locals := 0 } : Room).slots) := by
  refine MetFree.of_bodySF (plainFor_of_name pn_2) hisR ?_
  intro p e s m args below meth c s₁ Bd hml0 hP hK
  obtain ⟨rfl, hZ, hh⟩ := hP
  have hx := Bd.exec
  have hby := Bd.bytes
  have hml : c.maxLocals = 2 := hml0
  have hown : s.vm.findClass "java/lang/Integer" = some m.cls := findClass_of_methodNamed Bd.named
  have hnm := (name_of_methodNamed Bd.named Bd.method).1
  have hlk : meth.locks = false := BodyLoose.notSynchronized Bd
  have X0 : Stand p l e ({ frames := 0, cells := 0, slots := 0, locals := 0 } : Room) s m #[(.int (2 : Int32))] below meth c s₁ [] 0 0 := Stand.of_body Bd
  have e0 : s₁.heap = h0 := by rw [← hh, Bd.state]; rfl
  have N0 := Fr.nil n0
  show OEnds p.tables e below (OGoal (Qnl2 Z  h0 n0) s 0 0) (s₁.setTop (entryFrame m #[(.int (2 : Int32))] 2))
  refine OEnds.st (fun t k => castTop (ef_nl2 m ) k) ?_
  generalize hG : OGoal (Qnl2 Z  h0 n0) s 0 0 = G
  have KK0 : Keep h0 h0 [] := Keep.refl h0 []
  show OEnds p.tables e below G (s₁.setTop (mkF m 0 #[.val (.int (2 : Int32)), .unset] []))
  refine OEnds.st (fun _ k => XS.iloadN X0.here hx rfl (hb hby d6_0) rfl k) ?_
  show OEnds p.tables e below G (s₁.setTop (mkF m 1 #[.val (.int (2 : Int32)), .unset] [(.int (2 : Int32))]))
  refine OEnds.st (fun _ k => XS.ifYes X0.here hx rfl (pc0 := 1) (pc' := 15) rfl (hb hby d6_1) rfl ((if0 _ _).trans (tlt (by decide : (0 : Int32) < (2 : Int32))).2.2.1) (by decide) (by decide) k) ?_
  show OEnds p.tables e below G (s₁.setTop (mkF m 15 #[.val (.int (2 : Int32)), .unset] []))
  refine OEnds.st (fun _ k => XS.bipush X0.here hx rfl (hb hby d6_15) k) ?_
  show OEnds p.tables e below G (s₁.setTop (mkF m 17 #[.val (.int (2 : Int32)), .unset] [(.int (31 : Int32))]))
  refine OEnds.st (fun _ k => XS.istoreN X0.here hx rfl (hb hby d6_17) rfl (l' := #[.val (.int (2 : Int32)), .val (.int (31 : Int32))]) rfl k) ?_
  show OEnds p.tables e below G (s₁.setTop (mkF m 18 #[.val (.int (2 : Int32)), .val (.int (31 : Int32))] []))
  refine OEnds.st (fun _ k => XS.iloadN X0.here hx rfl (hb hby d6_18) rfl k) ?_
  show OEnds p.tables e below G (s₁.setTop (mkF m 19 #[.val (.int (2 : Int32)), .val (.int (31 : Int32))] [(.int (2 : Int32))]))
  refine OEnds.st (X0.ldcwInt hx hown (mvT hZ (hw _ (List.mem_of_getElem? (i := 28) rfl))) (g := (mkF m 19 #[.val (.int (2 : Int32)), .val (.int (31 : Int32))] [(.int (2 : Int32))])) rfl (hb hby d6_19)) ?_
  show OEnds p.tables e below G (s₁.setTop (mkF m 22 #[.val (.int (2 : Int32)), .val (.int (31 : Int32))] [(.int (65536 : Int32)), (.int (2 : Int32))]))
  refine OEnds.st (fun _ k => XS.icmpYes X0.here hx rfl (pc0 := 22) (pc' := 33) rfl (hb hby d6_22) rfl (tlt (by decide : (2 : Int32) < (65536 : Int32))).1 (by decide) (by decide) k) ?_
  show OEnds p.tables e below G (s₁.setTop (mkF m 33 #[.val (.int (2 : Int32)), .val (.int (31 : Int32))] []))
  refine OEnds.st (fun _ k => XS.iloadN X0.here hx rfl (hb hby d6_33) rfl k) ?_
  show OEnds p.tables e below G (s₁.setTop (mkF m 34 #[.val (.int (2 : Int32)), .val (.int (31 : Int32))] [(.int (2 : Int32))]))
  refine OEnds.st (fun _ k => XS.sipush X0.here hx rfl (hb hby d6_34) k) ?_
  show OEnds p.tables e below G (s₁.setTop (mkF m 37 #[.val (.int (2 : Int32)), .val (.int (31 : Int32))] [(.int (256 : Int32)), (.int (2 : Int32))]))
  refine OEnds.st (fun _ k => XS.icmpYes X0.here hx rfl (pc0 := 37) (pc' := 48) rfl (hb hby d6_37) rfl (tlt (by decide : (2 : Int32) < (256 : Int32))).1 (by decide) (by decide) k) ?_
  show OEnds p.tables e below G (s₁.setTop (mkF m 48 #[.val (.int (2 : Int32)), .val (.int (31 : Int32))] []))
  refine OEnds.st (fun _ k => XS.iloadN X0.here hx rfl (hb hby d6_48) rfl k) ?_
  show OEnds p.tables e below G (s₁.setTop (mkF m 49 #[.val (.int (2 : Int32)), .val (.int (31 : Int32))] [(.int (2 : Int32))]))
  refine OEnds.st (fun _ k => XS.bipush X0.here hx rfl (hb hby d6_49) k) ?_
  show OEnds p.tables e below G (s₁.setTop (mkF m 51 #[.val (.int (2 : Int32)), .val (.int (31 : Int32))] [(.int (16 : Int32)), (.int (2 : Int32))]))
  refine OEnds.st (fun _ k => XS.icmpYes X0.here hx rfl (pc0 := 51) (pc' := 61) rfl (hb hby d6_51) rfl (tlt (by decide : (2 : Int32) < (16 : Int32))).1 (by decide) (by decide) k) ?_
  show OEnds p.tables e below G (s₁.setTop (mkF m 61 #[.val (.int (2 : Int32)), .val (.int (31 : Int32))] []))
  refine OEnds.st (fun _ k => XS.iloadN X0.here hx rfl (hb hby d6_61) rfl k) ?_
  show OEnds p.tables e below G (s₁.setTop (mkF m 62 #[.val (.int (2 : Int32)), .val (.int (31 : Int32))] [(.int (2 : Int32))]))
  refine OEnds.st (fun _ k => XS.iconst X0.here hx rfl (hb hby d6_62) k) ?_
  show OEnds p.tables e below G (s₁.setTop (mkF m 63 #[.val (.int (2 : Int32)), .val (.int (31 : Int32))] [(.int (4 : Int32)), (.int (2 : Int32))]))
  refine OEnds.st (fun _ k => XS.icmpYes X0.here hx rfl (pc0 := 63) (pc' := 73) rfl (hb hby d6_63) rfl (tlt (by decide : (2 : Int32) < (4 : Int32))).1 (by decide) (by decide) k) ?_
  show OEnds p.tables e below G (s₁.setTop (mkF m 73 #[.val (.int (2 : Int32)), .val (.int (31 : Int32))] []))
  refine OEnds.st (fun _ k => XS.iloadN X0.here hx rfl (hb hby d6_73) rfl k) ?_
  show OEnds p.tables e below G (s₁.setTop (mkF m 74 #[.val (.int (2 : Int32)), .val (.int (31 : Int32))] [(.int (31 : Int32))]))
  refine OEnds.st (fun _ k => XS.iloadN X0.here hx rfl (hb hby d6_74) rfl k) ?_
  show OEnds p.tables e below G (s₁.setTop (mkF m 75 #[.val (.int (2 : Int32)), .val (.int (31 : Int32))] [(.int (2 : Int32)), (.int (31 : Int32))]))
  refine OEnds.st (fun _ k => XS.iconst X0.here hx rfl (hb hby d6_75) k) ?_
  show OEnds p.tables e below G (s₁.setTop (mkF m 76 #[.val (.int (2 : Int32)), .val (.int (31 : Int32))] [(.int (1 : Int32)), (.int (2 : Int32)), (.int (31 : Int32))]))
  refine OEnds.st (fun _ k => XS.iushr X0.here hx rfl (hb hby d6_76) rfl k) ?_
  show OEnds p.tables e below G (s₁.setTop (mkF m 77 #[.val (.int (2 : Int32)), .val (.int (31 : Int32))] [(.int (((2 : Int32).toUInt32 >>> ((1 : Int32) &&& 31).toUInt32).toInt32)), (.int (31 : Int32))]))
  rw [show (((2 : Int32).toUInt32 >>> ((1 : Int32) &&& 31).toUInt32).toInt32) = (1 : Int32) from by decide]
  show OEnds p.tables e below G (s₁.setTop (mkF m 77 #[.val (.int (2 : Int32)), .val (.int (31 : Int32))] [(.int (1 : Int32)), (.int (31 : Int32))]))
  refine OEnds.st (fun _ k => XS.isub X0.here hx rfl (hb hby d6_77) rfl k) ?_
  show OEnds p.tables e below G (s₁.setTop (mkF m 78 #[.val (.int (2 : Int32)), .val (.int (31 : Int32))] [(.int ((31 : Int32) - (1 : Int32)))]))
  rw [show ((31 : Int32) - (1 : Int32)) = (30 : Int32) from by decide]
  show OEnds p.tables e below G (s₁.setTop (mkF m 78 #[.val (.int (2 : Int32)), .val (.int (31 : Int32))] [(.int (30 : Int32))]))
  rw [← hG]
  refine OEnds.retI X0 hx hlk Bd.returns (hb hby d6_78) (by decide) (by decide) ?_
  rw [e0]
  exact ⟨rfl, N0, rfl⟩
theorem ef_ho2 (m : MethodId)  : entryFrame m #[(.int (2 : Int32))] 1 = mkF m 0 #[.val (.int (2 : Int32))] [] := by first | (simp [entryFrame, mkF, argsToLocals, Value.category]; done) | rfl
def Qho2 (Z : State)  (h0 : Heap) (n0 : Nat) (v : Option Value) (h : Heap) (L : List Loc) : Prop := v = some (.int (2 : Int32)) ∧ Fr n0 L ∧ h = h0
set_option maxRecDepth 65536 in
set_option maxHeartbeats 40000000 in
theorem rmho2 (l : Launch) (Z : State) (a0 : Array Value) (hw : ∀ d ∈ tables_1, d.before a0 Z = true) (ws : List Jvm.Cond)  (h0 : Heap) (n0 : Nat) (Z0 : n0 ≤ h0.size) :
    MetFree l (⟨"java/lang/Integer", "highestOneBit", "(I)I"⟩ : MethodName) (head1 (Jvm.Cond.code (⟨"java/lang/Integer", "highestOneBit", "(I)I"⟩ : MethodName) jdk_33_method_45_code 1 (some .int) :: ws) ({ frames := 1, cells := 0, slots := 0, locals := 15 } : Room)) (fun a U => a = #[(.int (2 : Int32))] ∧ Z.Warmed39 U.vm ∧ U.heap = h0) (fun _ _ _ _ _ => True) (fun _ U o U' => ∃ v L, o = .returned v ∧ Qho2 Z  h0 n0 v U'.heap L ∧ FrameEnd U o U' L ({ frames := 1, cells := 0, slots := 0, locals := 15 } : Room).cells ({ frames := 1, cells := 0, slots := 0, locals := 15 } : Room).slots) := by
  refine MetFree.of_bodySF (plainFor_of_name pn_2) hisR ?_
  intro p e s m args below meth c s₁ Bd hml0 hP hK
  obtain ⟨rfl, hZ, hh⟩ := hP
  have hx := Bd.exec
  have hby := Bd.bytes
  have hml : c.maxLocals = 1 := hml0
  have hown : s.vm.findClass "java/lang/Integer" = some m.cls := findClass_of_methodNamed Bd.named
  have hnm := (name_of_methodNamed Bd.named Bd.method).1
  have hlk : meth.locks = false := BodyLoose.notSynchronized Bd
  have X0 : Stand p l e ({ frames := 1, cells := 0, slots := 0, locals := 15 } : Room) s m #[(.int (2 : Int32))] below meth c s₁ [] 0 0 := Stand.of_body Bd
  have e0 : s₁.heap = h0 := by rw [← hh, Bd.state]; rfl
  have N0 := Fr.nil n0
  show OEnds p.tables e below (OGoal (Qho2 Z  h0 n0) s 0 0) (s₁.setTop (entryFrame m #[(.int (2 : Int32))] 1))
  refine OEnds.st (fun t k => castTop (ef_ho2 m ) k) ?_
  generalize hG : OGoal (Qho2 Z  h0 n0) s 0 0 = G
  have KK0 : Keep h0 h0 [] := Keep.refl h0 []
  show OEnds p.tables e below G (s₁.setTop (mkF m 0 #[.val (.int (2 : Int32))] []))
  refine OEnds.st (fun _ k => XS.iloadN X0.here hx rfl (hb hby d5_0) rfl k) ?_
  show OEnds p.tables e below G (s₁.setTop (mkF m 1 #[.val (.int (2 : Int32))] [(.int (2 : Int32))]))
  refine OEnds.st (X0.ldcInt hx hown (mvT hZ (hw _ (List.mem_of_getElem? (i := 24) rfl))) (g := (mkF m 1 #[.val (.int (2 : Int32))] [(.int (2 : Int32))])) rfl (hb hby d5_1)) ?_
  show OEnds p.tables e below G (s₁.setTop (mkF m 3 #[.val (.int (2 : Int32))] [(.int (-2147483648 : Int32)), (.int (2 : Int32))]))
  refine OEnds.st (fun _ k => XS.iloadN X0.here hx rfl (hb hby d5_3) rfl k) ?_
  show OEnds p.tables e below G (s₁.setTop (mkF m 4 #[.val (.int (2 : Int32))] [(.int (2 : Int32)), (.int (-2147483648 : Int32)), (.int (2 : Int32))]))
  obtain ⟨_, _, ⟨T1001, L1001, k1001c, n1001c⟩, -, X1001, ⟨Lc1001, hQ1001, l1001, y1001, z1001⟩, st1001⟩ := Jvm.LawKit.callS X0 hx (y := (⟨"java/lang/Integer", "numberOfLeadingZeros", "(I)I"⟩ : MethodName)) hown (mvT hZ (hw _ (List.mem_of_getElem? (i := 25) rfl))) (mvT hZ (hw _ (List.mem_of_getElem? (i := 26) rfl))) (mvT hZ (hw _ (List.mem_of_getElem? (i := 22) rfl))) (mvT hZ (hw _ (List.mem_of_getElem? (i := 27) rfl))) (by decide) (backOf (W := 2) (rmnl2 l Z a0 hw []  h0 n0 Z0 ) hZ (hw _ (List.mem_of_getElem? (i := 27) rfl)) (hw _ (List.mem_of_getElem? (i := 22) rfl)) (by decide) (by decide)) (g := (mkF m 4 #[.val (.int (2 : Int32))] [(.int (2 : Int32)), (.int (-2147483648 : Int32)), (.int (2 : Int32))])) rfl (by rw [hml]; rfl) (argsL := [(.int (2 : Int32))]) (rest := [(.int (-2147483648 : Int32)), (.int (2 : Int32))]) (lenOf pd_0 rfl) rfl (by show 2 * 0 + _ ≤ _; exact Nat.le_of_eq rfl) (hb hby d5_4) (fun _ _ => ⟨rfl, e0, (by decide : 0 + 0 ≤ _), (by decide : 0 + 0 ≤ _)⟩)
  dsimp only [Pt.U, Pt.locs, Pt.cells, Pt.slots] at X1001 l1001 y1001 z1001 st1001 hQ1001
  subst l1001 y1001 z1001
  obtain ⟨rfl, N1001q, e1001⟩ := hQ1001
  have N1001 := Fr.app N0 N1001q
  refine OEnds.st st1001 ?_
  clear st1001
  show OEnds p.tables e below G (T1001.setTop (mkF m 7 #[.val (.int (2 : Int32))] [(.int (30 : Int32)), (.int (-2147483648 : Int32)), (.int (2 : Int32))]))
  refine OEnds.st (fun _ k => XS.iushr X1001.here hx rfl (hb hby d5_7) rfl k) ?_
  show OEnds p.tables e below G (T1001.setTop (mkF m 8 #[.val (.int (2 : Int32))] [(.int (((-2147483648 : Int32).toUInt32 >>> ((30 : Int32) &&& 31).toUInt32).toInt32)), (.int (2 : Int32))]))
  rw [show (((-2147483648 : Int32).toUInt32 >>> ((30 : Int32) &&& 31).toUInt32).toInt32) = (2 : Int32) from by decide]
  show OEnds p.tables e below G (T1001.setTop (mkF m 8 #[.val (.int (2 : Int32))] [(.int (2 : Int32)), (.int (2 : Int32))]))
  refine OEnds.st (fun _ k => XS.iand X1001.here hx rfl (hb hby d5_8) rfl k) ?_
  show OEnds p.tables e below G (T1001.setTop (mkF m 9 #[.val (.int (2 : Int32))] [(.int ((2 : Int32) &&& (2 : Int32)))]))
  rw [show ((2 : Int32) &&& (2 : Int32)) = (2 : Int32) from by decide]
  show OEnds p.tables e below G (T1001.setTop (mkF m 9 #[.val (.int (2 : Int32))] [(.int (2 : Int32))]))
  rw [← hG]
  refine OEnds.retI X1001 hx hlk Bd.returns (hb hby d5_9) (by decide) (by decide) ?_
  rw [e1001]
  exact ⟨rfl, N1001, rfl⟩
theorem ef_mx3 (m : MethodId)  : entryFrame m #[(.int (1 : Int32)), (.int (3 : Int32))] 2 = mkF m 0 #[.val (.int (1 : Int32)), .val (.int (3 : Int32))] [] := by first | (simp [entryFrame, mkF, argsToLocals, Value.category]; done) | rfl
def Qmx3 (Z : State)  (h0 : Heap) (n0 : Nat) (v : Option Value) (h : Heap) (L : List Loc) : Prop := v = some (.int (3 : Int32)) ∧ Fr n0 L ∧ h = h0
set_option maxRecDepth 65536 in
set_option maxHeartbeats 40000000 in
theorem rmmx3 (l : Launch) (Z : State) (a0 : Array Value) (hw : ∀ d ∈ tables_1, d.before a0 Z = true) (ws : List Jvm.Cond)  (h0 : Heap) (n0 : Nat) (Z0 : n0 ≤ h0.size) :
    MetFree l (⟨"java/lang/Math", "max", "(II)I"⟩ : MethodName) (head1 (Jvm.Cond.code (⟨"java/lang/Math", "max", "(II)I"⟩ : MethodName) jdk_29_method_65_code 2 (some .int) :: ws) ({ frames := 0, cells := 0, slots := 0, locals := 0 } : Room)) (fun a U => a = #[(.int (1 : Int32)), (.int (3 : Int32))] ∧ Z.Warmed39 U.vm ∧ U.heap = h0) (fun _ _ _ _ _ => True) (fun _ U o U' => ∃ v L, o = .returned v ∧ Qmx3 Z  h0 n0 v U'.heap L ∧ FrameEnd U o U' L ({ frames := 0, cells := 0, slots := 0, locals := 0 } : Room).cells ({ frames := 0, cells := 0, slots := 0, locals := 0 } : Room).slots) := by
  refine MetFree.of_bodySF (Jvm.Free.JP.mathPlain rfl (by decide +kernel)) hisR ?_
  intro p e s m args below meth c s₁ Bd hml0 hP hK
  obtain ⟨rfl, hZ, hh⟩ := hP
  have hx := Bd.exec
  have hby := Bd.bytes
  have hml : c.maxLocals = 2 := hml0
  have hown : s.vm.findClass "java/lang/Math" = some m.cls := findClass_of_methodNamed Bd.named
  have hnm := (name_of_methodNamed Bd.named Bd.method).1
  have hlk : meth.locks = false := BodyLoose.notSynchronized Bd
  have X0 : Stand p l e ({ frames := 0, cells := 0, slots := 0, locals := 0 } : Room) s m #[(.int (1 : Int32)), (.int (3 : Int32))] below meth c s₁ [] 0 0 := Stand.of_body Bd
  have e0 : s₁.heap = h0 := by rw [← hh, Bd.state]; rfl
  have N0 := Fr.nil n0
  show OEnds p.tables e below (OGoal (Qmx3 Z  h0 n0) s 0 0) (s₁.setTop (entryFrame m #[(.int (1 : Int32)), (.int (3 : Int32))] 2))
  refine OEnds.st (fun t k => castTop (ef_mx3 m ) k) ?_
  generalize hG : OGoal (Qmx3 Z  h0 n0) s 0 0 = G
  have KK0 : Keep h0 h0 [] := Keep.refl h0 []
  show OEnds p.tables e below G (s₁.setTop (mkF m 0 #[.val (.int (1 : Int32)), .val (.int (3 : Int32))] []))
  refine OEnds.st (fun _ k => XS.iloadN X0.here hx rfl (hb hby d4_0) rfl k) ?_
  show OEnds p.tables e below G (s₁.setTop (mkF m 1 #[.val (.int (1 : Int32)), .val (.int (3 : Int32))] [(.int (1 : Int32))]))
  refine OEnds.st (fun _ k => XS.iloadN X0.here hx rfl (hb hby d4_1) rfl k) ?_
  show OEnds p.tables e below G (s₁.setTop (mkF m 2 #[.val (.int (1 : Int32)), .val (.int (3 : Int32))] [(.int (3 : Int32)), (.int (1 : Int32))]))
  refine OEnds.st (fun _ k => XS.icmpYes X0.here hx rfl (pc0 := 2) (pc' := 9) rfl (hb hby d4_2) rfl (tlt (by decide : (1 : Int32) < (3 : Int32))).1 (by decide) (by decide) k) ?_
  show OEnds p.tables e below G (s₁.setTop (mkF m 9 #[.val (.int (1 : Int32)), .val (.int (3 : Int32))] []))
  refine OEnds.st (fun _ k => XS.iloadN X0.here hx rfl (hb hby d4_9) rfl k) ?_
  show OEnds p.tables e below G (s₁.setTop (mkF m 10 #[.val (.int (1 : Int32)), .val (.int (3 : Int32))] [(.int (3 : Int32))]))
  rw [← hG]
  refine OEnds.retI X0 hx hlk Bd.returns (hb hby d4_10) (by decide) (by decide) ?_
  rw [e0]
  exact ⟨rfl, N0, rfl⟩
theorem ef_nl3 (m : MethodId)  : entryFrame m #[(.int (3 : Int32))] 2 = mkF m 0 #[.val (.int (3 : Int32)), .unset] [] := by first | (simp [entryFrame, mkF, argsToLocals, Value.category]; done) | rfl
def Qnl3 (Z : State)  (h0 : Heap) (n0 : Nat) (v : Option Value) (h : Heap) (L : List Loc) : Prop := v = some (.int (30 : Int32)) ∧ Fr n0 L ∧ h = h0
set_option maxRecDepth 65536 in
set_option maxHeartbeats 40000000 in
theorem rmnl3 (l : Launch) (Z : State) (a0 : Array Value) (hw : ∀ d ∈ tables_1, d.before a0 Z = true) (ws : List Jvm.Cond)  (h0 : Heap) (n0 : Nat) (Z0 : n0 ≤ h0.size) :
    MetFree l (⟨"java/lang/Integer", "numberOfLeadingZeros", "(I)I"⟩ : MethodName) (head1 (Jvm.Cond.code (⟨"java/lang/Integer", "numberOfLeadingZeros", "(I)I"⟩ : MethodName) jdk_33_method_47_code 2 (some .int) :: ws) ({ frames := 0, cells := 0, slots := 0, locals := 0 } : Room)) (fun a U => a = #[(.int (3 : Int32))] ∧ Z.Warmed39 U.vm ∧ U.heap = h0) (fun _ _ _ _ _ => True) (fun _ U o U' => ∃ v L, o = .returned v ∧ Qnl3 Z  h0 n0 v U'.heap L ∧ FrameEnd U o U' L ({ frames := 0, cells := 0, slots := 0, locals := 0 } : Room).cells ({ frames := 0, cells := 0, slots := 0, locals := 0 } : Room).slots) := by
  refine MetFree.of_bodySF (plainFor_of_name pn_2) hisR ?_
  intro p e s m args below meth c s₁ Bd hml0 hP hK
  obtain ⟨rfl, hZ, hh⟩ := hP
  have hx := Bd.exec
  have hby := Bd.bytes
  have hml : c.maxLocals = 2 := hml0
  have hown : s.vm.findClass "java/lang/Integer" = some m.cls := findClass_of_methodNamed Bd.named
  have hnm := (name_of_methodNamed Bd.named Bd.method).1
  have hlk : meth.locks = false := BodyLoose.notSynchronized Bd
  have X0 : Stand p l e ({ frames := 0, cells := 0, slots := 0, locals := 0 } : Room) s m #[(.int (3 : Int32))] below meth c s₁ [] 0 0 := Stand.of_body Bd
  have e0 : s₁.heap = h0 := by rw [← hh, Bd.state]; rfl
  have N0 := Fr.nil n0
  show OEnds p.tables e below (OGoal (Qnl3 Z  h0 n0) s 0 0) (s₁.setTop (entryFrame m #[(.int (3 : Int32))] 2))
  refine OEnds.st (fun t k => castTop (ef_nl3 m ) k) ?_
  generalize hG : OGoal (Qnl3 Z  h0 n0) s 0 0 = G
  have KK0 : Keep h0 h0 [] := Keep.refl h0 []
  show OEnds p.tables e below G (s₁.setTop (mkF m 0 #[.val (.int (3 : Int32)), .unset] []))
  refine OEnds.st (fun _ k => XS.iloadN X0.here hx rfl (hb hby d6_0) rfl k) ?_
  show OEnds p.tables e below G (s₁.setTop (mkF m 1 #[.val (.int (3 : Int32)), .unset] [(.int (3 : Int32))]))
  refine OEnds.st (fun _ k => XS.ifYes X0.here hx rfl (pc0 := 1) (pc' := 15) rfl (hb hby d6_1) rfl ((if0 _ _).trans (tlt (by decide : (0 : Int32) < (3 : Int32))).2.2.1) (by decide) (by decide) k) ?_
  show OEnds p.tables e below G (s₁.setTop (mkF m 15 #[.val (.int (3 : Int32)), .unset] []))
  refine OEnds.st (fun _ k => XS.bipush X0.here hx rfl (hb hby d6_15) k) ?_
  show OEnds p.tables e below G (s₁.setTop (mkF m 17 #[.val (.int (3 : Int32)), .unset] [(.int (31 : Int32))]))
  refine OEnds.st (fun _ k => XS.istoreN X0.here hx rfl (hb hby d6_17) rfl (l' := #[.val (.int (3 : Int32)), .val (.int (31 : Int32))]) rfl k) ?_
  show OEnds p.tables e below G (s₁.setTop (mkF m 18 #[.val (.int (3 : Int32)), .val (.int (31 : Int32))] []))
  refine OEnds.st (fun _ k => XS.iloadN X0.here hx rfl (hb hby d6_18) rfl k) ?_
  show OEnds p.tables e below G (s₁.setTop (mkF m 19 #[.val (.int (3 : Int32)), .val (.int (31 : Int32))] [(.int (3 : Int32))]))
  refine OEnds.st (X0.ldcwInt hx hown (mvT hZ (hw _ (List.mem_of_getElem? (i := 28) rfl))) (g := (mkF m 19 #[.val (.int (3 : Int32)), .val (.int (31 : Int32))] [(.int (3 : Int32))])) rfl (hb hby d6_19)) ?_
  show OEnds p.tables e below G (s₁.setTop (mkF m 22 #[.val (.int (3 : Int32)), .val (.int (31 : Int32))] [(.int (65536 : Int32)), (.int (3 : Int32))]))
  refine OEnds.st (fun _ k => XS.icmpYes X0.here hx rfl (pc0 := 22) (pc' := 33) rfl (hb hby d6_22) rfl (tlt (by decide : (3 : Int32) < (65536 : Int32))).1 (by decide) (by decide) k) ?_
  show OEnds p.tables e below G (s₁.setTop (mkF m 33 #[.val (.int (3 : Int32)), .val (.int (31 : Int32))] []))
  refine OEnds.st (fun _ k => XS.iloadN X0.here hx rfl (hb hby d6_33) rfl k) ?_
  show OEnds p.tables e below G (s₁.setTop (mkF m 34 #[.val (.int (3 : Int32)), .val (.int (31 : Int32))] [(.int (3 : Int32))]))
  refine OEnds.st (fun _ k => XS.sipush X0.here hx rfl (hb hby d6_34) k) ?_
  show OEnds p.tables e below G (s₁.setTop (mkF m 37 #[.val (.int (3 : Int32)), .val (.int (31 : Int32))] [(.int (256 : Int32)), (.int (3 : Int32))]))
  refine OEnds.st (fun _ k => XS.icmpYes X0.here hx rfl (pc0 := 37) (pc' := 48) rfl (hb hby d6_37) rfl (tlt (by decide : (3 : Int32) < (256 : Int32))).1 (by decide) (by decide) k) ?_
  show OEnds p.tables e below G (s₁.setTop (mkF m 48 #[.val (.int (3 : Int32)), .val (.int (31 : Int32))] []))
  refine OEnds.st (fun _ k => XS.iloadN X0.here hx rfl (hb hby d6_48) rfl k) ?_
  show OEnds p.tables e below G (s₁.setTop (mkF m 49 #[.val (.int (3 : Int32)), .val (.int (31 : Int32))] [(.int (3 : Int32))]))
  refine OEnds.st (fun _ k => XS.bipush X0.here hx rfl (hb hby d6_49) k) ?_
  show OEnds p.tables e below G (s₁.setTop (mkF m 51 #[.val (.int (3 : Int32)), .val (.int (31 : Int32))] [(.int (16 : Int32)), (.int (3 : Int32))]))
  refine OEnds.st (fun _ k => XS.icmpYes X0.here hx rfl (pc0 := 51) (pc' := 61) rfl (hb hby d6_51) rfl (tlt (by decide : (3 : Int32) < (16 : Int32))).1 (by decide) (by decide) k) ?_
  show OEnds p.tables e below G (s₁.setTop (mkF m 61 #[.val (.int (3 : Int32)), .val (.int (31 : Int32))] []))
  refine OEnds.st (fun _ k => XS.iloadN X0.here hx rfl (hb hby d6_61) rfl k) ?_
  show OEnds p.tables e below G (s₁.setTop (mkF m 62 #[.val (.int (3 : Int32)), .val (.int (31 : Int32))] [(.int (3 : Int32))]))
  refine OEnds.st (fun _ k => XS.iconst X0.here hx rfl (hb hby d6_62) k) ?_
  show OEnds p.tables e below G (s₁.setTop (mkF m 63 #[.val (.int (3 : Int32)), .val (.int (31 : Int32))] [(.int (4 : Int32)), (.int (3 : Int32))]))
  refine OEnds.st (fun _ k => XS.icmpYes X0.here hx rfl (pc0 := 63) (pc' := 73) rfl (hb hby d6_63) rfl (tlt (by decide : (3 : Int32) < (4 : Int32))).1 (by decide) (by decide) k) ?_
  show OEnds p.tables e below G (s₁.setTop (mkF m 73 #[.val (.int (3 : Int32)), .val (.int (31 : Int32))] []))
  refine OEnds.st (fun _ k => XS.iloadN X0.here hx rfl (hb hby d6_73) rfl k) ?_
  show OEnds p.tables e below G (s₁.setTop (mkF m 74 #[.val (.int (3 : Int32)), .val (.int (31 : Int32))] [(.int (31 : Int32))]))
  refine OEnds.st (fun _ k => XS.iloadN X0.here hx rfl (hb hby d6_74) rfl k) ?_
  show OEnds p.tables e below G (s₁.setTop (mkF m 75 #[.val (.int (3 : Int32)), .val (.int (31 : Int32))] [(.int (3 : Int32)), (.int (31 : Int32))]))
  refine OEnds.st (fun _ k => XS.iconst X0.here hx rfl (hb hby d6_75) k) ?_
  show OEnds p.tables e below G (s₁.setTop (mkF m 76 #[.val (.int (3 : Int32)), .val (.int (31 : Int32))] [(.int (1 : Int32)), (.int (3 : Int32)), (.int (31 : Int32))]))
  refine OEnds.st (fun _ k => XS.iushr X0.here hx rfl (hb hby d6_76) rfl k) ?_
  show OEnds p.tables e below G (s₁.setTop (mkF m 77 #[.val (.int (3 : Int32)), .val (.int (31 : Int32))] [(.int (((3 : Int32).toUInt32 >>> ((1 : Int32) &&& 31).toUInt32).toInt32)), (.int (31 : Int32))]))
  rw [show (((3 : Int32).toUInt32 >>> ((1 : Int32) &&& 31).toUInt32).toInt32) = (1 : Int32) from by decide]
  show OEnds p.tables e below G (s₁.setTop (mkF m 77 #[.val (.int (3 : Int32)), .val (.int (31 : Int32))] [(.int (1 : Int32)), (.int (31 : Int32))]))
  refine OEnds.st (fun _ k => XS.isub X0.here hx rfl (hb hby d6_77) rfl k) ?_
  show OEnds p.tables e below G (s₁.setTop (mkF m 78 #[.val (.int (3 : Int32)), .val (.int (31 : Int32))] [(.int ((31 : Int32) - (1 : Int32)))]))
  rw [show ((31 : Int32) - (1 : Int32)) = (30 : Int32) from by decide]
  show OEnds p.tables e below G (s₁.setTop (mkF m 78 #[.val (.int (3 : Int32)), .val (.int (31 : Int32))] [(.int (30 : Int32))]))
  rw [← hG]
  refine OEnds.retI X0 hx hlk Bd.returns (hb hby d6_78) (by decide) (by decide) ?_
  rw [e0]
  exact ⟨rfl, N0, rfl⟩
theorem ef_ho3 (m : MethodId)  : entryFrame m #[(.int (3 : Int32))] 1 = mkF m 0 #[.val (.int (3 : Int32))] [] := by first | (simp [entryFrame, mkF, argsToLocals, Value.category]; done) | rfl
def Qho3 (Z : State)  (h0 : Heap) (n0 : Nat) (v : Option Value) (h : Heap) (L : List Loc) : Prop := v = some (.int (2 : Int32)) ∧ Fr n0 L ∧ h = h0
set_option maxRecDepth 65536 in
set_option maxHeartbeats 40000000 in
theorem rmho3 (l : Launch) (Z : State) (a0 : Array Value) (hw : ∀ d ∈ tables_1, d.before a0 Z = true) (ws : List Jvm.Cond)  (h0 : Heap) (n0 : Nat) (Z0 : n0 ≤ h0.size) :
    MetFree l (⟨"java/lang/Integer", "highestOneBit", "(I)I"⟩ : MethodName) (head1 (Jvm.Cond.code (⟨"java/lang/Integer", "highestOneBit", "(I)I"⟩ : MethodName) jdk_33_method_45_code 1 (some .int) :: ws) ({ frames := 1, cells := 0, slots := 0, locals := 15 } : Room)) (fun a U => a = #[(.int (3 : Int32))] ∧ Z.Warmed39 U.vm ∧ U.heap = h0) (fun _ _ _ _ _ => True) (fun _ U o U' => ∃ v L, o = .returned v ∧ Qho3 Z  h0 n0 v U'.heap L ∧ FrameEnd U o U' L ({ frames := 1, cells := 0, slots := 0, locals := 15 } : Room).cells ({ frames := 1, cells := 0, slots := 0, locals := 15 } : Room).slots) := by
  refine MetFree.of_bodySF (plainFor_of_name pn_2) hisR ?_
  intro p e s m args below meth c s₁ Bd hml0 hP hK
  obtain ⟨rfl, hZ, hh⟩ := hP
  have hx := Bd.exec
  have hby := Bd.bytes
  have hml : c.maxLocals = 1 := hml0
  have hown : s.vm.findClass "java/lang/Integer" = some m.cls := findClass_of_methodNamed Bd.named
  have hnm := (name_of_methodNamed Bd.named Bd.method).1
  have hlk : meth.locks = false := BodyLoose.notSynchronized Bd
  have X0 : Stand p l e ({ frames := 1, cells := 0, slots := 0, locals := 15 } : Room) s m #[(.int (3 : Int32))] below meth c s₁ [] 0 0 := Stand.of_body Bd
  have e0 : s₁.heap = h0 := by rw [← hh, Bd.state]; rfl
  have N0 := Fr.nil n0
  show OEnds p.tables e below (OGoal (Qho3 Z  h0 n0) s 0 0) (s₁.setTop (entryFrame m #[(.int (3 : Int32))] 1))
  refine OEnds.st (fun t k => castTop (ef_ho3 m ) k) ?_
  generalize hG : OGoal (Qho3 Z  h0 n0) s 0 0 = G
  have KK0 : Keep h0 h0 [] := Keep.refl h0 []
  show OEnds p.tables e below G (s₁.setTop (mkF m 0 #[.val (.int (3 : Int32))] []))
  refine OEnds.st (fun _ k => XS.iloadN X0.here hx rfl (hb hby d5_0) rfl k) ?_
  show OEnds p.tables e below G (s₁.setTop (mkF m 1 #[.val (.int (3 : Int32))] [(.int (3 : Int32))]))
  refine OEnds.st (X0.ldcInt hx hown (mvT hZ (hw _ (List.mem_of_getElem? (i := 24) rfl))) (g := (mkF m 1 #[.val (.int (3 : Int32))] [(.int (3 : Int32))])) rfl (hb hby d5_1)) ?_
  show OEnds p.tables e below G (s₁.setTop (mkF m 3 #[.val (.int (3 : Int32))] [(.int (-2147483648 : Int32)), (.int (3 : Int32))]))
  refine OEnds.st (fun _ k => XS.iloadN X0.here hx rfl (hb hby d5_3) rfl k) ?_
  show OEnds p.tables e below G (s₁.setTop (mkF m 4 #[.val (.int (3 : Int32))] [(.int (3 : Int32)), (.int (-2147483648 : Int32)), (.int (3 : Int32))]))
  obtain ⟨_, _, ⟨T1001, L1001, k1001c, n1001c⟩, -, X1001, ⟨Lc1001, hQ1001, l1001, y1001, z1001⟩, st1001⟩ := Jvm.LawKit.callS X0 hx (y := (⟨"java/lang/Integer", "numberOfLeadingZeros", "(I)I"⟩ : MethodName)) hown (mvT hZ (hw _ (List.mem_of_getElem? (i := 25) rfl))) (mvT hZ (hw _ (List.mem_of_getElem? (i := 26) rfl))) (mvT hZ (hw _ (List.mem_of_getElem? (i := 22) rfl))) (mvT hZ (hw _ (List.mem_of_getElem? (i := 27) rfl))) (by decide) (backOf (W := 2) (rmnl3 l Z a0 hw []  h0 n0 Z0 ) hZ (hw _ (List.mem_of_getElem? (i := 27) rfl)) (hw _ (List.mem_of_getElem? (i := 22) rfl)) (by decide) (by decide)) (g := (mkF m 4 #[.val (.int (3 : Int32))] [(.int (3 : Int32)), (.int (-2147483648 : Int32)), (.int (3 : Int32))])) rfl (by rw [hml]; rfl) (argsL := [(.int (3 : Int32))]) (rest := [(.int (-2147483648 : Int32)), (.int (3 : Int32))]) (lenOf pd_0 rfl) rfl (by show 2 * 0 + _ ≤ _; exact Nat.le_of_eq rfl) (hb hby d5_4) (fun _ _ => ⟨rfl, e0, (by decide : 0 + 0 ≤ _), (by decide : 0 + 0 ≤ _)⟩)
  dsimp only [Pt.U, Pt.locs, Pt.cells, Pt.slots] at X1001 l1001 y1001 z1001 st1001 hQ1001
  subst l1001 y1001 z1001
  obtain ⟨rfl, N1001q, e1001⟩ := hQ1001
  have N1001 := Fr.app N0 N1001q
  refine OEnds.st st1001 ?_
  clear st1001
  show OEnds p.tables e below G (T1001.setTop (mkF m 7 #[.val (.int (3 : Int32))] [(.int (30 : Int32)), (.int (-2147483648 : Int32)), (.int (3 : Int32))]))
  refine OEnds.st (fun _ k => XS.iushr X1001.here hx rfl (hb hby d5_7) rfl k) ?_
  show OEnds p.tables e below G (T1001.setTop (mkF m 8 #[.val (.int (3 : Int32))] [(.int (((-2147483648 : Int32).toUInt32 >>> ((30 : Int32) &&& 31).toUInt32).toInt32)), (.int (3 : Int32))]))
  rw [show (((-2147483648 : Int32).toUInt32 >>> ((30 : Int32) &&& 31).toUInt32).toInt32) = (2 : Int32) from by decide]
  show OEnds p.tables e below G (T1001.setTop (mkF m 8 #[.val (.int (3 : Int32))] [(.int (2 : Int32)), (.int (3 : Int32))]))
  refine OEnds.st (fun _ k => XS.iand X1001.here hx rfl (hb hby d5_8) rfl k) ?_
  show OEnds p.tables e below G (T1001.setTop (mkF m 9 #[.val (.int (3 : Int32))] [(.int ((3 : Int32) &&& (2 : Int32)))]))
  rw [show ((3 : Int32) &&& (2 : Int32)) = (2 : Int32) from by decide]
  show OEnds p.tables e below G (T1001.setTop (mkF m 9 #[.val (.int (3 : Int32))] [(.int (2 : Int32))]))
  rw [← hG]
  refine OEnds.retI X1001 hx hlk Bd.returns (hb hby d5_9) (by decide) (by decide) ?_
  rw [e1001]
  exact ⟨rfl, N1001, rfl⟩
theorem ef_mx4 (m : MethodId)  : entryFrame m #[(.int (1 : Int32)), (.int (4 : Int32))] 2 = mkF m 0 #[.val (.int (1 : Int32)), .val (.int (4 : Int32))] [] := by first | (simp [entryFrame, mkF, argsToLocals, Value.category]; done) | rfl
def Qmx4 (Z : State)  (h0 : Heap) (n0 : Nat) (v : Option Value) (h : Heap) (L : List Loc) : Prop := v = some (.int (4 : Int32)) ∧ Fr n0 L ∧ h = h0
set_option maxRecDepth 65536 in
set_option maxHeartbeats 40000000 in
theorem rmmx4 (l : Launch) (Z : State) (a0 : Array Value) (hw : ∀ d ∈ tables_1, d.before a0 Z = true) (ws : List Jvm.Cond)  (h0 : Heap) (n0 : Nat) (Z0 : n0 ≤ h0.size) :
    MetFree l (⟨"java/lang/Math", "max", "(II)I"⟩ : MethodName) (head1 (Jvm.Cond.code (⟨"java/lang/Math", "max", "(II)I"⟩ : MethodName) jdk_29_method_65_code 2 (some .int) :: ws) ({ frames := 0, cells := 0, slots := 0, locals := 0 } : Room)) (fun a U => a = #[(.int (1 : Int32)), (.int (4 : Int32))] ∧ Z.Warmed39 U.vm ∧ U.heap = h0) (fun _ _ _ _ _ => True) (fun _ U o U' => ∃ v L, o = .returned v ∧ Qmx4 Z  h0 n0 v U'.heap L ∧ FrameEnd U o U' L ({ frames := 0, cells := 0, slots := 0, locals := 0 } : Room).cells ({ frames := 0, cells := 0, slots := 0, locals := 0 } : Room).slots) := by
  refine MetFree.of_bodySF (Jvm.Free.JP.mathPlain rfl (by decide +kernel)) hisR ?_
  intro p e s m args below meth c s₁ Bd hml0 hP hK
  obtain ⟨rfl, hZ, hh⟩ := hP
  have hx := Bd.exec
  have hby := Bd.bytes
  have hml : c.maxLocals = 2 := hml0
  have hown : s.vm.findClass "java/lang/Math" = some m.cls := findClass_of_methodNamed Bd.named
  have hnm := (name_of_methodNamed Bd.named Bd.method).1
  have hlk : meth.locks = false := BodyLoose.notSynchronized Bd
  have X0 : Stand p l e ({ frames := 0, cells := 0, slots := 0, locals := 0 } : Room) s m #[(.int (1 : Int32)), (.int (4 : Int32))] below meth c s₁ [] 0 0 := Stand.of_body Bd
  have e0 : s₁.heap = h0 := by rw [← hh, Bd.state]; rfl
  have N0 := Fr.nil n0
  show OEnds p.tables e below (OGoal (Qmx4 Z  h0 n0) s 0 0) (s₁.setTop (entryFrame m #[(.int (1 : Int32)), (.int (4 : Int32))] 2))
  refine OEnds.st (fun t k => castTop (ef_mx4 m ) k) ?_
  generalize hG : OGoal (Qmx4 Z  h0 n0) s 0 0 = G
  have KK0 : Keep h0 h0 [] := Keep.refl h0 []
  show OEnds p.tables e below G (s₁.setTop (mkF m 0 #[.val (.int (1 : Int32)), .val (.int (4 : Int32))] []))
  refine OEnds.st (fun _ k => XS.iloadN X0.here hx rfl (hb hby d4_0) rfl k) ?_
  show OEnds p.tables e below G (s₁.setTop (mkF m 1 #[.val (.int (1 : Int32)), .val (.int (4 : Int32))] [(.int (1 : Int32))]))
  refine OEnds.st (fun _ k => XS.iloadN X0.here hx rfl (hb hby d4_1) rfl k) ?_
  show OEnds p.tables e below G (s₁.setTop (mkF m 2 #[.val (.int (1 : Int32)), .val (.int (4 : Int32))] [(.int (4 : Int32)), (.int (1 : Int32))]))
  refine OEnds.st (fun _ k => XS.icmpYes X0.here hx rfl (pc0 := 2) (pc' := 9) rfl (hb hby d4_2) rfl (tlt (by decide : (1 : Int32) < (4 : Int32))).1 (by decide) (by decide) k) ?_
  show OEnds p.tables e below G (s₁.setTop (mkF m 9 #[.val (.int (1 : Int32)), .val (.int (4 : Int32))] []))
  refine OEnds.st (fun _ k => XS.iloadN X0.here hx rfl (hb hby d4_9) rfl k) ?_
  show OEnds p.tables e below G (s₁.setTop (mkF m 10 #[.val (.int (1 : Int32)), .val (.int (4 : Int32))] [(.int (4 : Int32))]))
  rw [← hG]
  refine OEnds.retI X0 hx hlk Bd.returns (hb hby d4_10) (by decide) (by decide) ?_
  rw [e0]
  exact ⟨rfl, N0, rfl⟩
theorem ef_nl4 (m : MethodId)  : entryFrame m #[(.int (4 : Int32))] 2 = mkF m 0 #[.val (.int (4 : Int32)), .unset] [] := by first | (simp [entryFrame, mkF, argsToLocals, Value.category]; done) | rfl
def Qnl4 (Z : State)  (h0 : Heap) (n0 : Nat) (v : Option Value) (h : Heap) (L : List Loc) : Prop := v = some (.int (29 : Int32)) ∧ Fr n0 L ∧ h = h0
theorem d6_66 : decode jdk_33_method_47_code 66 = .ok (.iinc 1 (-2), 3) := by decide +kernel
theorem d6_69 : decode jdk_33_method_47_code 69 = .ok (.iload_n 0, 1) := by decide +kernel
theorem d6_70 : decode jdk_33_method_47_code 70 = .ok (.iconst 2, 1) := by decide +kernel
theorem d6_71 : decode jdk_33_method_47_code 71 = .ok (.iushr, 1) := by decide +kernel
theorem d6_72 : decode jdk_33_method_47_code 72 = .ok (.istore_n 0, 1) := by decide +kernel
set_option maxRecDepth 65536 in
set_option maxHeartbeats 40000000 in
theorem rmnl4 (l : Launch) (Z : State) (a0 : Array Value) (hw : ∀ d ∈ tables_1, d.before a0 Z = true) (ws : List Jvm.Cond)  (h0 : Heap) (n0 : Nat) (Z0 : n0 ≤ h0.size) :
    MetFree l (⟨"java/lang/Integer", "numberOfLeadingZeros", "(I)I"⟩ : MethodName) (head1 (Jvm.Cond.code (⟨"java/lang/Integer", "numberOfLeadingZeros", "(I)I"⟩ : MethodName) jdk_33_method_47_code 2 (some .int) :: ws) ({ frames := 0, cells := 0, slots := 0, locals := 0 } : Room)) (fun a U => a = #[(.int (4 : Int32))] ∧ Z.Warmed39 U.vm ∧ U.heap = h0) (fun _ _ _ _ _ => True) (fun _ U o U' => ∃ v L, o = .returned v ∧ Qnl4 Z  h0 n0 v U'.heap L ∧ FrameEnd U o U' L ({ frames := 0, cells := 0, slots := 0, locals := 0 } : Room).cells ({ frames := 0, cells := 0, slots := 0, locals := 0 } : Room).slots) := by
  refine MetFree.of_bodySF (plainFor_of_name pn_2) hisR ?_
  intro p e s m args below meth c s₁ Bd hml0 hP hK
  obtain ⟨rfl, hZ, hh⟩ := hP
  have hx := Bd.exec
  have hby := Bd.bytes
  have hml : c.maxLocals = 2 := hml0
  have hown : s.vm.findClass "java/lang/Integer" = some m.cls := findClass_of_methodNamed Bd.named
  have hnm := (name_of_methodNamed Bd.named Bd.method).1
  have hlk : meth.locks = false := BodyLoose.notSynchronized Bd
  have X0 : Stand p l e ({ frames := 0, cells := 0, slots := 0, locals := 0 } : Room) s m #[(.int (4 : Int32))] below meth c s₁ [] 0 0 := Stand.of_body Bd
  have e0 : s₁.heap = h0 := by rw [← hh, Bd.state]; rfl
  have N0 := Fr.nil n0
  show OEnds p.tables e below (OGoal (Qnl4 Z  h0 n0) s 0 0) (s₁.setTop (entryFrame m #[(.int (4 : Int32))] 2))
  refine OEnds.st (fun t k => castTop (ef_nl4 m ) k) ?_
  generalize hG : OGoal (Qnl4 Z  h0 n0) s 0 0 = G
  have KK0 : Keep h0 h0 [] := Keep.refl h0 []
  show OEnds p.tables e below G (s₁.setTop (mkF m 0 #[.val (.int (4 : Int32)), .unset] []))
  refine OEnds.st (fun _ k => XS.iloadN X0.here hx rfl (hb hby d6_0) rfl k) ?_
  show OEnds p.tables e below G (s₁.setTop (mkF m 1 #[.val (.int (4 : Int32)), .unset] [(.int (4 : Int32))]))
  refine OEnds.st (fun _ k => XS.ifYes X0.here hx rfl (pc0 := 1) (pc' := 15) rfl (hb hby d6_1) rfl ((if0 _ _).trans (tlt (by decide : (0 : Int32) < (4 : Int32))).2.2.1) (by decide) (by decide) k) ?_
  show OEnds p.tables e below G (s₁.setTop (mkF m 15 #[.val (.int (4 : Int32)), .unset] []))
  refine OEnds.st (fun _ k => XS.bipush X0.here hx rfl (hb hby d6_15) k) ?_
  show OEnds p.tables e below G (s₁.setTop (mkF m 17 #[.val (.int (4 : Int32)), .unset] [(.int (31 : Int32))]))
  refine OEnds.st (fun _ k => XS.istoreN X0.here hx rfl (hb hby d6_17) rfl (l' := #[.val (.int (4 : Int32)), .val (.int (31 : Int32))]) rfl k) ?_
  show OEnds p.tables e below G (s₁.setTop (mkF m 18 #[.val (.int (4 : Int32)), .val (.int (31 : Int32))] []))
  refine OEnds.st (fun _ k => XS.iloadN X0.here hx rfl (hb hby d6_18) rfl k) ?_
  show OEnds p.tables e below G (s₁.setTop (mkF m 19 #[.val (.int (4 : Int32)), .val (.int (31 : Int32))] [(.int (4 : Int32))]))
  refine OEnds.st (X0.ldcwInt hx hown (mvT hZ (hw _ (List.mem_of_getElem? (i := 28) rfl))) (g := (mkF m 19 #[.val (.int (4 : Int32)), .val (.int (31 : Int32))] [(.int (4 : Int32))])) rfl (hb hby d6_19)) ?_
  show OEnds p.tables e below G (s₁.setTop (mkF m 22 #[.val (.int (4 : Int32)), .val (.int (31 : Int32))] [(.int (65536 : Int32)), (.int (4 : Int32))]))
  refine OEnds.st (fun _ k => XS.icmpYes X0.here hx rfl (pc0 := 22) (pc' := 33) rfl (hb hby d6_22) rfl (tlt (by decide : (4 : Int32) < (65536 : Int32))).1 (by decide) (by decide) k) ?_
  show OEnds p.tables e below G (s₁.setTop (mkF m 33 #[.val (.int (4 : Int32)), .val (.int (31 : Int32))] []))
  refine OEnds.st (fun _ k => XS.iloadN X0.here hx rfl (hb hby d6_33) rfl k) ?_
  show OEnds p.tables e below G (s₁.setTop (mkF m 34 #[.val (.int (4 : Int32)), .val (.int (31 : Int32))] [(.int (4 : Int32))]))
  refine OEnds.st (fun _ k => XS.sipush X0.here hx rfl (hb hby d6_34) k) ?_
  show OEnds p.tables e below G (s₁.setTop (mkF m 37 #[.val (.int (4 : Int32)), .val (.int (31 : Int32))] [(.int (256 : Int32)), (.int (4 : Int32))]))
  refine OEnds.st (fun _ k => XS.icmpYes X0.here hx rfl (pc0 := 37) (pc' := 48) rfl (hb hby d6_37) rfl (tlt (by decide : (4 : Int32) < (256 : Int32))).1 (by decide) (by decide) k) ?_
  show OEnds p.tables e below G (s₁.setTop (mkF m 48 #[.val (.int (4 : Int32)), .val (.int (31 : Int32))] []))
  refine OEnds.st (fun _ k => XS.iloadN X0.here hx rfl (hb hby d6_48) rfl k) ?_
  show OEnds p.tables e below G (s₁.setTop (mkF m 49 #[.val (.int (4 : Int32)), .val (.int (31 : Int32))] [(.int (4 : Int32))]))
  refine OEnds.st (fun _ k => XS.bipush X0.here hx rfl (hb hby d6_49) k) ?_
  show OEnds p.tables e below G (s₁.setTop (mkF m 51 #[.val (.int (4 : Int32)), .val (.int (31 : Int32))] [(.int (16 : Int32)), (.int (4 : Int32))]))
  refine OEnds.st (fun _ k => XS.icmpYes X0.here hx rfl (pc0 := 51) (pc' := 61) rfl (hb hby d6_51) rfl (tlt (by decide : (4 : Int32) < (16 : Int32))).1 (by decide) (by decide) k) ?_
  show OEnds p.tables e below G (s₁.setTop (mkF m 61 #[.val (.int (4 : Int32)), .val (.int (31 : Int32))] []))
  refine OEnds.st (fun _ k => XS.iloadN X0.here hx rfl (hb hby d6_61) rfl k) ?_
  show OEnds p.tables e below G (s₁.setTop (mkF m 62 #[.val (.int (4 : Int32)), .val (.int (31 : Int32))] [(.int (4 : Int32))]))
  refine OEnds.st (fun _ k => XS.iconst X0.here hx rfl (hb hby d6_62) k) ?_
  show OEnds p.tables e below G (s₁.setTop (mkF m 63 #[.val (.int (4 : Int32)), .val (.int (31 : Int32))] [(.int (4 : Int32)), (.int (4 : Int32))]))
  refine OEnds.st (fun _ k => XS.icmpNo X0.here hx rfl (hb hby d6_63) rfl (flt (by decide : ¬ ((4 : Int32) < (4 : Int32)))).1 k) ?_
  show OEnds p.tables e below G (s₁.setTop (mkF m 66 #[.val (.int (4 : Int32)), .val (.int (31 : Int32))] []))
  refine OEnds.st (fun _ k => XS.iinc X0.here hx rfl (hb hby d6_66) rfl (l' := #[.val (.int (4 : Int32)), .val (.int ((31 : Int32) + (-2 : Int32)))]) rfl k) ?_
  show OEnds p.tables e below G (s₁.setTop (mkF m 69 #[.val (.int (4 : Int32)), .val (.int ((31 : Int32) + (-2 : Int32)))] []))
  rw [show ((31 : Int32) + (-2 : Int32)) = (29 : Int32) from by decide]
  show OEnds p.tables e below G (s₁.setTop (mkF m 69 #[.val (.int (4 : Int32)), .val (.int (29 : Int32))] []))
  refine OEnds.st (fun _ k => XS.iloadN X0.here hx rfl (hb hby d6_69) rfl k) ?_
  show OEnds p.tables e below G (s₁.setTop (mkF m 70 #[.val (.int (4 : Int32)), .val (.int (29 : Int32))] [(.int (4 : Int32))]))
  refine OEnds.st (fun _ k => XS.iconst X0.here hx rfl (hb hby d6_70) k) ?_
  show OEnds p.tables e below G (s₁.setTop (mkF m 71 #[.val (.int (4 : Int32)), .val (.int (29 : Int32))] [(.int (2 : Int32)), (.int (4 : Int32))]))
  refine OEnds.st (fun _ k => XS.iushr X0.here hx rfl (hb hby d6_71) rfl k) ?_
  show OEnds p.tables e below G (s₁.setTop (mkF m 72 #[.val (.int (4 : Int32)), .val (.int (29 : Int32))] [(.int (((4 : Int32).toUInt32 >>> ((2 : Int32) &&& 31).toUInt32).toInt32))]))
  rw [show (((4 : Int32).toUInt32 >>> ((2 : Int32) &&& 31).toUInt32).toInt32) = (1 : Int32) from by decide]
  show OEnds p.tables e below G (s₁.setTop (mkF m 72 #[.val (.int (4 : Int32)), .val (.int (29 : Int32))] [(.int (1 : Int32))]))
  refine OEnds.st (fun _ k => XS.istoreN X0.here hx rfl (hb hby d6_72) rfl (l' := #[.val (.int (1 : Int32)), .val (.int (29 : Int32))]) rfl k) ?_
  show OEnds p.tables e below G (s₁.setTop (mkF m 73 #[.val (.int (1 : Int32)), .val (.int (29 : Int32))] []))
  refine OEnds.st (fun _ k => XS.iloadN X0.here hx rfl (hb hby d6_73) rfl k) ?_
  show OEnds p.tables e below G (s₁.setTop (mkF m 74 #[.val (.int (1 : Int32)), .val (.int (29 : Int32))] [(.int (29 : Int32))]))
  refine OEnds.st (fun _ k => XS.iloadN X0.here hx rfl (hb hby d6_74) rfl k) ?_
  show OEnds p.tables e below G (s₁.setTop (mkF m 75 #[.val (.int (1 : Int32)), .val (.int (29 : Int32))] [(.int (1 : Int32)), (.int (29 : Int32))]))
  refine OEnds.st (fun _ k => XS.iconst X0.here hx rfl (hb hby d6_75) k) ?_
  show OEnds p.tables e below G (s₁.setTop (mkF m 76 #[.val (.int (1 : Int32)), .val (.int (29 : Int32))] [(.int (1 : Int32)), (.int (1 : Int32)), (.int (29 : Int32))]))
  refine OEnds.st (fun _ k => XS.iushr X0.here hx rfl (hb hby d6_76) rfl k) ?_
  show OEnds p.tables e below G (s₁.setTop (mkF m 77 #[.val (.int (1 : Int32)), .val (.int (29 : Int32))] [(.int (((1 : Int32).toUInt32 >>> ((1 : Int32) &&& 31).toUInt32).toInt32)), (.int (29 : Int32))]))
  rw [show (((1 : Int32).toUInt32 >>> ((1 : Int32) &&& 31).toUInt32).toInt32) = (0 : Int32) from by decide]
  show OEnds p.tables e below G (s₁.setTop (mkF m 77 #[.val (.int (1 : Int32)), .val (.int (29 : Int32))] [(.int (0 : Int32)), (.int (29 : Int32))]))
  refine OEnds.st (fun _ k => XS.isub X0.here hx rfl (hb hby d6_77) rfl k) ?_
  show OEnds p.tables e below G (s₁.setTop (mkF m 78 #[.val (.int (1 : Int32)), .val (.int (29 : Int32))] [(.int ((29 : Int32) - (0 : Int32)))]))
  rw [show ((29 : Int32) - (0 : Int32)) = (29 : Int32) from by decide]
  show OEnds p.tables e below G (s₁.setTop (mkF m 78 #[.val (.int (1 : Int32)), .val (.int (29 : Int32))] [(.int (29 : Int32))]))
  rw [← hG]
  refine OEnds.retI X0 hx hlk Bd.returns (hb hby d6_78) (by decide) (by decide) ?_
  rw [e0]
  exact ⟨rfl, N0, rfl⟩
theorem ef_ho4 (m : MethodId)  : entryFrame m #[(.int (4 : Int32))] 1 = mkF m 0 #[.val (.int (4 : Int32))] [] := by first | (simp [entryFrame, mkF, argsToLocals, Value.category]; done) | rfl
def Qho4 (Z : State)  (h0 : Heap) (n0 : Nat) (v : Option Value) (h : Heap) (L : List Loc) : Prop := v = some (.int (4 : Int32)) ∧ Fr n0 L ∧ h = h0
set_option maxRecDepth 65536 in
set_option maxHeartbeats 40000000 in
theorem rmho4 (l : Launch) (Z : State) (a0 : Array Value) (hw : ∀ d ∈ tables_1, d.before a0 Z = true) (ws : List Jvm.Cond)  (h0 : Heap) (n0 : Nat) (Z0 : n0 ≤ h0.size) :
    MetFree l (⟨"java/lang/Integer", "highestOneBit", "(I)I"⟩ : MethodName) (head1 (Jvm.Cond.code (⟨"java/lang/Integer", "highestOneBit", "(I)I"⟩ : MethodName) jdk_33_method_45_code 1 (some .int) :: ws) ({ frames := 1, cells := 0, slots := 0, locals := 15 } : Room)) (fun a U => a = #[(.int (4 : Int32))] ∧ Z.Warmed39 U.vm ∧ U.heap = h0) (fun _ _ _ _ _ => True) (fun _ U o U' => ∃ v L, o = .returned v ∧ Qho4 Z  h0 n0 v U'.heap L ∧ FrameEnd U o U' L ({ frames := 1, cells := 0, slots := 0, locals := 15 } : Room).cells ({ frames := 1, cells := 0, slots := 0, locals := 15 } : Room).slots) := by
  refine MetFree.of_bodySF (plainFor_of_name pn_2) hisR ?_
  intro p e s m args below meth c s₁ Bd hml0 hP hK
  obtain ⟨rfl, hZ, hh⟩ := hP
  have hx := Bd.exec
  have hby := Bd.bytes
  have hml : c.maxLocals = 1 := hml0
  have hown : s.vm.findClass "java/lang/Integer" = some m.cls := findClass_of_methodNamed Bd.named
  have hnm := (name_of_methodNamed Bd.named Bd.method).1
  have hlk : meth.locks = false := BodyLoose.notSynchronized Bd
  have X0 : Stand p l e ({ frames := 1, cells := 0, slots := 0, locals := 15 } : Room) s m #[(.int (4 : Int32))] below meth c s₁ [] 0 0 := Stand.of_body Bd
  have e0 : s₁.heap = h0 := by rw [← hh, Bd.state]; rfl
  have N0 := Fr.nil n0
  show OEnds p.tables e below (OGoal (Qho4 Z  h0 n0) s 0 0) (s₁.setTop (entryFrame m #[(.int (4 : Int32))] 1))
  refine OEnds.st (fun t k => castTop (ef_ho4 m ) k) ?_
  generalize hG : OGoal (Qho4 Z  h0 n0) s 0 0 = G
  have KK0 : Keep h0 h0 [] := Keep.refl h0 []
  show OEnds p.tables e below G (s₁.setTop (mkF m 0 #[.val (.int (4 : Int32))] []))
  refine OEnds.st (fun _ k => XS.iloadN X0.here hx rfl (hb hby d5_0) rfl k) ?_
  show OEnds p.tables e below G (s₁.setTop (mkF m 1 #[.val (.int (4 : Int32))] [(.int (4 : Int32))]))
  refine OEnds.st (X0.ldcInt hx hown (mvT hZ (hw _ (List.mem_of_getElem? (i := 24) rfl))) (g := (mkF m 1 #[.val (.int (4 : Int32))] [(.int (4 : Int32))])) rfl (hb hby d5_1)) ?_
  show OEnds p.tables e below G (s₁.setTop (mkF m 3 #[.val (.int (4 : Int32))] [(.int (-2147483648 : Int32)), (.int (4 : Int32))]))
  refine OEnds.st (fun _ k => XS.iloadN X0.here hx rfl (hb hby d5_3) rfl k) ?_
  show OEnds p.tables e below G (s₁.setTop (mkF m 4 #[.val (.int (4 : Int32))] [(.int (4 : Int32)), (.int (-2147483648 : Int32)), (.int (4 : Int32))]))
  obtain ⟨_, _, ⟨T1001, L1001, k1001c, n1001c⟩, -, X1001, ⟨Lc1001, hQ1001, l1001, y1001, z1001⟩, st1001⟩ := Jvm.LawKit.callS X0 hx (y := (⟨"java/lang/Integer", "numberOfLeadingZeros", "(I)I"⟩ : MethodName)) hown (mvT hZ (hw _ (List.mem_of_getElem? (i := 25) rfl))) (mvT hZ (hw _ (List.mem_of_getElem? (i := 26) rfl))) (mvT hZ (hw _ (List.mem_of_getElem? (i := 22) rfl))) (mvT hZ (hw _ (List.mem_of_getElem? (i := 27) rfl))) (by decide) (backOf (W := 2) (rmnl4 l Z a0 hw []  h0 n0 Z0 ) hZ (hw _ (List.mem_of_getElem? (i := 27) rfl)) (hw _ (List.mem_of_getElem? (i := 22) rfl)) (by decide) (by decide)) (g := (mkF m 4 #[.val (.int (4 : Int32))] [(.int (4 : Int32)), (.int (-2147483648 : Int32)), (.int (4 : Int32))])) rfl (by rw [hml]; rfl) (argsL := [(.int (4 : Int32))]) (rest := [(.int (-2147483648 : Int32)), (.int (4 : Int32))]) (lenOf pd_0 rfl) rfl (by show 2 * 0 + _ ≤ _; exact Nat.le_of_eq rfl) (hb hby d5_4) (fun _ _ => ⟨rfl, e0, (by decide : 0 + 0 ≤ _), (by decide : 0 + 0 ≤ _)⟩)
  dsimp only [Pt.U, Pt.locs, Pt.cells, Pt.slots] at X1001 l1001 y1001 z1001 st1001 hQ1001
  subst l1001 y1001 z1001
  obtain ⟨rfl, N1001q, e1001⟩ := hQ1001
  have N1001 := Fr.app N0 N1001q
  refine OEnds.st st1001 ?_
  clear st1001
  show OEnds p.tables e below G (T1001.setTop (mkF m 7 #[.val (.int (4 : Int32))] [(.int (29 : Int32)), (.int (-2147483648 : Int32)), (.int (4 : Int32))]))
  refine OEnds.st (fun _ k => XS.iushr X1001.here hx rfl (hb hby d5_7) rfl k) ?_
  show OEnds p.tables e below G (T1001.setTop (mkF m 8 #[.val (.int (4 : Int32))] [(.int (((-2147483648 : Int32).toUInt32 >>> ((29 : Int32) &&& 31).toUInt32).toInt32)), (.int (4 : Int32))]))
  rw [show (((-2147483648 : Int32).toUInt32 >>> ((29 : Int32) &&& 31).toUInt32).toInt32) = (4 : Int32) from by decide]
  show OEnds p.tables e below G (T1001.setTop (mkF m 8 #[.val (.int (4 : Int32))] [(.int (4 : Int32)), (.int (4 : Int32))]))
  refine OEnds.st (fun _ k => XS.iand X1001.here hx rfl (hb hby d5_8) rfl k) ?_
  show OEnds p.tables e below G (T1001.setTop (mkF m 9 #[.val (.int (4 : Int32))] [(.int ((4 : Int32) &&& (4 : Int32)))]))
  rw [show ((4 : Int32) &&& (4 : Int32)) = (4 : Int32) from by decide]
  show OEnds p.tables e below G (T1001.setTop (mkF m 9 #[.val (.int (4 : Int32))] [(.int (4 : Int32))]))
  rw [← hG]
  refine OEnds.retI X1001 hx hlk Bd.returns (hb hby d5_9) (by decide) (by decide) ?_
  rw [e1001]
  exact ⟨rfl, N1001, rfl⟩
theorem pn_3 : plainName "java/util/Arrays" = true := by first | (simp [plainName, overriddenIn]; done) | decide +kernel
theorem ef_7 (m : MethodId) (a1 : Addr) : entryFrame m #[(.ref a1), (.long (-1 : Int64))] 5 = mkF m 0 #[.val (.ref a1), .val (.long (-1 : Int64)), .second, .unset, .unset] [] := by first | (simp [entryFrame, mkF, argsToLocals, Value.category]; done) | rfl
def Q7 (Z : State) (a1 : Addr) (k : ClassId) (z : Int32) (M : Nat) (f : Nat → Int64) (h0 : Heap) (n0 : Nat) (v : Option Value) (h : Heap) (L : List Loc) : Prop := v = none ∧ Fr n0 L ∧ Keep h0 h [a1] ∧ Arv Z h a1 k .long z (own_T M own_E) (.long (0 : Int64))
theorem d7_0 : decode jdk_65_method_101_code 0 = .ok (.iconst 0, 1) := by decide +kernel
theorem d7_1 : decode jdk_65_method_101_code 1 = .ok (.istore_n 3, 1) := by decide +kernel
theorem d7_2 : decode jdk_65_method_101_code 2 = .ok (.aload_n 0, 1) := by decide +kernel
theorem d7_3 : decode jdk_65_method_101_code 3 = .ok (.arraylength, 1) := by decide +kernel
theorem d7_4 : decode jdk_65_method_101_code 4 = .ok (.istore 4, 2) := by decide +kernel
theorem d7_6 : decode jdk_65_method_101_code 6 = .ok (.iload_n 3, 1) := by decide +kernel
theorem d7_7 : decode jdk_65_method_101_code 7 = .ok (.iload 4, 2) := by decide +kernel
theorem d7_9 : decode jdk_65_method_101_code 9 = .ok (.if_icmp .ge 13, 3) := by decide +kernel
theorem d7_12 : decode jdk_65_method_101_code 12 = .ok (.aload_n 0, 1) := by decide +kernel
theorem d7_13 : decode jdk_65_method_101_code 13 = .ok (.iload_n 3, 1) := by decide +kernel
theorem d7_14 : decode jdk_65_method_101_code 14 = .ok (.lload_n 1, 1) := by decide +kernel
theorem d7_15 : decode jdk_65_method_101_code 15 = .ok (.lastore, 1) := by decide +kernel
theorem d7_16 : decode jdk_65_method_101_code 16 = .ok (.iinc 3 1, 3) := by decide +kernel
theorem d7_19 : decode jdk_65_method_101_code 19 = .ok (.goto (-13), 3) := by decide +kernel
theorem d7_22 : decode jdk_65_method_101_code 22 = .ok (.return_, 1) := by decide +kernel
set_option maxRecDepth 65536 in
set_option maxHeartbeats 40000000 in
theorem rm7 (l : Launch) (Z : State) (a0 : Array Value) (hw : ∀ d ∈ tables_1, d.before a0 Z = true) (ws : List Jvm.Cond) (a1 : Addr) (k : ClassId) (z : Int32) (M : Nat) (f : Nat → Int64) (h0 : Heap) (n0 : Nat) (Z0 : n0 ≤ h0.size) (V : Arv Z h0 a1 k .long z (own_T M f) (.long (0 : Int64))) (g_a1 : n0 ≤ a1) (hz : z.toInt = (M : Int)) (hM : M ≤ 16) :
    MetFree l (⟨"java/util/Arrays", "fill", "([JJ)V"⟩ : MethodName) (head1 (Jvm.Cond.code (⟨"java/util/Arrays", "fill", "([JJ)V"⟩ : MethodName) jdk_65_method_101_code 5 none :: ws) ({ frames := 0, cells := 0, slots := 0, locals := 0 } : Room)) (fun a U => a = #[(.ref a1), (.long (-1 : Int64))] ∧ Z.Warmed39 U.vm ∧ U.heap = h0) (fun _ _ _ _ _ => True) (fun _ U o U' => ∃ v L, o = .returned v ∧ Q7 Z a1 k z M f h0 n0 v U'.heap L ∧ FrameEnd U o U' L ({ frames := 0, cells := 0, slots := 0, locals := 0 } : Room).cells ({ frames := 0, cells := 0, slots := 0, locals := 0 } : Room).slots) := by
  refine MetFree.of_bodySF (plainFor_of_name pn_3) hisR ?_
  intro p e s m args below meth c s₁ Bd hml0 hP hK
  obtain ⟨rfl, hZ, hh⟩ := hP
  have hx := Bd.exec
  have hby := Bd.bytes
  have hml : c.maxLocals = 5 := hml0
  have hown : s.vm.findClass "java/util/Arrays" = some m.cls := findClass_of_methodNamed Bd.named
  have hnm := (name_of_methodNamed Bd.named Bd.method).1
  have hlk : meth.locks = false := BodyLoose.notSynchronized Bd
  have X0 : Stand p l e ({ frames := 0, cells := 0, slots := 0, locals := 0 } : Room) s m #[(.ref a1), (.long (-1 : Int64))] below meth c s₁ [] 0 0 := Stand.of_body Bd
  have e0 : s₁.heap = h0 := by rw [← hh, Bd.state]; rfl
  have N0 := Fr.nil n0
  show OEnds p.tables e below (OGoal (Q7 Z a1 k z M f h0 n0) s 0 0) (s₁.setTop (entryFrame m #[(.ref a1), (.long (-1 : Int64))] 5))
  refine OEnds.st (fun t k => castTop (ef_7 m a1) k) ?_
  generalize hG : OGoal (Q7 Z a1 k z M f h0 n0) s 0 0 = G
  have KK0 : Keep h0 h0 [a1] := Keep.refl h0 [a1]
  show OEnds p.tables e below G (s₁.setTop (mkF m 0 #[.val (.ref a1), .val (.long (-1 : Int64)), .second, .unset, .unset] []))
  refine OEnds.st (fun _ k => XS.iconst X0.here hx rfl (hb hby d7_0) k) ?_
  show OEnds p.tables e below G (s₁.setTop (mkF m 1 #[.val (.ref a1), .val (.long (-1 : Int64)), .second, .unset, .unset] [(.int (0 : Int32))]))
  refine OEnds.st (fun _ k => XS.istoreN X0.here hx rfl (hb hby d7_1) rfl (l' := #[.val (.ref a1), .val (.long (-1 : Int64)), .second, .val (.int (0 : Int32)), .unset]) rfl k) ?_
  show OEnds p.tables e below G (s₁.setTop (mkF m 2 #[.val (.ref a1), .val (.long (-1 : Int64)), .second, .val (.int (0 : Int32)), .unset] []))
  refine OEnds.st (fun _ k => XS.aloadN X0.here hx rfl (hb hby d7_2) rfl rfl k) ?_
  show OEnds p.tables e below G (s₁.setTop (mkF m 3 #[.val (.ref a1), .val (.long (-1 : Int64)), .second, .val (.int (0 : Int32)), .unset] [(.ref a1)]))
  obtain ⟨cl1001, Ar1001, -, S1001, N1001n, -, -⟩ := id V
  refine OEnds.st (X0.arraylength hx (by rw [e0]; exact Ar1001.1) (State.isArrayOf_alike hZ.alike Ar1001.2.1) (g := (mkF m 3 #[.val (.ref a1), .val (.long (-1 : Int64)), .second, .val (.int (0 : Int32)), .unset] [(.ref a1)])) rfl rfl (hb hby d7_3)) ?_
  rw [len_of S1001 N1001n]
  show OEnds p.tables e below G (s₁.setTop (mkF m 4 #[.val (.ref a1), .val (.long (-1 : Int64)), .second, .val (.int (0 : Int32)), .unset] [(.int z)]))
  refine OEnds.st (fun _ k => XS.istore X0.here hx rfl (hb hby d7_4) rfl (l' := #[.val (.ref a1), .val (.long (-1 : Int64)), .second, .val (.int (0 : Int32)), .val (.int z)]) rfl k) ?_
  have loop : ∀ (d : Nat) (T1002 : State) (L1002 : List Loc) (h1002 : Heap) (X1002 : Stand p l e ({ frames := 0, cells := 0, slots := 0, locals := 0 } : Room) s m #[(.ref a1), (.long (-1 : Int64))] below meth c T1002 L1002 0 0) (e1002 : T1002.heap = h1002) (N1002 : Fr n0 L1002) (KK1002 : Keep h0 h1002 [a1]) (Z1002 : n0 ≤ h1002.size) (vv : Int32) (ff : Nat → Int64) (fa : Arv Z h1002 a1 k .long z (own_T M ff) (.long (0 : Int64))) (hv0 : 0 ≤ vv.toInt) (hvd : vv.toInt + (d : Int) = M) (hdn : ∀ i : Nat, (i : Int) < vv.toInt → ff i = -1), OEnds p.tables e below G (T1002.setTop (mkF m 6 #[.val (.ref a1), .val (.long (-1 : Int64)), .second, .val (.int vv), .val (.int z)] [])) := by
    intro d
    induction d with
    | zero =>
      intro T1002 L1002 h1002 X1002 e1002 N1002 KK1002 Z1002 vv ff fa hv0 hvd hdn
      have hend : ¬ vv < z := by rw [Int32.lt_iff_toInt_lt]; omega
      show OEnds p.tables e below G (T1002.setTop (mkF m 6 #[.val (.ref a1), .val (.long (-1 : Int64)), .second, .val (.int vv), .val (.int z)] []))
      refine OEnds.st (fun _ k => XS.iloadN X1002.here hx rfl (hb hby d7_6) rfl k) ?_
      show OEnds p.tables e below G (T1002.setTop (mkF m 7 #[.val (.ref a1), .val (.long (-1 : Int64)), .second, .val (.int vv), .val (.int z)] [(.int vv)]))
      refine OEnds.st (fun _ k => XS.iload X1002.here hx rfl (hb hby d7_7) rfl k) ?_
      show OEnds p.tables e below G (T1002.setTop (mkF m 9 #[.val (.ref a1), .val (.long (-1 : Int64)), .second, .val (.int vv), .val (.int z)] [(.int z), (.int vv)]))
      refine OEnds.st (fun _ k => XS.icmpYes X1002.here hx rfl (pc0 := 9) (pc' := 22) rfl (hb hby d7_9) rfl (flt hend).2.1 (by decide) (by decide) k) ?_
      show OEnds p.tables e below G (T1002.setTop (mkF m 22 #[.val (.ref a1), .val (.long (-1 : Int64)), .second, .val (.int vv), .val (.int z)] []))
      rw [← hG]
      refine OEnds.retV X1002 hx hlk Bd.returns (hb hby d7_22) (by decide) (by decide) ?_
      rw [e1002]
      exact ⟨rfl, N1002, KK1002, (by rw [← own_T_emp (M := M) (f := ff) (fun i hi => hdn i (by omega))]; exact fa)⟩
    | succ d ih =>
      intro T1002 L1002 h1002 X1002 e1002 N1002 KK1002 Z1002 vv ff fa hv0 hvd hdn
      have hvv : 0 ≤ vv.toInt ∧ vv.toInt < M := ⟨hv0, by omega⟩
      have hinc := own_inc hM hv0 hvd
      have hgo : vv < z := own_lz hz hvv
      show OEnds p.tables e below G (T1002.setTop (mkF m 6 #[.val (.ref a1), .val (.long (-1 : Int64)), .second, .val (.int vv), .val (.int z)] []))
      refine OEnds.st (fun _ k => XS.iloadN X1002.here hx rfl (hb hby d7_6) rfl k) ?_
      show OEnds p.tables e below G (T1002.setTop (mkF m 7 #[.val (.ref a1), .val (.long (-1 : Int64)), .second, .val (.int vv), .val (.int z)] [(.int vv)]))
      refine OEnds.st (fun _ k => XS.iload X1002.here hx rfl (hb hby d7_7) rfl k) ?_
      show OEnds p.tables e below G (T1002.setTop (mkF m 9 #[.val (.ref a1), .val (.long (-1 : Int64)), .second, .val (.int vv), .val (.int z)] [(.int z), (.int vv)]))
      refine OEnds.st (fun _ k => XS.icmpNo X1002.here hx rfl (hb hby d7_9) rfl (tlt hgo).2.1 k) ?_
      show OEnds p.tables e below G (T1002.setTop (mkF m 12 #[.val (.ref a1), .val (.long (-1 : Int64)), .second, .val (.int vv), .val (.int z)] []))
      refine OEnds.st (fun _ k => XS.aloadN X1002.here hx rfl (hb hby d7_12) rfl rfl k) ?_
      show OEnds p.tables e below G (T1002.setTop (mkF m 13 #[.val (.ref a1), .val (.long (-1 : Int64)), .second, .val (.int vv), .val (.int z)] [(.ref a1)]))
      refine OEnds.st (fun _ k => XS.iloadN X1002.here hx rfl (hb hby d7_13) rfl k) ?_
      show OEnds p.tables e below G (T1002.setTop (mkF m 14 #[.val (.ref a1), .val (.long (-1 : Int64)), .second, .val (.int vv), .val (.int z)] [(.int vv), (.ref a1)]))
      refine OEnds.st (fun _ k => XS.lloadN X1002.here hx rfl (hb hby d7_14) rfl k) ?_
      show OEnds p.tables e below G (T1002.setTop (mkF m 15 #[.val (.ref a1), .val (.long (-1 : Int64)), .second, .val (.int vv), .val (.int z)] [(.long (-1 : Int64)), (.int vv), (.ref a1)]))
      obtain ⟨cl1003, Ar1003, q1003, S1003, N1003n, H1003, G1003⟩ := id fa
      have hin1003 : ¬ (vv < 0 ∨ cl1003.slots.size ≤ (vv).toNatClampNeg) := inb_of S1003 ⟨own_nl hvv, own_lz hz hvv⟩
      obtain ⟨T1003, h1003, X1003, e1003, W1003, st1003⟩ := stJ X1002 hx hZ e1002 Ar1003 (j := vv) hin1003 (g := (mkF m 15 #[.val (.ref a1), .val (.long (-1 : Int64)), .second, .val (.int vv), .val (.int z)] [(.long (-1 : Int64)), (.int vv), (.ref a1)])) rfl rfl (hb hby d7_15)
      refine OEnds.st st1003 ?_
      clear st1003
      have f1004 : Arv Z h1003 a1 k .long z ((own_T M ff).set vv.toNatClampNeg (.long (-1 : Int64))) (.long (0 : Int64)) := Arv.set Ar1003 q1003 S1003 N1003n H1003 G1003 rfl W1003 vv.toNatClampNeg rfl (own_jT _ hvv)
      have N1003 := Fr.snoc X1003 N1002 g_a1
      have KK1003 : Keep h0 h1003 [a1] := KK1002.wr W1003 (Or.inl (List.mem_of_getElem? (i := 0) rfl))
      have Z1003 := Nat.le_trans Z1002 (Keep.of_wr W1003).1
      rw [own_T_set] at f1004
      show OEnds p.tables e below G (T1003.setTop (mkF m 16 #[.val (.ref a1), .val (.long (-1 : Int64)), .second, .val (.int vv), .val (.int z)] []))
      refine OEnds.st (fun _ k => XS.iinc X1003.here hx rfl (hb hby d7_16) rfl (l' := #[.val (.ref a1), .val (.long (-1 : Int64)), .second, .val (.int (vv + (1 : Int32))), .val (.int z)]) rfl k) ?_
      show OEnds p.tables e below G (T1003.setTop (mkF m 19 #[.val (.ref a1), .val (.long (-1 : Int64)), .second, .val (.int (vv + (1 : Int32))), .val (.int z)] []))
      generalize hv_v1005 : (vv + (1 : Int32)) = v1005
      show OEnds p.tables e below G (T1003.setTop (mkF m 19 #[.val (.ref a1), .val (.long (-1 : Int64)), .second, .val (.int v1005), .val (.int z)] []))
      refine OEnds.st (fun _ k => XS.goto X1003.here hx rfl (pc0 := 19) (pc' := 6) rfl (hb hby d7_19) (by decide) (by decide) k) ?_
      exact ih T1003 _ _ X1003 e1003 N1003 KK1003 Z1003 v1005 _ f1004 (by rw [← hv_v1005]; omega) (by rw [← hv_v1005]; omega) (by rw [← hv_v1005]; exact own_fdn hvv hinc hdn)
  exact loop M s₁ _ _ X0 e0 N0 KK0 Z0 _ f V (by decide) (by have := own_i0; omega) (fun i hi => by have := own_i0; omega)
theorem pn_4 : plainName "com/example/clearingd/clearingd/store/PositionSet" = true := by first | (simp [plainName, overriddenIn]; done) | decide +kernel
theorem ef_ini1 (m : MethodId) (a1 : Addr) : entryFrame m #[(.ref a1), (.int (1 : Int32))] 2 = mkF m 0 #[.val (.ref a1), .val (.int (1 : Int32))] [] := by first | (simp [entryFrame, mkF, argsToLocals, Value.category]; done) | rfl
def Qini1 (Z : State) (a1 : Addr) (h0 : Heap) (n0 : Nat) (v : Option Value) (h : Heap) (L : List Loc) : Prop := ∃ (sa : Addr) (ta : Addr) (ks : ClassId) (kt : ClassId), v = none ∧ Fr n0 L ∧ Keep h0 h [a1] ∧ h0.size ≤ sa ∧ h0.size ≤ ta ∧ sa ≠ ta ∧ Exa Z h a1 "com/example/clearingd/clearingd/store/PositionSet" ∧ Fld Z h a1 "com/example/clearingd/clearingd/store/PositionSet" "slots" "[J" (.ref sa) ∧ Fld Z h a1 "com/example/clearingd/clearingd/store/PositionSet" "taken" "[I" (.ref ta) ∧ Fld Z h a1 "com/example/clearingd/clearingd/store/PositionSet" "capacity" "I" (.int (1 : Int32)) ∧ Fld Z h a1 "com/example/clearingd/clearingd/store/PositionSet" "size" "I" (.int (0 : Int32)) ∧ Fld Z h a1 "com/example/clearingd/clearingd/store/PositionSet" "overflowed" "Z" (.int (0 : Int32)) ∧ Arv Z h sa ks .long (4 : Int32) (own_T 4 own_E) (.long (0 : Int64)) ∧ Arv Z h ta kt .int (1 : Int32) (own_G 1 own_Z) (.int (0 : Int32))
theorem pd_1 : parseMethodDescriptor "(II)I" = some ⟨[.int, .int], some .int⟩ := by decide +kernel
theorem pd_2 : parseMethodDescriptor "([JJ)V" = some ⟨[(.array .long), .long], none⟩ := by decide +kernel
theorem d2_0 : decode prog_44_method_1_code 0 = .ok (.aload_n 0, 1) := by decide +kernel
theorem d2_1 : decode prog_44_method_1_code 1 = .ok (.invokespecial 1, 3) := by decide +kernel
theorem d2_4 : decode prog_44_method_1_code 4 = .ok (.aload_n 0, 1) := by decide +kernel
theorem d2_5 : decode prog_44_method_1_code 5 = .ok (.iconst 1, 1) := by decide +kernel
theorem d2_6 : decode prog_44_method_1_code 6 = .ok (.iload_n 1, 1) := by decide +kernel
theorem d2_7 : decode prog_44_method_1_code 7 = .ok (.invokestatic 7, 3) := by decide +kernel
theorem d2_10 : decode prog_44_method_1_code 10 = .ok (.putfield 13, 3) := by decide +kernel
theorem d2_13 : decode prog_44_method_1_code 13 = .ok (.aload_n 0, 1) := by decide +kernel
theorem d2_14 : decode prog_44_method_1_code 14 = .ok (.aload_n 0, 1) := by decide +kernel
theorem d2_15 : decode prog_44_method_1_code 15 = .ok (.getfield 13, 3) := by decide +kernel
theorem d2_18 : decode prog_44_method_1_code 18 = .ok (.invokestatic 19, 3) := by decide +kernel
theorem d2_21 : decode prog_44_method_1_code 21 = .ok (.iconst 2, 1) := by decide +kernel
theorem d2_22 : decode prog_44_method_1_code 22 = .ok (.ishl, 1) := by decide +kernel
theorem d2_23 : decode prog_44_method_1_code 23 = .ok (.newarray .long, 2) := by decide +kernel
theorem d2_25 : decode prog_44_method_1_code 25 = .ok (.putfield 25, 3) := by decide +kernel
theorem d2_28 : decode prog_44_method_1_code 28 = .ok (.aload_n 0, 1) := by decide +kernel
theorem d2_29 : decode prog_44_method_1_code 29 = .ok (.aload_n 0, 1) := by decide +kernel
theorem d2_30 : decode prog_44_method_1_code 30 = .ok (.getfield 13, 3) := by decide +kernel
theorem d2_33 : decode prog_44_method_1_code 33 = .ok (.newarray .int, 2) := by decide +kernel
theorem d2_35 : decode prog_44_method_1_code 35 = .ok (.putfield 29, 3) := by decide +kernel
theorem d2_38 : decode prog_44_method_1_code 38 = .ok (.aload_n 0, 1) := by decide +kernel
theorem d2_39 : decode prog_44_method_1_code 39 = .ok (.getfield 25, 3) := by decide +kernel
theorem d2_42 : decode prog_44_method_1_code 42 = .ok (.ldc2_w 33, 3) := by decide +kernel
theorem d2_45 : decode prog_44_method_1_code 45 = .ok (.invokestatic 35, 3) := by decide +kernel
theorem d2_48 : decode prog_44_method_1_code 48 = .ok (.return_, 1) := by decide +kernel
set_option maxRecDepth 65536 in
set_option maxHeartbeats 40000000 in
theorem rmini1 (l : Launch) (Z : State) (a0 : Array Value) (hw : ∀ d ∈ tables_1, d.before a0 Z = true) (ws : List Jvm.Cond) (a1 : Addr) (h0 : Heap) (n0 : Nat) (Z0 : n0 ≤ h0.size) (E : Exa Z h0 a1 "com/example/clearingd/clearingd/store/PositionSet") (Fslots : Fld Z h0 a1 "com/example/clearingd/clearingd/store/PositionSet" "slots" "[J" .null) (Ftaken : Fld Z h0 a1 "com/example/clearingd/clearingd/store/PositionSet" "taken" "[I" .null) (Fcapacity : Fld Z h0 a1 "com/example/clearingd/clearingd/store/PositionSet" "capacity" "I" (.int (0 : Int32))) (Fsize : Fld Z h0 a1 "com/example/clearingd/clearingd/store/PositionSet" "size" "I" (.int (0 : Int32))) (Foverflowed : Fld Z h0 a1 "com/example/clearingd/clearingd/store/PositionSet" "overflowed" "Z" (.int (0 : Int32))) (g_a1 : n0 ≤ a1) :
    MetFree l (⟨"com/example/clearingd/clearingd/store/PositionSet", "<init>", "(I)V"⟩ : MethodName) (head1 (Jvm.Cond.code (⟨"com/example/clearingd/clearingd/store/PositionSet", "<init>", "(I)V"⟩ : MethodName) prog_44_method_1_code 2 none :: ws) ({ frames := 2, cells := 2, slots := 5, locals := 28 } : Room)) (fun a U => a = #[(.ref a1), (.int (1 : Int32))] ∧ Z.Warmed39 U.vm ∧ U.heap = h0) (fun _ _ _ _ _ => True) (fun _ U o U' => ∃ v L, o = .returned v ∧ Qini1 Z a1 h0 n0 v U'.heap L ∧ FrameEnd U o U' L ({ frames := 2, cells := 2, slots := 5, locals := 28 } : Room).cells ({ frames := 2, cells := 2, slots := 5, locals := 28 } : Room).slots) := by
  refine MetFree.of_bodySF (plainFor_of_name pn_4) hisR ?_
  intro p e s m args below meth c s₁ Bd hml0 hP hK
  obtain ⟨rfl, hZ, hh⟩ := hP
  have hx := Bd.exec
  have hby := Bd.bytes
  have hml : c.maxLocals = 2 := hml0
  have hown : s.vm.findClass "com/example/clearingd/clearingd/store/PositionSet" = some m.cls := findClass_of_methodNamed Bd.named
  have hnm := (name_of_methodNamed Bd.named Bd.method).1
  have hlk : meth.locks = false := BodyLoose.notSynchronized Bd
  have X0 : Stand p l e ({ frames := 2, cells := 2, slots := 5, locals := 28 } : Room) s m #[(.ref a1), (.int (1 : Int32))] below meth c s₁ [] 0 0 := Stand.of_body Bd
  have e0 : s₁.heap = h0 := by rw [← hh, Bd.state]; rfl
  have N0 := Fr.nil n0
  show OEnds p.tables e below (OGoal (Qini1 Z a1 h0 n0) s 2 5) (s₁.setTop (entryFrame m #[(.ref a1), (.int (1 : Int32))] 2))
  refine OEnds.st (fun t k => castTop (ef_ini1 m a1) k) ?_
  generalize hG : OGoal (Qini1 Z a1 h0 n0) s 2 5 = G
  have KK0 : Keep h0 h0 [a1] := Keep.refl h0 [a1]
  show OEnds p.tables e below G (s₁.setTop (mkF m 0 #[.val (.ref a1), .val (.int (1 : Int32))] []))
  refine OEnds.st (fun _ k => XS.aloadN X0.here hx rfl (hb hby d2_0) rfl rfl k) ?_
  show OEnds p.tables e below G (s₁.setTop (mkF m 1 #[.val (.ref a1), .val (.int (1 : Int32))] [(.ref a1)]))
  obtain ⟨T1001, X1001, e1001, st1001⟩ := initO X0 hx hZ hown (hw _ (List.mem_of_getElem? (i := 11) rfl)) (hw _ (List.mem_of_getElem? (i := 12) rfl)) (hw _ (List.mem_of_getElem? (i := 13) rfl)) e0 (g := (mkF m 1 #[.val (.ref a1), .val (.int (1 : Int32))] [(.ref a1)])) rfl (by rw [hml]; rfl) rfl (hb hby d2_1) (by decide) (W := 0) (by show 2 * 0 + _ ≤ _; exact Nat.le_of_eq rfl) (by decide)
  refine OEnds.st st1001 ?_
  clear st1001
  show OEnds p.tables e below G (T1001.setTop (mkF m 4 #[.val (.ref a1), .val (.int (1 : Int32))] []))
  refine OEnds.st (fun _ k => XS.aloadN X1001.here hx rfl (hb hby d2_4) rfl rfl k) ?_
  show OEnds p.tables e below G (T1001.setTop (mkF m 5 #[.val (.ref a1), .val (.int (1 : Int32))] [(.ref a1)]))
  refine OEnds.st (fun _ k => XS.iconst X1001.here hx rfl (hb hby d2_5) k) ?_
  show OEnds p.tables e below G (T1001.setTop (mkF m 6 #[.val (.ref a1), .val (.int (1 : Int32))] [(.int (1 : Int32)), (.ref a1)]))
  refine OEnds.st (fun _ k => XS.iloadN X1001.here hx rfl (hb hby d2_6) rfl k) ?_
  show OEnds p.tables e below G (T1001.setTop (mkF m 7 #[.val (.ref a1), .val (.int (1 : Int32))] [(.int (1 : Int32)), (.int (1 : Int32)), (.ref a1)]))
  obtain ⟨_, _, ⟨T1002, L1002, k1002c, n1002c⟩, -, X1002, ⟨Lc1002, hQ1002, l1002, y1002, z1002⟩, st1002⟩ := Jvm.LawKit.callS X1001 hx (y := (⟨"java/lang/Math", "max", "(II)I"⟩ : MethodName)) hown (mvT hZ (hw _ (List.mem_of_getElem? (i := 14) rfl))) (mvT hZ (hw _ (List.mem_of_getElem? (i := 15) rfl))) (mvT hZ (hw _ (List.mem_of_getElem? (i := 16) rfl))) (mvT hZ (hw _ (List.mem_of_getElem? (i := 17) rfl))) (by decide) (backOf (W := 1) (rmmx1 l Z a0 hw []  h0 n0 Z0 ) hZ (hw _ (List.mem_of_getElem? (i := 17) rfl)) (hw _ (List.mem_of_getElem? (i := 16) rfl)) (by decide) (by decide)) (g := (mkF m 7 #[.val (.ref a1), .val (.int (1 : Int32))] [(.int (1 : Int32)), (.int (1 : Int32)), (.ref a1)])) rfl (by rw [hml]; rfl) (argsL := [(.int (1 : Int32)), (.int (1 : Int32))]) (rest := [(.ref a1)]) (lenOf pd_1 rfl) rfl (by show 2 * 0 + _ ≤ _; exact Nat.le_of_eq rfl) (hb hby d2_7) (fun _ _ => ⟨rfl, e1001, (by decide : 0 + 0 ≤ _), (by decide : 0 + 0 ≤ _)⟩)
  dsimp only [Pt.U, Pt.locs, Pt.cells, Pt.slots] at X1002 l1002 y1002 z1002 st1002 hQ1002
  subst l1002 y1002 z1002
  obtain ⟨rfl, N1002q, e1002⟩ := hQ1002
  have N1002 := Fr.app N0 N1002q
  refine OEnds.st st1002 ?_
  clear st1002
  show OEnds p.tables e below G (T1002.setTop (mkF m 10 #[.val (.ref a1), .val (.int (1 : Int32))] [(.int (1 : Int32)), (.ref a1)]))
  obtain ⟨T1003, h1003, X1003, e1003, W1003, st1003⟩ := putF X1002 hx hZ hown (host := "") (Or.inl (hw _ (List.mem_of_getElem? (i := 18) rfl))) Via.refl e1002 Fcapacity E (Or.inr ⟨(hw _ (List.mem_of_getElem? (i := 19) rfl)), rfl, hnm⟩) (hw _ (List.mem_of_getElem? (i := 6) rfl)) (ty := .int) (by decide) rfl rfl (g := (mkF m 10 #[.val (.ref a1), .val (.int (1 : Int32))] [(.int (1 : Int32)), (.ref a1)])) rfl rfl (hb hby d2_10)
  refine OEnds.st st1003 ?_
  clear st1003
  have f1004 : Fld Z h1003 a1 "com/example/clearingd/clearingd/store/PositionSet" "capacity" "I" (.int (1 : Int32)) := Fcapacity.same W1003
  have f1005 : Exa Z h1003 a1 "com/example/clearingd/clearingd/store/PositionSet" := E.wr W1003
  have f1006 : Fld Z h1003 a1 "com/example/clearingd/clearingd/store/PositionSet" "slots" "[J" .null := Fslots.other W1003 (Or.inr (slot_ne (Or.inr (hw _ (List.mem_of_getElem? (i := 31) rfl))) (Or.inr (hw _ (List.mem_of_getElem? (i := 19) rfl))) (by decide) (t := (.array .long)) (t' := .int) (by decide) (by decide)))
  have f1007 : Fld Z h1003 a1 "com/example/clearingd/clearingd/store/PositionSet" "taken" "[I" .null := Ftaken.other W1003 (Or.inr (slot_ne (Or.inr (hw _ (List.mem_of_getElem? (i := 34) rfl))) (Or.inr (hw _ (List.mem_of_getElem? (i := 19) rfl))) (by decide) (t := (.array .int)) (t' := .int) (by decide) (by decide)))
  have f1009 : Fld Z h1003 a1 "com/example/clearingd/clearingd/store/PositionSet" "size" "I" (.int (0 : Int32)) := Fsize.other W1003 (Or.inr (slot_ne (Or.inl (hw _ (List.mem_of_getElem? (i := 46) rfl))) (Or.inr (hw _ (List.mem_of_getElem? (i := 19) rfl))) (by decide) (t := .int) (t' := .int) (by decide) (by decide)))
  have f1010 : Fld Z h1003 a1 "com/example/clearingd/clearingd/store/PositionSet" "overflowed" "Z" (.int (0 : Int32)) := Foverflowed.other W1003 (Or.inr (slot_ne (Or.inl (hw _ (List.mem_of_getElem? (i := 48) rfl))) (Or.inr (hw _ (List.mem_of_getElem? (i := 19) rfl))) (by decide) (t := .boolean) (t' := .int) (by decide) (by decide)))
  have N1003 := Fr.snoc X1003 N1002 g_a1
  have KK1003 : Keep h0 h1003 [a1] := KK0.wr W1003 (Or.inl (List.mem_of_getElem? (i := 0) rfl))
  have Z1003 := Nat.le_trans Z0 (Keep.of_wr W1003).1
  show OEnds p.tables e below G (T1003.setTop (mkF m 13 #[.val (.ref a1), .val (.int (1 : Int32))] []))
  refine OEnds.st (fun _ k => XS.aloadN X1003.here hx rfl (hb hby d2_13) rfl rfl k) ?_
  show OEnds p.tables e below G (T1003.setTop (mkF m 14 #[.val (.ref a1), .val (.int (1 : Int32))] [(.ref a1)]))
  refine OEnds.st (fun _ k => XS.aloadN X1003.here hx rfl (hb hby d2_14) rfl rfl k) ?_
  show OEnds p.tables e below G (T1003.setTop (mkF m 15 #[.val (.ref a1), .val (.int (1 : Int32))] [(.ref a1), (.ref a1)]))
  obtain ⟨T1011, X1011, e1011, st1011⟩ := getF X1003 hx hZ hown (host := "") (Or.inl (hw _ (List.mem_of_getElem? (i := 18) rfl))) Via.refl e1003 f1004 (g := (mkF m 15 #[.val (.ref a1), .val (.int (1 : Int32))] [(.ref a1), (.ref a1)])) rfl rfl (hb hby d2_15)
  refine OEnds.st st1011 ?_
  clear st1011
  show OEnds p.tables e below G (T1011.setTop (mkF m 18 #[.val (.ref a1), .val (.int (1 : Int32))] [(.int (1 : Int32)), (.ref a1)]))
  obtain ⟨_, _, ⟨T1012, L1012, k1012c, n1012c⟩, -, X1012, ⟨Lc1012, hQ1012, l1012, y1012, z1012⟩, st1012⟩ := Jvm.LawKit.callS X1011 hx (y := (⟨"java/lang/Integer", "highestOneBit", "(I)I"⟩ : MethodName)) hown (mvT hZ (hw _ (List.mem_of_getElem? (i := 20) rfl))) (mvT hZ (hw _ (List.mem_of_getElem? (i := 21) rfl))) (mvT hZ (hw _ (List.mem_of_getElem? (i := 22) rfl))) (mvT hZ (hw _ (List.mem_of_getElem? (i := 23) rfl))) (by decide) (backOf (W := 1) (rmho1 l Z a0 hw []  h1003 n0 Z1003 ) hZ (hw _ (List.mem_of_getElem? (i := 23) rfl)) (hw _ (List.mem_of_getElem? (i := 22) rfl)) (by decide) (by decide)) (g := (mkF m 18 #[.val (.ref a1), .val (.int (1 : Int32))] [(.int (1 : Int32)), (.ref a1)])) rfl (by rw [hml]; rfl) (argsL := [(.int (1 : Int32))]) (rest := [(.ref a1)]) (lenOf pd_0 rfl) rfl (by show 2 * 0 + _ ≤ _; exact Nat.le_of_eq rfl) (hb hby d2_18) (fun _ _ => ⟨rfl, e1011, (by decide : 0 + 0 + 0 ≤ _), (by decide : 0 + 0 + 0 ≤ _)⟩)
  dsimp only [Pt.U, Pt.locs, Pt.cells, Pt.slots] at X1012 l1012 y1012 z1012 st1012 hQ1012
  subst l1012 y1012 z1012
  obtain ⟨rfl, N1012q, e1012⟩ := hQ1012
  have N1012 := Fr.app N1003 N1012q
  refine OEnds.st st1012 ?_
  clear st1012
  show OEnds p.tables e below G (T1012.setTop (mkF m 21 #[.val (.ref a1), .val (.int (1 : Int32))] [(.int (1 : Int32)), (.ref a1)]))
  refine OEnds.st (fun _ k => XS.iconst X1012.here hx rfl (hb hby d2_21) k) ?_
  show OEnds p.tables e below G (T1012.setTop (mkF m 22 #[.val (.ref a1), .val (.int (1 : Int32))] [(.int (2 : Int32)), (.int (1 : Int32)), (.ref a1)]))
  refine OEnds.st (fun _ k => XS.ishl X1012.here hx rfl (hb hby d2_22) rfl k) ?_
  show OEnds p.tables e below G (T1012.setTop (mkF m 23 #[.val (.ref a1), .val (.int (1 : Int32))] [(.int ((1 : Int32) <<< ((2 : Int32) &&& 31))), (.ref a1)]))
  rw [show ((1 : Int32) <<< ((2 : Int32) &&& 31)) = (4 : Int32) from by decide]
  show OEnds p.tables e below G (T1012.setTop (mkF m 23 #[.val (.ref a1), .val (.int (1 : Int32))] [(.int (4 : Int32)), (.ref a1)]))
  obtain ⟨T1013, h1013, k1013, X1013, e1013, E1013, A1013, st1013⟩ := newP X1012 hx hZ (hw _ (List.mem_of_getElem? (i := 29) rfl)) e1012 (g := (mkF m 23 #[.val (.ref a1), .val (.int (1 : Int32))] [(.int (4 : Int32)), (.ref a1)])) rfl (hb hby d2_23) rfl (by decide) (cap := 4) (by decide) (by decide) (by decide) (by decide)
  obtain ⟨b1013, g1013⟩ : ∃ z, z = h1003.size := ⟨_, rfl⟩
  rw [← g1013] at A1013 st1013
  refine OEnds.st st1013 ?_
  clear st1013
  have ne1014 : a1 ≠ b1013 := Nat.ne_of_lt (Nat.lt_of_lt_of_le (f1005).lt (Nat.le_of_eq g1013.symm))
  have ge_b1013 : n0 ≤ b1013 := Nat.le_trans Z1003 (Nat.le_of_eq g1013.symm)
  have sz_b1013 : h0.size ≤ b1013 := Nat.le_trans KK1003.1 (Nat.le_of_eq g1013.symm)
  have f1015 : Exa Z h1013 a1 "com/example/clearingd/clearingd/store/PositionSet" := f1005.ext E1013
  have f1016 : Fld Z h1013 a1 "com/example/clearingd/clearingd/store/PositionSet" "slots" "[J" .null := f1006.ext E1013
  have f1017 : Fld Z h1013 a1 "com/example/clearingd/clearingd/store/PositionSet" "taken" "[I" .null := f1007.ext E1013
  have f1018 : Fld Z h1013 a1 "com/example/clearingd/clearingd/store/PositionSet" "size" "I" (.int (0 : Int32)) := f1009.ext E1013
  have f1019 : Fld Z h1013 a1 "com/example/clearingd/clearingd/store/PositionSet" "overflowed" "Z" (.int (0 : Int32)) := f1010.ext E1013
  have f1020 : Fld Z h1013 a1 "com/example/clearingd/clearingd/store/PositionSet" "capacity" "I" (.int (1 : Int32)) := f1004.ext E1013
  have KK1013 : Keep h0 h1013 [a1] := KK1003.ext E1013
  have Z1013 := Nat.le_trans Z1003 E1013.1
  have f1021 : Arv Z h1013 b1013 k1013 .long (4 : Int32) [(.long (0 : Int64)), (.long (0 : Int64)), (.long (0 : Int64)), (.long (0 : Int64))] (.long (0 : Int64)) := (Arv.new A1013 (by decide)).pad (pad_rep [] (.long (0 : Int64)) 4)
  show OEnds p.tables e below G (T1013.setTop (mkF m 25 #[.val (.ref a1), .val (.int (1 : Int32))] [(.ref b1013), (.ref a1)]))
  obtain ⟨T1022, h1022, X1022, e1022, W1022, st1022⟩ := putF X1013 hx hZ hown (host := "") (Or.inl (hw _ (List.mem_of_getElem? (i := 30) rfl))) Via.refl e1013 f1016 f1015 (Or.inr ⟨(hw _ (List.mem_of_getElem? (i := 31) rfl)), rfl, hnm⟩) (hw _ (List.mem_of_getElem? (i := 6) rfl)) (ty := (.array .long)) (by decide) rfl rfl (g := (mkF m 25 #[.val (.ref a1), .val (.int (1 : Int32))] [(.ref b1013), (.ref a1)])) rfl rfl (hb hby d2_25)
  refine OEnds.st st1022 ?_
  clear st1022
  have f1023 : Fld Z h1022 a1 "com/example/clearingd/clearingd/store/PositionSet" "slots" "[J" (.ref b1013) := f1016.same W1022
  have f1024 : Exa Z h1022 a1 "com/example/clearingd/clearingd/store/PositionSet" := f1015.wr W1022
  have f1026 : Fld Z h1022 a1 "com/example/clearingd/clearingd/store/PositionSet" "taken" "[I" .null := f1017.other W1022 (Or.inr (slot_ne (Or.inr (hw _ (List.mem_of_getElem? (i := 34) rfl))) (Or.inr (hw _ (List.mem_of_getElem? (i := 31) rfl))) (by decide) (t := (.array .int)) (t' := (.array .long)) (by decide) (by decide)))
  have f1027 : Fld Z h1022 a1 "com/example/clearingd/clearingd/store/PositionSet" "size" "I" (.int (0 : Int32)) := f1018.other W1022 (Or.inr (slot_ne (Or.inl (hw _ (List.mem_of_getElem? (i := 46) rfl))) (Or.inr (hw _ (List.mem_of_getElem? (i := 31) rfl))) (by decide) (t := .int) (t' := (.array .long)) (by decide) (by decide)))
  have f1028 : Fld Z h1022 a1 "com/example/clearingd/clearingd/store/PositionSet" "overflowed" "Z" (.int (0 : Int32)) := f1019.other W1022 (Or.inr (slot_ne (Or.inl (hw _ (List.mem_of_getElem? (i := 48) rfl))) (Or.inr (hw _ (List.mem_of_getElem? (i := 31) rfl))) (by decide) (t := .boolean) (t' := (.array .long)) (by decide) (by decide)))
  have f1029 : Fld Z h1022 a1 "com/example/clearingd/clearingd/store/PositionSet" "capacity" "I" (.int (1 : Int32)) := f1020.other W1022 (Or.inr (slot_ne (Or.inr (hw _ (List.mem_of_getElem? (i := 19) rfl))) (Or.inr (hw _ (List.mem_of_getElem? (i := 31) rfl))) (by decide) (t := .int) (t' := (.array .long)) (by decide) (by decide)))
  have f1030 : Arv Z h1022 b1013 k1013 .long (4 : Int32) [(.long (0 : Int64)), (.long (0 : Int64)), (.long (0 : Int64)), (.long (0 : Int64))] (.long (0 : Int64)) := f1021.other W1022 (Ne.symm ne1014)
  have N1022 := Fr.snoc X1022 N1012 g_a1
  have KK1022 : Keep h0 h1022 [a1] := KK1013.wr W1022 (Or.inl (List.mem_of_getElem? (i := 0) rfl))
  have Z1022 := Nat.le_trans Z1013 (Keep.of_wr W1022).1
  show OEnds p.tables e below G (T1022.setTop (mkF m 28 #[.val (.ref a1), .val (.int (1 : Int32))] []))
  refine OEnds.st (fun _ k => XS.aloadN X1022.here hx rfl (hb hby d2_28) rfl rfl k) ?_
  show OEnds p.tables e below G (T1022.setTop (mkF m 29 #[.val (.ref a1), .val (.int (1 : Int32))] [(.ref a1)]))
  refine OEnds.st (fun _ k => XS.aloadN X1022.here hx rfl (hb hby d2_29) rfl rfl k) ?_
  show OEnds p.tables e below G (T1022.setTop (mkF m 30 #[.val (.ref a1), .val (.int (1 : Int32))] [(.ref a1), (.ref a1)]))
  obtain ⟨T1031, X1031, e1031, st1031⟩ := getF X1022 hx hZ hown (host := "") (Or.inl (hw _ (List.mem_of_getElem? (i := 18) rfl))) Via.refl e1022 f1029 (g := (mkF m 30 #[.val (.ref a1), .val (.int (1 : Int32))] [(.ref a1), (.ref a1)])) rfl rfl (hb hby d2_30)
  refine OEnds.st st1031 ?_
  clear st1031
  show OEnds p.tables e below G (T1031.setTop (mkF m 33 #[.val (.ref a1), .val (.int (1 : Int32))] [(.int (1 : Int32)), (.ref a1)]))
  obtain ⟨T1032, h1032, k1032, X1032, e1032, E1032, A1032, st1032⟩ := newP X1031 hx hZ (hw _ (List.mem_of_getElem? (i := 32) rfl)) e1031 (g := (mkF m 33 #[.val (.ref a1), .val (.int (1 : Int32))] [(.int (1 : Int32)), (.ref a1)])) rfl (hb hby d2_33) rfl (by decide) (cap := 1) (by decide) (by decide) (by decide) (by decide)
  obtain ⟨b1032, g1032⟩ : ∃ z, z = h1022.size := ⟨_, rfl⟩
  rw [← g1032] at A1032 st1032
  refine OEnds.st st1032 ?_
  clear st1032
  have ne1033 : a1 ≠ b1032 := Nat.ne_of_lt (Nat.lt_of_lt_of_le (f1024).lt (Nat.le_of_eq g1032.symm))
  have ne1034 : b1013 ≠ b1032 := Nat.ne_of_lt (Nat.lt_of_lt_of_le (f1030).lt (Nat.le_of_eq g1032.symm))
  have ge_b1032 : n0 ≤ b1032 := Nat.le_trans Z1022 (Nat.le_of_eq g1032.symm)
  have sz_b1032 : h0.size ≤ b1032 := Nat.le_trans KK1022.1 (Nat.le_of_eq g1032.symm)
  have f1035 : Exa Z h1032 a1 "com/example/clearingd/clearingd/store/PositionSet" := f1024.ext E1032
  have f1036 : Fld Z h1032 a1 "com/example/clearingd/clearingd/store/PositionSet" "taken" "[I" .null := f1026.ext E1032
  have f1037 : Fld Z h1032 a1 "com/example/clearingd/clearingd/store/PositionSet" "size" "I" (.int (0 : Int32)) := f1027.ext E1032
  have f1038 : Fld Z h1032 a1 "com/example/clearingd/clearingd/store/PositionSet" "overflowed" "Z" (.int (0 : Int32)) := f1028.ext E1032
  have f1039 : Fld Z h1032 a1 "com/example/clearingd/clearingd/store/PositionSet" "capacity" "I" (.int (1 : Int32)) := f1029.ext E1032
  have f1040 : Arv Z h1032 b1013 k1013 .long (4 : Int32) [(.long (0 : Int64)), (.long (0 : Int64)), (.long (0 : Int64)), (.long (0 : Int64))] (.long (0 : Int64)) := f1030.ext E1032
  have f1041 : Fld Z h1032 a1 "com/example/clearingd/clearingd/store/PositionSet" "slots" "[J" (.ref b1013) := f1023.ext E1032
  have KK1032 : Keep h0 h1032 [a1] := KK1022.ext E1032
  have Z1032 := Nat.le_trans Z1022 E1032.1
  have f1042 : Arv Z h1032 b1032 k1032 .int (1 : Int32) [(.int (0 : Int32))] (.int (0 : Int32)) := (Arv.new A1032 (by decide)).pad (pad_rep [] (.int (0 : Int32)) 1)
  show OEnds p.tables e below G (T1032.setTop (mkF m 35 #[.val (.ref a1), .val (.int (1 : Int32))] [(.ref b1032), (.ref a1)]))
  obtain ⟨T1043, h1043, X1043, e1043, W1043, st1043⟩ := putF X1032 hx hZ hown (host := "") (Or.inl (hw _ (List.mem_of_getElem? (i := 33) rfl))) Via.refl e1032 f1036 f1035 (Or.inr ⟨(hw _ (List.mem_of_getElem? (i := 34) rfl)), rfl, hnm⟩) (hw _ (List.mem_of_getElem? (i := 6) rfl)) (ty := (.array .int)) (by decide) rfl rfl (g := (mkF m 35 #[.val (.ref a1), .val (.int (1 : Int32))] [(.ref b1032), (.ref a1)])) rfl rfl (hb hby d2_35)
  refine OEnds.st st1043 ?_
  clear st1043
  have f1044 : Fld Z h1043 a1 "com/example/clearingd/clearingd/store/PositionSet" "taken" "[I" (.ref b1032) := f1036.same W1043
  have f1045 : Exa Z h1043 a1 "com/example/clearingd/clearingd/store/PositionSet" := f1035.wr W1043
  have f1047 : Fld Z h1043 a1 "com/example/clearingd/clearingd/store/PositionSet" "size" "I" (.int (0 : Int32)) := f1037.other W1043 (Or.inr (slot_ne (Or.inl (hw _ (List.mem_of_getElem? (i := 46) rfl))) (Or.inr (hw _ (List.mem_of_getElem? (i := 34) rfl))) (by decide) (t := .int) (t' := (.array .int)) (by decide) (by decide)))
  have f1048 : Fld Z h1043 a1 "com/example/clearingd/clearingd/store/PositionSet" "overflowed" "Z" (.int (0 : Int32)) := f1038.other W1043 (Or.inr (slot_ne (Or.inl (hw _ (List.mem_of_getElem? (i := 48) rfl))) (Or.inr (hw _ (List.mem_of_getElem? (i := 34) rfl))) (by decide) (t := .boolean) (t' := (.array .int)) (by decide) (by decide)))
  have f1049 : Fld Z h1043 a1 "com/example/clearingd/clearingd/store/PositionSet" "capacity" "I" (.int (1 : Int32)) := f1039.other W1043 (Or.inr (slot_ne (Or.inr (hw _ (List.mem_of_getElem? (i := 19) rfl))) (Or.inr (hw _ (List.mem_of_getElem? (i := 34) rfl))) (by decide) (t := .int) (t' := (.array .int)) (by decide) (by decide)))
  have f1050 : Arv Z h1043 b1013 k1013 .long (4 : Int32) [(.long (0 : Int64)), (.long (0 : Int64)), (.long (0 : Int64)), (.long (0 : Int64))] (.long (0 : Int64)) := f1040.other W1043 (Ne.symm ne1014)
  have f1051 : Fld Z h1043 a1 "com/example/clearingd/clearingd/store/PositionSet" "slots" "[J" (.ref b1013) := f1041.other W1043 (Or.inr (slot_ne (Or.inr (hw _ (List.mem_of_getElem? (i := 31) rfl))) (Or.inr (hw _ (List.mem_of_getElem? (i := 34) rfl))) (by decide) (t := (.array .long)) (t' := (.array .int)) (by decide) (by decide)))
  have f1052 : Arv Z h1043 b1032 k1032 .int (1 : Int32) [(.int (0 : Int32))] (.int (0 : Int32)) := f1042.other W1043 (Ne.symm ne1033)
  have N1043 := Fr.snoc X1043 N1022 g_a1
  have KK1043 : Keep h0 h1043 [a1] := KK1032.wr W1043 (Or.inl (List.mem_of_getElem? (i := 0) rfl))
  have Z1043 := Nat.le_trans Z1032 (Keep.of_wr W1043).1
  show OEnds p.tables e below G (T1043.setTop (mkF m 38 #[.val (.ref a1), .val (.int (1 : Int32))] []))
  refine OEnds.st (fun _ k => XS.aloadN X1043.here hx rfl (hb hby d2_38) rfl rfl k) ?_
  show OEnds p.tables e below G (T1043.setTop (mkF m 39 #[.val (.ref a1), .val (.int (1 : Int32))] [(.ref a1)]))
  obtain ⟨T1053, X1053, e1053, st1053⟩ := getF X1043 hx hZ hown (host := "") (Or.inl (hw _ (List.mem_of_getElem? (i := 30) rfl))) Via.refl e1043 f1051 (g := (mkF m 39 #[.val (.ref a1), .val (.int (1 : Int32))] [(.ref a1)])) rfl rfl (hb hby d2_39)
  refine OEnds.st st1053 ?_
  clear st1053
  show OEnds p.tables e below G (T1053.setTop (mkF m 42 #[.val (.ref a1), .val (.int (1 : Int32))] [(.ref b1013)]))
  refine OEnds.st (X1053.ldc2Long hx hown (mvT hZ (hw _ (List.mem_of_getElem? (i := 35) rfl))) (g := (mkF m 42 #[.val (.ref a1), .val (.int (1 : Int32))] [(.ref b1013)])) rfl (hb hby d2_42)) ?_
  have fo1054 : Arv Z h1043 b1013 k1013 .long (4 : Int32) (own_T 4 own_O) (.long (0 : Int64)) := f1050
  show OEnds p.tables e below G (T1053.setTop (mkF m 45 #[.val (.ref a1), .val (.int (1 : Int32))] [(.long (-1 : Int64)), (.ref b1013)]))
  obtain ⟨_, _, ⟨T1055, L1055, k1055c, n1055c⟩, -, X1055, ⟨Lc1055, hQ1055, l1055, y1055, z1055⟩, st1055⟩ := Jvm.LawKit.callS X1053 hx (y := (⟨"java/util/Arrays", "fill", "([JJ)V"⟩ : MethodName)) hown (mvT hZ (hw _ (List.mem_of_getElem? (i := 36) rfl))) (mvT hZ (hw _ (List.mem_of_getElem? (i := 37) rfl))) (mvT hZ (hw _ (List.mem_of_getElem? (i := 38) rfl))) (mvT hZ (hw _ (List.mem_of_getElem? (i := 39) rfl))) (by decide) (backOf (W := 0) (rm7 l Z a0 hw [] b1013 k1013 (4 : Int32) 4 own_O h1043 n0 Z1043 fo1054 ge_b1013 rfl (by decide)) hZ (hw _ (List.mem_of_getElem? (i := 39) rfl)) (hw _ (List.mem_of_getElem? (i := 38) rfl)) (by decide) (by decide)) (g := (mkF m 45 #[.val (.ref a1), .val (.int (1 : Int32))] [(.long (-1 : Int64)), (.ref b1013)])) rfl (by rw [hml]; rfl) (argsL := [(.ref b1013), (.long (-1 : Int64))]) (rest := []) (lenOf pd_2 rfl) rfl (by show 2 * 0 + _ ≤ _; exact Nat.le_of_eq rfl) (hb hby d2_45) (fun _ _ => ⟨rfl, e1053, (by decide : 0 + 0 + 0 + 1 + 1 + 0 ≤ _), (by decide : 0 + 0 + 0 + 4 + 1 + 0 ≤ _)⟩)
  dsimp only [Pt.U, Pt.locs, Pt.cells, Pt.slots] at X1055 l1055 y1055 z1055 st1055 hQ1055
  subst l1055 y1055 z1055
  obtain ⟨rfl, N1055q, p1056, p1057⟩ := hQ1055
  have N1055 := Fr.app N1043 N1055q
  refine OEnds.st st1055 ?_
  clear st1055
  have f1058 : Exa Z T1055.heap a1 "com/example/clearingd/clearingd/store/PositionSet" := f1045.keep p1056
  have f1059 : Fld Z T1055.heap a1 "com/example/clearingd/clearingd/store/PositionSet" "size" "I" (.int (0 : Int32)) := f1047.keep p1056 (by simp only [List.mem_cons, List.not_mem_nil, or_false, not_or]; exact ne1014)
  have f1060 : Fld Z T1055.heap a1 "com/example/clearingd/clearingd/store/PositionSet" "overflowed" "Z" (.int (0 : Int32)) := f1048.keep p1056 (by simp only [List.mem_cons, List.not_mem_nil, or_false, not_or]; exact ne1014)
  have f1061 : Fld Z T1055.heap a1 "com/example/clearingd/clearingd/store/PositionSet" "capacity" "I" (.int (1 : Int32)) := f1049.keep p1056 (by simp only [List.mem_cons, List.not_mem_nil, or_false, not_or]; exact ne1014)
  have f1063 : Fld Z T1055.heap a1 "com/example/clearingd/clearingd/store/PositionSet" "slots" "[J" (.ref b1013) := f1051.keep p1056 (by simp only [List.mem_cons, List.not_mem_nil, or_false, not_or]; exact ne1014)
  have f1064 : Arv Z T1055.heap b1032 k1032 .int (1 : Int32) [(.int (0 : Int32))] (.int (0 : Int32)) := f1052.keep p1056 (by simp only [List.mem_cons, List.not_mem_nil, or_false, not_or]; exact (Ne.symm ne1034))
  have f1065 : Fld Z T1055.heap a1 "com/example/clearingd/clearingd/store/PositionSet" "taken" "[I" (.ref b1032) := f1044.keep p1056 (by simp only [List.mem_cons, List.not_mem_nil, or_false, not_or]; exact ne1014)
  have KK1055 : Keep h0 T1055.heap [a1] := KK1043.trans p1056 (fun x hx => by cases List.mem_singleton.mp hx; exact Or.inr sz_b1013)
  have Z1055 := Nat.le_trans Z1043 p1056.1
  show OEnds p.tables e below G (T1055.setTop (mkF m 48 #[.val (.ref a1), .val (.int (1 : Int32))] []))
  rw [← hG]
  refine OEnds.retV X1055 hx hlk Bd.returns (hb hby d2_48) (by decide) (by decide) ?_
  show _
  exact ⟨b1013, b1032, k1013, k1032, rfl, N1055, KK1055, sz_b1013, sz_b1032, ne1034, f1058, f1063, f1065, f1061, f1059, f1060, p1057, f1064⟩
theorem ef_ini2 (m : MethodId) (a1 : Addr) : entryFrame m #[(.ref a1), (.int (2 : Int32))] 2 = mkF m 0 #[.val (.ref a1), .val (.int (2 : Int32))] [] := by first | (simp [entryFrame, mkF, argsToLocals, Value.category]; done) | rfl
def Qini2 (Z : State) (a1 : Addr) (h0 : Heap) (n0 : Nat) (v : Option Value) (h : Heap) (L : List Loc) : Prop := ∃ (sa : Addr) (ta : Addr) (ks : ClassId) (kt : ClassId), v = none ∧ Fr n0 L ∧ Keep h0 h [a1] ∧ h0.size ≤ sa ∧ h0.size ≤ ta ∧ sa ≠ ta ∧ Exa Z h a1 "com/example/clearingd/clearingd/store/PositionSet" ∧ Fld Z h a1 "com/example/clearingd/clearingd/store/PositionSet" "slots" "[J" (.ref sa) ∧ Fld Z h a1 "com/example/clearingd/clearingd/store/PositionSet" "taken" "[I" (.ref ta) ∧ Fld Z h a1 "com/example/clearingd/clearingd/store/PositionSet" "capacity" "I" (.int (2 : Int32)) ∧ Fld Z h a1 "com/example/clearingd/clearingd/store/PositionSet" "size" "I" (.int (0 : Int32)) ∧ Fld Z h a1 "com/example/clearingd/clearingd/store/PositionSet" "overflowed" "Z" (.int (0 : Int32)) ∧ Arv Z h sa ks .long (8 : Int32) (own_T 8 own_E) (.long (0 : Int64)) ∧ Arv Z h ta kt .int (2 : Int32) (own_G 2 own_Z) (.int (0 : Int32))
set_option maxRecDepth 65536 in
set_option maxHeartbeats 40000000 in
theorem rmini2 (l : Launch) (Z : State) (a0 : Array Value) (hw : ∀ d ∈ tables_1, d.before a0 Z = true) (ws : List Jvm.Cond) (a1 : Addr) (h0 : Heap) (n0 : Nat) (Z0 : n0 ≤ h0.size) (E : Exa Z h0 a1 "com/example/clearingd/clearingd/store/PositionSet") (Fslots : Fld Z h0 a1 "com/example/clearingd/clearingd/store/PositionSet" "slots" "[J" .null) (Ftaken : Fld Z h0 a1 "com/example/clearingd/clearingd/store/PositionSet" "taken" "[I" .null) (Fcapacity : Fld Z h0 a1 "com/example/clearingd/clearingd/store/PositionSet" "capacity" "I" (.int (0 : Int32))) (Fsize : Fld Z h0 a1 "com/example/clearingd/clearingd/store/PositionSet" "size" "I" (.int (0 : Int32))) (Foverflowed : Fld Z h0 a1 "com/example/clearingd/clearingd/store/PositionSet" "overflowed" "Z" (.int (0 : Int32))) (g_a1 : n0 ≤ a1) :
    MetFree l (⟨"com/example/clearingd/clearingd/store/PositionSet", "<init>", "(I)V"⟩ : MethodName) (head1 (Jvm.Cond.code (⟨"com/example/clearingd/clearingd/store/PositionSet", "<init>", "(I)V"⟩ : MethodName) prog_44_method_1_code 2 none :: ws) ({ frames := 2, cells := 2, slots := 10, locals := 28 } : Room)) (fun a U => a = #[(.ref a1), (.int (2 : Int32))] ∧ Z.Warmed39 U.vm ∧ U.heap = h0) (fun _ _ _ _ _ => True) (fun _ U o U' => ∃ v L, o = .returned v ∧ Qini2 Z a1 h0 n0 v U'.heap L ∧ FrameEnd U o U' L ({ frames := 2, cells := 2, slots := 10, locals := 28 } : Room).cells ({ frames := 2, cells := 2, slots := 10, locals := 28 } : Room).slots) := by
  refine MetFree.of_bodySF (plainFor_of_name pn_4) hisR ?_
  intro p e s m args below meth c s₁ Bd hml0 hP hK
  obtain ⟨rfl, hZ, hh⟩ := hP
  have hx := Bd.exec
  have hby := Bd.bytes
  have hml : c.maxLocals = 2 := hml0
  have hown : s.vm.findClass "com/example/clearingd/clearingd/store/PositionSet" = some m.cls := findClass_of_methodNamed Bd.named
  have hnm := (name_of_methodNamed Bd.named Bd.method).1
  have hlk : meth.locks = false := BodyLoose.notSynchronized Bd
  have X0 : Stand p l e ({ frames := 2, cells := 2, slots := 10, locals := 28 } : Room) s m #[(.ref a1), (.int (2 : Int32))] below meth c s₁ [] 0 0 := Stand.of_body Bd
  have e0 : s₁.heap = h0 := by rw [← hh, Bd.state]; rfl
  have N0 := Fr.nil n0
  show OEnds p.tables e below (OGoal (Qini2 Z a1 h0 n0) s 2 10) (s₁.setTop (entryFrame m #[(.ref a1), (.int (2 : Int32))] 2))
  refine OEnds.st (fun t k => castTop (ef_ini2 m a1) k) ?_
  generalize hG : OGoal (Qini2 Z a1 h0 n0) s 2 10 = G
  have KK0 : Keep h0 h0 [a1] := Keep.refl h0 [a1]
  show OEnds p.tables e below G (s₁.setTop (mkF m 0 #[.val (.ref a1), .val (.int (2 : Int32))] []))
  refine OEnds.st (fun _ k => XS.aloadN X0.here hx rfl (hb hby d2_0) rfl rfl k) ?_
  show OEnds p.tables e below G (s₁.setTop (mkF m 1 #[.val (.ref a1), .val (.int (2 : Int32))] [(.ref a1)]))
  obtain ⟨T1001, X1001, e1001, st1001⟩ := initO X0 hx hZ hown (hw _ (List.mem_of_getElem? (i := 11) rfl)) (hw _ (List.mem_of_getElem? (i := 12) rfl)) (hw _ (List.mem_of_getElem? (i := 13) rfl)) e0 (g := (mkF m 1 #[.val (.ref a1), .val (.int (2 : Int32))] [(.ref a1)])) rfl (by rw [hml]; rfl) rfl (hb hby d2_1) (by decide) (W := 0) (by show 2 * 0 + _ ≤ _; exact Nat.le_of_eq rfl) (by decide)
  refine OEnds.st st1001 ?_
  clear st1001
  show OEnds p.tables e below G (T1001.setTop (mkF m 4 #[.val (.ref a1), .val (.int (2 : Int32))] []))
  refine OEnds.st (fun _ k => XS.aloadN X1001.here hx rfl (hb hby d2_4) rfl rfl k) ?_
  show OEnds p.tables e below G (T1001.setTop (mkF m 5 #[.val (.ref a1), .val (.int (2 : Int32))] [(.ref a1)]))
  refine OEnds.st (fun _ k => XS.iconst X1001.here hx rfl (hb hby d2_5) k) ?_
  show OEnds p.tables e below G (T1001.setTop (mkF m 6 #[.val (.ref a1), .val (.int (2 : Int32))] [(.int (1 : Int32)), (.ref a1)]))
  refine OEnds.st (fun _ k => XS.iloadN X1001.here hx rfl (hb hby d2_6) rfl k) ?_
  show OEnds p.tables e below G (T1001.setTop (mkF m 7 #[.val (.ref a1), .val (.int (2 : Int32))] [(.int (2 : Int32)), (.int (1 : Int32)), (.ref a1)]))
  obtain ⟨_, _, ⟨T1002, L1002, k1002c, n1002c⟩, -, X1002, ⟨Lc1002, hQ1002, l1002, y1002, z1002⟩, st1002⟩ := Jvm.LawKit.callS X1001 hx (y := (⟨"java/lang/Math", "max", "(II)I"⟩ : MethodName)) hown (mvT hZ (hw _ (List.mem_of_getElem? (i := 14) rfl))) (mvT hZ (hw _ (List.mem_of_getElem? (i := 15) rfl))) (mvT hZ (hw _ (List.mem_of_getElem? (i := 16) rfl))) (mvT hZ (hw _ (List.mem_of_getElem? (i := 17) rfl))) (by decide) (backOf (W := 1) (rmmx2 l Z a0 hw []  h0 n0 Z0 ) hZ (hw _ (List.mem_of_getElem? (i := 17) rfl)) (hw _ (List.mem_of_getElem? (i := 16) rfl)) (by decide) (by decide)) (g := (mkF m 7 #[.val (.ref a1), .val (.int (2 : Int32))] [(.int (2 : Int32)), (.int (1 : Int32)), (.ref a1)])) rfl (by rw [hml]; rfl) (argsL := [(.int (1 : Int32)), (.int (2 : Int32))]) (rest := [(.ref a1)]) (lenOf pd_1 rfl) rfl (by show 2 * 0 + _ ≤ _; exact Nat.le_of_eq rfl) (hb hby d2_7) (fun _ _ => ⟨rfl, e1001, (by decide : 0 + 0 ≤ _), (by decide : 0 + 0 ≤ _)⟩)
  dsimp only [Pt.U, Pt.locs, Pt.cells, Pt.slots] at X1002 l1002 y1002 z1002 st1002 hQ1002
  subst l1002 y1002 z1002
  obtain ⟨rfl, N1002q, e1002⟩ := hQ1002
  have N1002 := Fr.app N0 N1002q
  refine OEnds.st st1002 ?_
  clear st1002
  show OEnds p.tables e below G (T1002.setTop (mkF m 10 #[.val (.ref a1), .val (.int (2 : Int32))] [(.int (2 : Int32)), (.ref a1)]))
  obtain ⟨T1003, h1003, X1003, e1003, W1003, st1003⟩ := putF X1002 hx hZ hown (host := "") (Or.inl (hw _ (List.mem_of_getElem? (i := 18) rfl))) Via.refl e1002 Fcapacity E (Or.inr ⟨(hw _ (List.mem_of_getElem? (i := 19) rfl)), rfl, hnm⟩) (hw _ (List.mem_of_getElem? (i := 6) rfl)) (ty := .int) (by decide) rfl rfl (g := (mkF m 10 #[.val (.ref a1), .val (.int (2 : Int32))] [(.int (2 : Int32)), (.ref a1)])) rfl rfl (hb hby d2_10)
  refine OEnds.st st1003 ?_
  clear st1003
  have f1004 : Fld Z h1003 a1 "com/example/clearingd/clearingd/store/PositionSet" "capacity" "I" (.int (2 : Int32)) := Fcapacity.same W1003
  have f1005 : Exa Z h1003 a1 "com/example/clearingd/clearingd/store/PositionSet" := E.wr W1003
  have f1006 : Fld Z h1003 a1 "com/example/clearingd/clearingd/store/PositionSet" "slots" "[J" .null := Fslots.other W1003 (Or.inr (slot_ne (Or.inr (hw _ (List.mem_of_getElem? (i := 31) rfl))) (Or.inr (hw _ (List.mem_of_getElem? (i := 19) rfl))) (by decide) (t := (.array .long)) (t' := .int) (by decide) (by decide)))
  have f1007 : Fld Z h1003 a1 "com/example/clearingd/clearingd/store/PositionSet" "taken" "[I" .null := Ftaken.other W1003 (Or.inr (slot_ne (Or.inr (hw _ (List.mem_of_getElem? (i := 34) rfl))) (Or.inr (hw _ (List.mem_of_getElem? (i := 19) rfl))) (by decide) (t := (.array .int)) (t' := .int) (by decide) (by decide)))
  have f1009 : Fld Z h1003 a1 "com/example/clearingd/clearingd/store/PositionSet" "size" "I" (.int (0 : Int32)) := Fsize.other W1003 (Or.inr (slot_ne (Or.inl (hw _ (List.mem_of_getElem? (i := 46) rfl))) (Or.inr (hw _ (List.mem_of_getElem? (i := 19) rfl))) (by decide) (t := .int) (t' := .int) (by decide) (by decide)))
  have f1010 : Fld Z h1003 a1 "com/example/clearingd/clearingd/store/PositionSet" "overflowed" "Z" (.int (0 : Int32)) := Foverflowed.other W1003 (Or.inr (slot_ne (Or.inl (hw _ (List.mem_of_getElem? (i := 48) rfl))) (Or.inr (hw _ (List.mem_of_getElem? (i := 19) rfl))) (by decide) (t := .boolean) (t' := .int) (by decide) (by decide)))
  have N1003 := Fr.snoc X1003 N1002 g_a1
  have KK1003 : Keep h0 h1003 [a1] := KK0.wr W1003 (Or.inl (List.mem_of_getElem? (i := 0) rfl))
  have Z1003 := Nat.le_trans Z0 (Keep.of_wr W1003).1
  show OEnds p.tables e below G (T1003.setTop (mkF m 13 #[.val (.ref a1), .val (.int (2 : Int32))] []))
  refine OEnds.st (fun _ k => XS.aloadN X1003.here hx rfl (hb hby d2_13) rfl rfl k) ?_
  show OEnds p.tables e below G (T1003.setTop (mkF m 14 #[.val (.ref a1), .val (.int (2 : Int32))] [(.ref a1)]))
  refine OEnds.st (fun _ k => XS.aloadN X1003.here hx rfl (hb hby d2_14) rfl rfl k) ?_
  show OEnds p.tables e below G (T1003.setTop (mkF m 15 #[.val (.ref a1), .val (.int (2 : Int32))] [(.ref a1), (.ref a1)]))
  obtain ⟨T1011, X1011, e1011, st1011⟩ := getF X1003 hx hZ hown (host := "") (Or.inl (hw _ (List.mem_of_getElem? (i := 18) rfl))) Via.refl e1003 f1004 (g := (mkF m 15 #[.val (.ref a1), .val (.int (2 : Int32))] [(.ref a1), (.ref a1)])) rfl rfl (hb hby d2_15)
  refine OEnds.st st1011 ?_
  clear st1011
  show OEnds p.tables e below G (T1011.setTop (mkF m 18 #[.val (.ref a1), .val (.int (2 : Int32))] [(.int (2 : Int32)), (.ref a1)]))
  obtain ⟨_, _, ⟨T1012, L1012, k1012c, n1012c⟩, -, X1012, ⟨Lc1012, hQ1012, l1012, y1012, z1012⟩, st1012⟩ := Jvm.LawKit.callS X1011 hx (y := (⟨"java/lang/Integer", "highestOneBit", "(I)I"⟩ : MethodName)) hown (mvT hZ (hw _ (List.mem_of_getElem? (i := 20) rfl))) (mvT hZ (hw _ (List.mem_of_getElem? (i := 21) rfl))) (mvT hZ (hw _ (List.mem_of_getElem? (i := 22) rfl))) (mvT hZ (hw _ (List.mem_of_getElem? (i := 23) rfl))) (by decide) (backOf (W := 1) (rmho2 l Z a0 hw []  h1003 n0 Z1003 ) hZ (hw _ (List.mem_of_getElem? (i := 23) rfl)) (hw _ (List.mem_of_getElem? (i := 22) rfl)) (by decide) (by decide)) (g := (mkF m 18 #[.val (.ref a1), .val (.int (2 : Int32))] [(.int (2 : Int32)), (.ref a1)])) rfl (by rw [hml]; rfl) (argsL := [(.int (2 : Int32))]) (rest := [(.ref a1)]) (lenOf pd_0 rfl) rfl (by show 2 * 0 + _ ≤ _; exact Nat.le_of_eq rfl) (hb hby d2_18) (fun _ _ => ⟨rfl, e1011, (by decide : 0 + 0 + 0 ≤ _), (by decide : 0 + 0 + 0 ≤ _)⟩)
  dsimp only [Pt.U, Pt.locs, Pt.cells, Pt.slots] at X1012 l1012 y1012 z1012 st1012 hQ1012
  subst l1012 y1012 z1012
  obtain ⟨rfl, N1012q, e1012⟩ := hQ1012
  have N1012 := Fr.app N1003 N1012q
  refine OEnds.st st1012 ?_
  clear st1012
  show OEnds p.tables e below G (T1012.setTop (mkF m 21 #[.val (.ref a1), .val (.int (2 : Int32))] [(.int (2 : Int32)), (.ref a1)]))
  refine OEnds.st (fun _ k => XS.iconst X1012.here hx rfl (hb hby d2_21) k) ?_
  show OEnds p.tables e below G (T1012.setTop (mkF m 22 #[.val (.ref a1), .val (.int (2 : Int32))] [(.int (2 : Int32)), (.int (2 : Int32)), (.ref a1)]))
  refine OEnds.st (fun _ k => XS.ishl X1012.here hx rfl (hb hby d2_22) rfl k) ?_
  show OEnds p.tables e below G (T1012.setTop (mkF m 23 #[.val (.ref a1), .val (.int (2 : Int32))] [(.int ((2 : Int32) <<< ((2 : Int32) &&& 31))), (.ref a1)]))
  rw [show ((2 : Int32) <<< ((2 : Int32) &&& 31)) = (8 : Int32) from by decide]
  show OEnds p.tables e below G (T1012.setTop (mkF m 23 #[.val (.ref a1), .val (.int (2 : Int32))] [(.int (8 : Int32)), (.ref a1)]))
  obtain ⟨T1013, h1013, k1013, X1013, e1013, E1013, A1013, st1013⟩ := newP X1012 hx hZ (hw _ (List.mem_of_getElem? (i := 29) rfl)) e1012 (g := (mkF m 23 #[.val (.ref a1), .val (.int (2 : Int32))] [(.int (8 : Int32)), (.ref a1)])) rfl (hb hby d2_23) rfl (by decide) (cap := 8) (by decide) (by decide) (by decide) (by decide)
  obtain ⟨b1013, g1013⟩ : ∃ z, z = h1003.size := ⟨_, rfl⟩
  rw [← g1013] at A1013 st1013
  refine OEnds.st st1013 ?_
  clear st1013
  have ne1014 : a1 ≠ b1013 := Nat.ne_of_lt (Nat.lt_of_lt_of_le (f1005).lt (Nat.le_of_eq g1013.symm))
  have ge_b1013 : n0 ≤ b1013 := Nat.le_trans Z1003 (Nat.le_of_eq g1013.symm)
  have sz_b1013 : h0.size ≤ b1013 := Nat.le_trans KK1003.1 (Nat.le_of_eq g1013.symm)
  have f1015 : Exa Z h1013 a1 "com/example/clearingd/clearingd/store/PositionSet" := f1005.ext E1013
  have f1016 : Fld Z h1013 a1 "com/example/clearingd/clearingd/store/PositionSet" "slots" "[J" .null := f1006.ext E1013
  have f1017 : Fld Z h1013 a1 "com/example/clearingd/clearingd/store/PositionSet" "taken" "[I" .null := f1007.ext E1013
  have f1018 : Fld Z h1013 a1 "com/example/clearingd/clearingd/store/PositionSet" "size" "I" (.int (0 : Int32)) := f1009.ext E1013
  have f1019 : Fld Z h1013 a1 "com/example/clearingd/clearingd/store/PositionSet" "overflowed" "Z" (.int (0 : Int32)) := f1010.ext E1013
  have f1020 : Fld Z h1013 a1 "com/example/clearingd/clearingd/store/PositionSet" "capacity" "I" (.int (2 : Int32)) := f1004.ext E1013
  have KK1013 : Keep h0 h1013 [a1] := KK1003.ext E1013
  have Z1013 := Nat.le_trans Z1003 E1013.1
  have f1021 : Arv Z h1013 b1013 k1013 .long (8 : Int32) [(.long (0 : Int64)), (.long (0 : Int64)), (.long (0 : Int64)), (.long (0 : Int64)), (.long (0 : Int64)), (.long (0 : Int64)), (.long (0 : Int64)), (.long (0 : Int64))] (.long (0 : Int64)) := (Arv.new A1013 (by decide)).pad (pad_rep [] (.long (0 : Int64)) 8)
  show OEnds p.tables e below G (T1013.setTop (mkF m 25 #[.val (.ref a1), .val (.int (2 : Int32))] [(.ref b1013), (.ref a1)]))
  obtain ⟨T1022, h1022, X1022, e1022, W1022, st1022⟩ := putF X1013 hx hZ hown (host := "") (Or.inl (hw _ (List.mem_of_getElem? (i := 30) rfl))) Via.refl e1013 f1016 f1015 (Or.inr ⟨(hw _ (List.mem_of_getElem? (i := 31) rfl)), rfl, hnm⟩) (hw _ (List.mem_of_getElem? (i := 6) rfl)) (ty := (.array .long)) (by decide) rfl rfl (g := (mkF m 25 #[.val (.ref a1), .val (.int (2 : Int32))] [(.ref b1013), (.ref a1)])) rfl rfl (hb hby d2_25)
  refine OEnds.st st1022 ?_
  clear st1022
  have f1023 : Fld Z h1022 a1 "com/example/clearingd/clearingd/store/PositionSet" "slots" "[J" (.ref b1013) := f1016.same W1022
  have f1024 : Exa Z h1022 a1 "com/example/clearingd/clearingd/store/PositionSet" := f1015.wr W1022
  have f1026 : Fld Z h1022 a1 "com/example/clearingd/clearingd/store/PositionSet" "taken" "[I" .null := f1017.other W1022 (Or.inr (slot_ne (Or.inr (hw _ (List.mem_of_getElem? (i := 34) rfl))) (Or.inr (hw _ (List.mem_of_getElem? (i := 31) rfl))) (by decide) (t := (.array .int)) (t' := (.array .long)) (by decide) (by decide)))
  have f1027 : Fld Z h1022 a1 "com/example/clearingd/clearingd/store/PositionSet" "size" "I" (.int (0 : Int32)) := f1018.other W1022 (Or.inr (slot_ne (Or.inl (hw _ (List.mem_of_getElem? (i := 46) rfl))) (Or.inr (hw _ (List.mem_of_getElem? (i := 31) rfl))) (by decide) (t := .int) (t' := (.array .long)) (by decide) (by decide)))
  have f1028 : Fld Z h1022 a1 "com/example/clearingd/clearingd/store/PositionSet" "overflowed" "Z" (.int (0 : Int32)) := f1019.other W1022 (Or.inr (slot_ne (Or.inl (hw _ (List.mem_of_getElem? (i := 48) rfl))) (Or.inr (hw _ (List.mem_of_getElem? (i := 31) rfl))) (by decide) (t := .boolean) (t' := (.array .long)) (by decide) (by decide)))
  have f1029 : Fld Z h1022 a1 "com/example/clearingd/clearingd/store/PositionSet" "capacity" "I" (.int (2 : Int32)) := f1020.other W1022 (Or.inr (slot_ne (Or.inr (hw _ (List.mem_of_getElem? (i := 19) rfl))) (Or.inr (hw _ (List.mem_of_getElem? (i := 31) rfl))) (by decide) (t := .int) (t' := (.array .long)) (by decide) (by decide)))
  have f1030 : Arv Z h1022 b1013 k1013 .long (8 : Int32) [(.long (0 : Int64)), (.long (0 : Int64)), (.long (0 : Int64)), (.long (0 : Int64)), (.long (0 : Int64)), (.long (0 : Int64)), (.long (0 : Int64)), (.long (0 : Int64))] (.long (0 : Int64)) := f1021.other W1022 (Ne.symm ne1014)
  have N1022 := Fr.snoc X1022 N1012 g_a1
  have KK1022 : Keep h0 h1022 [a1] := KK1013.wr W1022 (Or.inl (List.mem_of_getElem? (i := 0) rfl))
  have Z1022 := Nat.le_trans Z1013 (Keep.of_wr W1022).1
  show OEnds p.tables e below G (T1022.setTop (mkF m 28 #[.val (.ref a1), .val (.int (2 : Int32))] []))
  refine OEnds.st (fun _ k => XS.aloadN X1022.here hx rfl (hb hby d2_28) rfl rfl k) ?_
  show OEnds p.tables e below G (T1022.setTop (mkF m 29 #[.val (.ref a1), .val (.int (2 : Int32))] [(.ref a1)]))
  refine OEnds.st (fun _ k => XS.aloadN X1022.here hx rfl (hb hby d2_29) rfl rfl k) ?_
  show OEnds p.tables e below G (T1022.setTop (mkF m 30 #[.val (.ref a1), .val (.int (2 : Int32))] [(.ref a1), (.ref a1)]))
  obtain ⟨T1031, X1031, e1031, st1031⟩ := getF X1022 hx hZ hown (host := "") (Or.inl (hw _ (List.mem_of_getElem? (i := 18) rfl))) Via.refl e1022 f1029 (g := (mkF m 30 #[.val (.ref a1), .val (.int (2 : Int32))] [(.ref a1), (.ref a1)])) rfl rfl (hb hby d2_30)
  refine OEnds.st st1031 ?_
  clear st1031
  show OEnds p.tables e below G (T1031.setTop (mkF m 33 #[.val (.ref a1), .val (.int (2 : Int32))] [(.int (2 : Int32)), (.ref a1)]))
  obtain ⟨T1032, h1032, k1032, X1032, e1032, E1032, A1032, st1032⟩ := newP X1031 hx hZ (hw _ (List.mem_of_getElem? (i := 32) rfl)) e1031 (g := (mkF m 33 #[.val (.ref a1), .val (.int (2 : Int32))] [(.int (2 : Int32)), (.ref a1)])) rfl (hb hby d2_33) rfl (by decide) (cap := 2) (by decide) (by decide) (by decide) (by decide)
  obtain ⟨b1032, g1032⟩ : ∃ z, z = h1022.size := ⟨_, rfl⟩
  rw [← g1032] at A1032 st1032
  refine OEnds.st st1032 ?_
  clear st1032
  have ne1033 : a1 ≠ b1032 := Nat.ne_of_lt (Nat.lt_of_lt_of_le (f1024).lt (Nat.le_of_eq g1032.symm))
  have ne1034 : b1013 ≠ b1032 := Nat.ne_of_lt (Nat.lt_of_lt_of_le (f1030).lt (Nat.le_of_eq g1032.symm))
  have ge_b1032 : n0 ≤ b1032 := Nat.le_trans Z1022 (Nat.le_of_eq g1032.symm)
  have sz_b1032 : h0.size ≤ b1032 := Nat.le_trans KK1022.1 (Nat.le_of_eq g1032.symm)
  have f1035 : Exa Z h1032 a1 "com/example/clearingd/clearingd/store/PositionSet" := f1024.ext E1032
  have f1036 : Fld Z h1032 a1 "com/example/clearingd/clearingd/store/PositionSet" "taken" "[I" .null := f1026.ext E1032
  have f1037 : Fld Z h1032 a1 "com/example/clearingd/clearingd/store/PositionSet" "size" "I" (.int (0 : Int32)) := f1027.ext E1032
  have f1038 : Fld Z h1032 a1 "com/example/clearingd/clearingd/store/PositionSet" "overflowed" "Z" (.int (0 : Int32)) := f1028.ext E1032
  have f1039 : Fld Z h1032 a1 "com/example/clearingd/clearingd/store/PositionSet" "capacity" "I" (.int (2 : Int32)) := f1029.ext E1032
  have f1040 : Arv Z h1032 b1013 k1013 .long (8 : Int32) [(.long (0 : Int64)), (.long (0 : Int64)), (.long (0 : Int64)), (.long (0 : Int64)), (.long (0 : Int64)), (.long (0 : Int64)), (.long (0 : Int64)), (.long (0 : Int64))] (.long (0 : Int64)) := f1030.ext E1032
  have f1041 : Fld Z h1032 a1 "com/example/clearingd/clearingd/store/PositionSet" "slots" "[J" (.ref b1013) := f1023.ext E1032
  have KK1032 : Keep h0 h1032 [a1] := KK1022.ext E1032
  have Z1032 := Nat.le_trans Z1022 E1032.1
  have f1042 : Arv Z h1032 b1032 k1032 .int (2 : Int32) [(.int (0 : Int32)), (.int (0 : Int32))] (.int (0 : Int32)) := (Arv.new A1032 (by decide)).pad (pad_rep [] (.int (0 : Int32)) 2)
  show OEnds p.tables e below G (T1032.setTop (mkF m 35 #[.val (.ref a1), .val (.int (2 : Int32))] [(.ref b1032), (.ref a1)]))
  obtain ⟨T1043, h1043, X1043, e1043, W1043, st1043⟩ := putF X1032 hx hZ hown (host := "") (Or.inl (hw _ (List.mem_of_getElem? (i := 33) rfl))) Via.refl e1032 f1036 f1035 (Or.inr ⟨(hw _ (List.mem_of_getElem? (i := 34) rfl)), rfl, hnm⟩) (hw _ (List.mem_of_getElem? (i := 6) rfl)) (ty := (.array .int)) (by decide) rfl rfl (g := (mkF m 35 #[.val (.ref a1), .val (.int (2 : Int32))] [(.ref b1032), (.ref a1)])) rfl rfl (hb hby d2_35)
  refine OEnds.st st1043 ?_
  clear st1043
  have f1044 : Fld Z h1043 a1 "com/example/clearingd/clearingd/store/PositionSet" "taken" "[I" (.ref b1032) := f1036.same W1043
  have f1045 : Exa Z h1043 a1 "com/example/clearingd/clearingd/store/PositionSet" := f1035.wr W1043
  have f1047 : Fld Z h1043 a1 "com/example/clearingd/clearingd/store/PositionSet" "size" "I" (.int (0 : Int32)) := f1037.other W1043 (Or.inr (slot_ne (Or.inl (hw _ (List.mem_of_getElem? (i := 46) rfl))) (Or.inr (hw _ (List.mem_of_getElem? (i := 34) rfl))) (by decide) (t := .int) (t' := (.array .int)) (by decide) (by decide)))
  have f1048 : Fld Z h1043 a1 "com/example/clearingd/clearingd/store/PositionSet" "overflowed" "Z" (.int (0 : Int32)) := f1038.other W1043 (Or.inr (slot_ne (Or.inl (hw _ (List.mem_of_getElem? (i := 48) rfl))) (Or.inr (hw _ (List.mem_of_getElem? (i := 34) rfl))) (by decide) (t := .boolean) (t' := (.array .int)) (by decide) (by decide)))
  have f1049 : Fld Z h1043 a1 "com/example/clearingd/clearingd/store/PositionSet" "capacity" "I" (.int (2 : Int32)) := f1039.other W1043 (Or.inr (slot_ne (Or.inr (hw _ (List.mem_of_getElem? (i := 19) rfl))) (Or.inr (hw _ (List.mem_of_getElem? (i := 34) rfl))) (by decide) (t := .int) (t' := (.array .int)) (by decide) (by decide)))
  have f1050 : Arv Z h1043 b1013 k1013 .long (8 : Int32) [(.long (0 : Int64)), (.long (0 : Int64)), (.long (0 : Int64)), (.long (0 : Int64)), (.long (0 : Int64)), (.long (0 : Int64)), (.long (0 : Int64)), (.long (0 : Int64))] (.long (0 : Int64)) := f1040.other W1043 (Ne.symm ne1014)
  have f1051 : Fld Z h1043 a1 "com/example/clearingd/clearingd/store/PositionSet" "slots" "[J" (.ref b1013) := f1041.other W1043 (Or.inr (slot_ne (Or.inr (hw _ (List.mem_of_getElem? (i := 31) rfl))) (Or.inr (hw _ (List.mem_of_getElem? (i := 34) rfl))) (by decide) (t := (.array .long)) (t' := (.array .int)) (by decide) (by decide)))
  have f1052 : Arv Z h1043 b1032 k1032 .int (2 : Int32) [(.int (0 : Int32)), (.int (0 : Int32))] (.int (0 : Int32)) := f1042.other W1043 (Ne.symm ne1033)
  have N1043 := Fr.snoc X1043 N1022 g_a1
  have KK1043 : Keep h0 h1043 [a1] := KK1032.wr W1043 (Or.inl (List.mem_of_getElem? (i := 0) rfl))
  have Z1043 := Nat.le_trans Z1032 (Keep.of_wr W1043).1
  show OEnds p.tables e below G (T1043.setTop (mkF m 38 #[.val (.ref a1), .val (.int (2 : Int32))] []))
  refine OEnds.st (fun _ k => XS.aloadN X1043.here hx rfl (hb hby d2_38) rfl rfl k) ?_
  show OEnds p.tables e below G (T1043.setTop (mkF m 39 #[.val (.ref a1), .val (.int (2 : Int32))] [(.ref a1)]))
  obtain ⟨T1053, X1053, e1053, st1053⟩ := getF X1043 hx hZ hown (host := "") (Or.inl (hw _ (List.mem_of_getElem? (i := 30) rfl))) Via.refl e1043 f1051 (g := (mkF m 39 #[.val (.ref a1), .val (.int (2 : Int32))] [(.ref a1)])) rfl rfl (hb hby d2_39)
  refine OEnds.st st1053 ?_
  clear st1053
  show OEnds p.tables e below G (T1053.setTop (mkF m 42 #[.val (.ref a1), .val (.int (2 : Int32))] [(.ref b1013)]))
  refine OEnds.st (X1053.ldc2Long hx hown (mvT hZ (hw _ (List.mem_of_getElem? (i := 35) rfl))) (g := (mkF m 42 #[.val (.ref a1), .val (.int (2 : Int32))] [(.ref b1013)])) rfl (hb hby d2_42)) ?_
  have fo1054 : Arv Z h1043 b1013 k1013 .long (8 : Int32) (own_T 8 own_O) (.long (0 : Int64)) := f1050
  show OEnds p.tables e below G (T1053.setTop (mkF m 45 #[.val (.ref a1), .val (.int (2 : Int32))] [(.long (-1 : Int64)), (.ref b1013)]))
  obtain ⟨_, _, ⟨T1055, L1055, k1055c, n1055c⟩, -, X1055, ⟨Lc1055, hQ1055, l1055, y1055, z1055⟩, st1055⟩ := Jvm.LawKit.callS X1053 hx (y := (⟨"java/util/Arrays", "fill", "([JJ)V"⟩ : MethodName)) hown (mvT hZ (hw _ (List.mem_of_getElem? (i := 36) rfl))) (mvT hZ (hw _ (List.mem_of_getElem? (i := 37) rfl))) (mvT hZ (hw _ (List.mem_of_getElem? (i := 38) rfl))) (mvT hZ (hw _ (List.mem_of_getElem? (i := 39) rfl))) (by decide) (backOf (W := 0) (rm7 l Z a0 hw [] b1013 k1013 (8 : Int32) 8 own_O h1043 n0 Z1043 fo1054 ge_b1013 rfl (by decide)) hZ (hw _ (List.mem_of_getElem? (i := 39) rfl)) (hw _ (List.mem_of_getElem? (i := 38) rfl)) (by decide) (by decide)) (g := (mkF m 45 #[.val (.ref a1), .val (.int (2 : Int32))] [(.long (-1 : Int64)), (.ref b1013)])) rfl (by rw [hml]; rfl) (argsL := [(.ref b1013), (.long (-1 : Int64))]) (rest := []) (lenOf pd_2 rfl) rfl (by show 2 * 0 + _ ≤ _; exact Nat.le_of_eq rfl) (hb hby d2_45) (fun _ _ => ⟨rfl, e1053, (by decide : 0 + 0 + 0 + 1 + 1 + 0 ≤ _), (by decide : 0 + 0 + 0 + 8 + 2 + 0 ≤ _)⟩)
  dsimp only [Pt.U, Pt.locs, Pt.cells, Pt.slots] at X1055 l1055 y1055 z1055 st1055 hQ1055
  subst l1055 y1055 z1055
  obtain ⟨rfl, N1055q, p1056, p1057⟩ := hQ1055
  have N1055 := Fr.app N1043 N1055q
  refine OEnds.st st1055 ?_
  clear st1055
  have f1058 : Exa Z T1055.heap a1 "com/example/clearingd/clearingd/store/PositionSet" := f1045.keep p1056
  have f1059 : Fld Z T1055.heap a1 "com/example/clearingd/clearingd/store/PositionSet" "size" "I" (.int (0 : Int32)) := f1047.keep p1056 (by simp only [List.mem_cons, List.not_mem_nil, or_false, not_or]; exact ne1014)
  have f1060 : Fld Z T1055.heap a1 "com/example/clearingd/clearingd/store/PositionSet" "overflowed" "Z" (.int (0 : Int32)) := f1048.keep p1056 (by simp only [List.mem_cons, List.not_mem_nil, or_false, not_or]; exact ne1014)
  have f1061 : Fld Z T1055.heap a1 "com/example/clearingd/clearingd/store/PositionSet" "capacity" "I" (.int (2 : Int32)) := f1049.keep p1056 (by simp only [List.mem_cons, List.not_mem_nil, or_false, not_or]; exact ne1014)
  have f1063 : Fld Z T1055.heap a1 "com/example/clearingd/clearingd/store/PositionSet" "slots" "[J" (.ref b1013) := f1051.keep p1056 (by simp only [List.mem_cons, List.not_mem_nil, or_false, not_or]; exact ne1014)
  have f1064 : Arv Z T1055.heap b1032 k1032 .int (2 : Int32) [(.int (0 : Int32)), (.int (0 : Int32))] (.int (0 : Int32)) := f1052.keep p1056 (by simp only [List.mem_cons, List.not_mem_nil, or_false, not_or]; exact (Ne.symm ne1034))
  have f1065 : Fld Z T1055.heap a1 "com/example/clearingd/clearingd/store/PositionSet" "taken" "[I" (.ref b1032) := f1044.keep p1056 (by simp only [List.mem_cons, List.not_mem_nil, or_false, not_or]; exact ne1014)
  have KK1055 : Keep h0 T1055.heap [a1] := KK1043.trans p1056 (fun x hx => by cases List.mem_singleton.mp hx; exact Or.inr sz_b1013)
  have Z1055 := Nat.le_trans Z1043 p1056.1
  show OEnds p.tables e below G (T1055.setTop (mkF m 48 #[.val (.ref a1), .val (.int (2 : Int32))] []))
  rw [← hG]
  refine OEnds.retV X1055 hx hlk Bd.returns (hb hby d2_48) (by decide) (by decide) ?_
  show _
  exact ⟨b1013, b1032, k1013, k1032, rfl, N1055, KK1055, sz_b1013, sz_b1032, ne1034, f1058, f1063, f1065, f1061, f1059, f1060, p1057, f1064⟩
theorem ef_ini3 (m : MethodId) (a1 : Addr) : entryFrame m #[(.ref a1), (.int (3 : Int32))] 2 = mkF m 0 #[.val (.ref a1), .val (.int (3 : Int32))] [] := by first | (simp [entryFrame, mkF, argsToLocals, Value.category]; done) | rfl
def Qini3 (Z : State) (a1 : Addr) (h0 : Heap) (n0 : Nat) (v : Option Value) (h : Heap) (L : List Loc) : Prop := ∃ (sa : Addr) (ta : Addr) (ks : ClassId) (kt : ClassId), v = none ∧ Fr n0 L ∧ Keep h0 h [a1] ∧ h0.size ≤ sa ∧ h0.size ≤ ta ∧ sa ≠ ta ∧ Exa Z h a1 "com/example/clearingd/clearingd/store/PositionSet" ∧ Fld Z h a1 "com/example/clearingd/clearingd/store/PositionSet" "slots" "[J" (.ref sa) ∧ Fld Z h a1 "com/example/clearingd/clearingd/store/PositionSet" "taken" "[I" (.ref ta) ∧ Fld Z h a1 "com/example/clearingd/clearingd/store/PositionSet" "capacity" "I" (.int (3 : Int32)) ∧ Fld Z h a1 "com/example/clearingd/clearingd/store/PositionSet" "size" "I" (.int (0 : Int32)) ∧ Fld Z h a1 "com/example/clearingd/clearingd/store/PositionSet" "overflowed" "Z" (.int (0 : Int32)) ∧ Arv Z h sa ks .long (8 : Int32) (own_T 8 own_E) (.long (0 : Int64)) ∧ Arv Z h ta kt .int (3 : Int32) (own_G 3 own_Z) (.int (0 : Int32))
set_option maxRecDepth 65536 in
set_option maxHeartbeats 40000000 in
theorem rmini3 (l : Launch) (Z : State) (a0 : Array Value) (hw : ∀ d ∈ tables_1, d.before a0 Z = true) (ws : List Jvm.Cond) (a1 : Addr) (h0 : Heap) (n0 : Nat) (Z0 : n0 ≤ h0.size) (E : Exa Z h0 a1 "com/example/clearingd/clearingd/store/PositionSet") (Fslots : Fld Z h0 a1 "com/example/clearingd/clearingd/store/PositionSet" "slots" "[J" .null) (Ftaken : Fld Z h0 a1 "com/example/clearingd/clearingd/store/PositionSet" "taken" "[I" .null) (Fcapacity : Fld Z h0 a1 "com/example/clearingd/clearingd/store/PositionSet" "capacity" "I" (.int (0 : Int32))) (Fsize : Fld Z h0 a1 "com/example/clearingd/clearingd/store/PositionSet" "size" "I" (.int (0 : Int32))) (Foverflowed : Fld Z h0 a1 "com/example/clearingd/clearingd/store/PositionSet" "overflowed" "Z" (.int (0 : Int32))) (g_a1 : n0 ≤ a1) :
    MetFree l (⟨"com/example/clearingd/clearingd/store/PositionSet", "<init>", "(I)V"⟩ : MethodName) (head1 (Jvm.Cond.code (⟨"com/example/clearingd/clearingd/store/PositionSet", "<init>", "(I)V"⟩ : MethodName) prog_44_method_1_code 2 none :: ws) ({ frames := 2, cells := 2, slots := 11, locals := 28 } : Room)) (fun a U => a = #[(.ref a1), (.int (3 : Int32))] ∧ Z.Warmed39 U.vm ∧ U.heap = h0) (fun _ _ _ _ _ => True) (fun _ U o U' => ∃ v L, o = .returned v ∧ Qini3 Z a1 h0 n0 v U'.heap L ∧ FrameEnd U o U' L ({ frames := 2, cells := 2, slots := 11, locals := 28 } : Room).cells ({ frames := 2, cells := 2, slots := 11, locals := 28 } : Room).slots) := by
  refine MetFree.of_bodySF (plainFor_of_name pn_4) hisR ?_
  intro p e s m args below meth c s₁ Bd hml0 hP hK
  obtain ⟨rfl, hZ, hh⟩ := hP
  have hx := Bd.exec
  have hby := Bd.bytes
  have hml : c.maxLocals = 2 := hml0
  have hown : s.vm.findClass "com/example/clearingd/clearingd/store/PositionSet" = some m.cls := findClass_of_methodNamed Bd.named
  have hnm := (name_of_methodNamed Bd.named Bd.method).1
  have hlk : meth.locks = false := BodyLoose.notSynchronized Bd
  have X0 : Stand p l e ({ frames := 2, cells := 2, slots := 11, locals := 28 } : Room) s m #[(.ref a1), (.int (3 : Int32))] below meth c s₁ [] 0 0 := Stand.of_body Bd
  have e0 : s₁.heap = h0 := by rw [← hh, Bd.state]; rfl
  have N0 := Fr.nil n0
  show OEnds p.tables e below (OGoal (Qini3 Z a1 h0 n0) s 2 11) (s₁.setTop (entryFrame m #[(.ref a1), (.int (3 : Int32))] 2))
  refine OEnds.st (fun t k => castTop (ef_ini3 m a1) k) ?_
  generalize hG : OGoal (Qini3 Z a1 h0 n0) s 2 11 = G
  have KK0 : Keep h0 h0 [a1] := Keep.refl h0 [a1]
  show OEnds p.tables e below G (s₁.setTop (mkF m 0 #[.val (.ref a1), .val (.int (3 : Int32))] []))
  refine OEnds.st (fun _ k => XS.aloadN X0.here hx rfl (hb hby d2_0) rfl rfl k) ?_
  show OEnds p.tables e below G (s₁.setTop (mkF m 1 #[.val (.ref a1), .val (.int (3 : Int32))] [(.ref a1)]))
  obtain ⟨T1001, X1001, e1001, st1001⟩ := initO X0 hx hZ hown (hw _ (List.mem_of_getElem? (i := 11) rfl)) (hw _ (List.mem_of_getElem? (i := 12) rfl)) (hw _ (List.mem_of_getElem? (i := 13) rfl)) e0 (g := (mkF m 1 #[.val (.ref a1), .val (.int (3 : Int32))] [(.ref a1)])) rfl (by rw [hml]; rfl) rfl (hb hby d2_1) (by decide) (W := 0) (by show 2 * 0 + _ ≤ _; exact Nat.le_of_eq rfl) (by decide)
  refine OEnds.st st1001 ?_
  clear st1001
  show OEnds p.tables e below G (T1001.setTop (mkF m 4 #[.val (.ref a1), .val (.int (3 : Int32))] []))
  refine OEnds.st (fun _ k => XS.aloadN X1001.here hx rfl (hb hby d2_4) rfl rfl k) ?_
  show OEnds p.tables e below G (T1001.setTop (mkF m 5 #[.val (.ref a1), .val (.int (3 : Int32))] [(.ref a1)]))
  refine OEnds.st (fun _ k => XS.iconst X1001.here hx rfl (hb hby d2_5) k) ?_
  show OEnds p.tables e below G (T1001.setTop (mkF m 6 #[.val (.ref a1), .val (.int (3 : Int32))] [(.int (1 : Int32)), (.ref a1)]))
  refine OEnds.st (fun _ k => XS.iloadN X1001.here hx rfl (hb hby d2_6) rfl k) ?_
  show OEnds p.tables e below G (T1001.setTop (mkF m 7 #[.val (.ref a1), .val (.int (3 : Int32))] [(.int (3 : Int32)), (.int (1 : Int32)), (.ref a1)]))
  obtain ⟨_, _, ⟨T1002, L1002, k1002c, n1002c⟩, -, X1002, ⟨Lc1002, hQ1002, l1002, y1002, z1002⟩, st1002⟩ := Jvm.LawKit.callS X1001 hx (y := (⟨"java/lang/Math", "max", "(II)I"⟩ : MethodName)) hown (mvT hZ (hw _ (List.mem_of_getElem? (i := 14) rfl))) (mvT hZ (hw _ (List.mem_of_getElem? (i := 15) rfl))) (mvT hZ (hw _ (List.mem_of_getElem? (i := 16) rfl))) (mvT hZ (hw _ (List.mem_of_getElem? (i := 17) rfl))) (by decide) (backOf (W := 1) (rmmx3 l Z a0 hw []  h0 n0 Z0 ) hZ (hw _ (List.mem_of_getElem? (i := 17) rfl)) (hw _ (List.mem_of_getElem? (i := 16) rfl)) (by decide) (by decide)) (g := (mkF m 7 #[.val (.ref a1), .val (.int (3 : Int32))] [(.int (3 : Int32)), (.int (1 : Int32)), (.ref a1)])) rfl (by rw [hml]; rfl) (argsL := [(.int (1 : Int32)), (.int (3 : Int32))]) (rest := [(.ref a1)]) (lenOf pd_1 rfl) rfl (by show 2 * 0 + _ ≤ _; exact Nat.le_of_eq rfl) (hb hby d2_7) (fun _ _ => ⟨rfl, e1001, (by decide : 0 + 0 ≤ _), (by decide : 0 + 0 ≤ _)⟩)
  dsimp only [Pt.U, Pt.locs, Pt.cells, Pt.slots] at X1002 l1002 y1002 z1002 st1002 hQ1002
  subst l1002 y1002 z1002
  obtain ⟨rfl, N1002q, e1002⟩ := hQ1002
  have N1002 := Fr.app N0 N1002q
  refine OEnds.st st1002 ?_
  clear st1002
  show OEnds p.tables e below G (T1002.setTop (mkF m 10 #[.val (.ref a1), .val (.int (3 : Int32))] [(.int (3 : Int32)), (.ref a1)]))
  obtain ⟨T1003, h1003, X1003, e1003, W1003, st1003⟩ := putF X1002 hx hZ hown (host := "") (Or.inl (hw _ (List.mem_of_getElem? (i := 18) rfl))) Via.refl e1002 Fcapacity E (Or.inr ⟨(hw _ (List.mem_of_getElem? (i := 19) rfl)), rfl, hnm⟩) (hw _ (List.mem_of_getElem? (i := 6) rfl)) (ty := .int) (by decide) rfl rfl (g := (mkF m 10 #[.val (.ref a1), .val (.int (3 : Int32))] [(.int (3 : Int32)), (.ref a1)])) rfl rfl (hb hby d2_10)
  refine OEnds.st st1003 ?_
  clear st1003
  have f1004 : Fld Z h1003 a1 "com/example/clearingd/clearingd/store/PositionSet" "capacity" "I" (.int (3 : Int32)) := Fcapacity.same W1003
  have f1005 : Exa Z h1003 a1 "com/example/clearingd/clearingd/store/PositionSet" := E.wr W1003
  have f1006 : Fld Z h1003 a1 "com/example/clearingd/clearingd/store/PositionSet" "slots" "[J" .null := Fslots.other W1003 (Or.inr (slot_ne (Or.inr (hw _ (List.mem_of_getElem? (i := 31) rfl))) (Or.inr (hw _ (List.mem_of_getElem? (i := 19) rfl))) (by decide) (t := (.array .long)) (t' := .int) (by decide) (by decide)))
  have f1007 : Fld Z h1003 a1 "com/example/clearingd/clearingd/store/PositionSet" "taken" "[I" .null := Ftaken.other W1003 (Or.inr (slot_ne (Or.inr (hw _ (List.mem_of_getElem? (i := 34) rfl))) (Or.inr (hw _ (List.mem_of_getElem? (i := 19) rfl))) (by decide) (t := (.array .int)) (t' := .int) (by decide) (by decide)))
  have f1009 : Fld Z h1003 a1 "com/example/clearingd/clearingd/store/PositionSet" "size" "I" (.int (0 : Int32)) := Fsize.other W1003 (Or.inr (slot_ne (Or.inl (hw _ (List.mem_of_getElem? (i := 46) rfl))) (Or.inr (hw _ (List.mem_of_getElem? (i := 19) rfl))) (by decide) (t := .int) (t' := .int) (by decide) (by decide)))
  have f1010 : Fld Z h1003 a1 "com/example/clearingd/clearingd/store/PositionSet" "overflowed" "Z" (.int (0 : Int32)) := Foverflowed.other W1003 (Or.inr (slot_ne (Or.inl (hw _ (List.mem_of_getElem? (i := 48) rfl))) (Or.inr (hw _ (List.mem_of_getElem? (i := 19) rfl))) (by decide) (t := .boolean) (t' := .int) (by decide) (by decide)))
  have N1003 := Fr.snoc X1003 N1002 g_a1
  have KK1003 : Keep h0 h1003 [a1] := KK0.wr W1003 (Or.inl (List.mem_of_getElem? (i := 0) rfl))
  have Z1003 := Nat.le_trans Z0 (Keep.of_wr W1003).1
  show OEnds p.tables e below G (T1003.setTop (mkF m 13 #[.val (.ref a1), .val (.int (3 : Int32))] []))
  refine OEnds.st (fun _ k => XS.aloadN X1003.here hx rfl (hb hby d2_13) rfl rfl k) ?_
  show OEnds p.tables e below G (T1003.setTop (mkF m 14 #[.val (.ref a1), .val (.int (3 : Int32))] [(.ref a1)]))
  refine OEnds.st (fun _ k => XS.aloadN X1003.here hx rfl (hb hby d2_14) rfl rfl k) ?_
  show OEnds p.tables e below G (T1003.setTop (mkF m 15 #[.val (.ref a1), .val (.int (3 : Int32))] [(.ref a1), (.ref a1)]))
  obtain ⟨T1011, X1011, e1011, st1011⟩ := getF X1003 hx hZ hown (host := "") (Or.inl (hw _ (List.mem_of_getElem? (i := 18) rfl))) Via.refl e1003 f1004 (g := (mkF m 15 #[.val (.ref a1), .val (.int (3 : Int32))] [(.ref a1), (.ref a1)])) rfl rfl (hb hby d2_15)
  refine OEnds.st st1011 ?_
  clear st1011
  show OEnds p.tables e below G (T1011.setTop (mkF m 18 #[.val (.ref a1), .val (.int (3 : Int32))] [(.int (3 : Int32)), (.ref a1)]))
  obtain ⟨_, _, ⟨T1012, L1012, k1012c, n1012c⟩, -, X1012, ⟨Lc1012, hQ1012, l1012, y1012, z1012⟩, st1012⟩ := Jvm.LawKit.callS X1011 hx (y := (⟨"java/lang/Integer", "highestOneBit", "(I)I"⟩ : MethodName)) hown (mvT hZ (hw _ (List.mem_of_getElem? (i := 20) rfl))) (mvT hZ (hw _ (List.mem_of_getElem? (i := 21) rfl))) (mvT hZ (hw _ (List.mem_of_getElem? (i := 22) rfl))) (mvT hZ (hw _ (List.mem_of_getElem? (i := 23) rfl))) (by decide) (backOf (W := 1) (rmho3 l Z a0 hw []  h1003 n0 Z1003 ) hZ (hw _ (List.mem_of_getElem? (i := 23) rfl)) (hw _ (List.mem_of_getElem? (i := 22) rfl)) (by decide) (by decide)) (g := (mkF m 18 #[.val (.ref a1), .val (.int (3 : Int32))] [(.int (3 : Int32)), (.ref a1)])) rfl (by rw [hml]; rfl) (argsL := [(.int (3 : Int32))]) (rest := [(.ref a1)]) (lenOf pd_0 rfl) rfl (by show 2 * 0 + _ ≤ _; exact Nat.le_of_eq rfl) (hb hby d2_18) (fun _ _ => ⟨rfl, e1011, (by decide : 0 + 0 + 0 ≤ _), (by decide : 0 + 0 + 0 ≤ _)⟩)
  dsimp only [Pt.U, Pt.locs, Pt.cells, Pt.slots] at X1012 l1012 y1012 z1012 st1012 hQ1012
  subst l1012 y1012 z1012
  obtain ⟨rfl, N1012q, e1012⟩ := hQ1012
  have N1012 := Fr.app N1003 N1012q
  refine OEnds.st st1012 ?_
  clear st1012
  show OEnds p.tables e below G (T1012.setTop (mkF m 21 #[.val (.ref a1), .val (.int (3 : Int32))] [(.int (2 : Int32)), (.ref a1)]))
  refine OEnds.st (fun _ k => XS.iconst X1012.here hx rfl (hb hby d2_21) k) ?_
  show OEnds p.tables e below G (T1012.setTop (mkF m 22 #[.val (.ref a1), .val (.int (3 : Int32))] [(.int (2 : Int32)), (.int (2 : Int32)), (.ref a1)]))
  refine OEnds.st (fun _ k => XS.ishl X1012.here hx rfl (hb hby d2_22) rfl k) ?_
  show OEnds p.tables e below G (T1012.setTop (mkF m 23 #[.val (.ref a1), .val (.int (3 : Int32))] [(.int ((2 : Int32) <<< ((2 : Int32) &&& 31))), (.ref a1)]))
  rw [show ((2 : Int32) <<< ((2 : Int32) &&& 31)) = (8 : Int32) from by decide]
  show OEnds p.tables e below G (T1012.setTop (mkF m 23 #[.val (.ref a1), .val (.int (3 : Int32))] [(.int (8 : Int32)), (.ref a1)]))
  obtain ⟨T1013, h1013, k1013, X1013, e1013, E1013, A1013, st1013⟩ := newP X1012 hx hZ (hw _ (List.mem_of_getElem? (i := 29) rfl)) e1012 (g := (mkF m 23 #[.val (.ref a1), .val (.int (3 : Int32))] [(.int (8 : Int32)), (.ref a1)])) rfl (hb hby d2_23) rfl (by decide) (cap := 8) (by decide) (by decide) (by decide) (by decide)
  obtain ⟨b1013, g1013⟩ : ∃ z, z = h1003.size := ⟨_, rfl⟩
  rw [← g1013] at A1013 st1013
  refine OEnds.st st1013 ?_
  clear st1013
  have ne1014 : a1 ≠ b1013 := Nat.ne_of_lt (Nat.lt_of_lt_of_le (f1005).lt (Nat.le_of_eq g1013.symm))
  have ge_b1013 : n0 ≤ b1013 := Nat.le_trans Z1003 (Nat.le_of_eq g1013.symm)
  have sz_b1013 : h0.size ≤ b1013 := Nat.le_trans KK1003.1 (Nat.le_of_eq g1013.symm)
  have f1015 : Exa Z h1013 a1 "com/example/clearingd/clearingd/store/PositionSet" := f1005.ext E1013
  have f1016 : Fld Z h1013 a1 "com/example/clearingd/clearingd/store/PositionSet" "slots" "[J" .null := f1006.ext E1013
  have f1017 : Fld Z h1013 a1 "com/example/clearingd/clearingd/store/PositionSet" "taken" "[I" .null := f1007.ext E1013
  have f1018 : Fld Z h1013 a1 "com/example/clearingd/clearingd/store/PositionSet" "size" "I" (.int (0 : Int32)) := f1009.ext E1013
  have f1019 : Fld Z h1013 a1 "com/example/clearingd/clearingd/store/PositionSet" "overflowed" "Z" (.int (0 : Int32)) := f1010.ext E1013
  have f1020 : Fld Z h1013 a1 "com/example/clearingd/clearingd/store/PositionSet" "capacity" "I" (.int (3 : Int32)) := f1004.ext E1013
  have KK1013 : Keep h0 h1013 [a1] := KK1003.ext E1013
  have Z1013 := Nat.le_trans Z1003 E1013.1
  have f1021 : Arv Z h1013 b1013 k1013 .long (8 : Int32) [(.long (0 : Int64)), (.long (0 : Int64)), (.long (0 : Int64)), (.long (0 : Int64)), (.long (0 : Int64)), (.long (0 : Int64)), (.long (0 : Int64)), (.long (0 : Int64))] (.long (0 : Int64)) := (Arv.new A1013 (by decide)).pad (pad_rep [] (.long (0 : Int64)) 8)
  show OEnds p.tables e below G (T1013.setTop (mkF m 25 #[.val (.ref a1), .val (.int (3 : Int32))] [(.ref b1013), (.ref a1)]))
  obtain ⟨T1022, h1022, X1022, e1022, W1022, st1022⟩ := putF X1013 hx hZ hown (host := "") (Or.inl (hw _ (List.mem_of_getElem? (i := 30) rfl))) Via.refl e1013 f1016 f1015 (Or.inr ⟨(hw _ (List.mem_of_getElem? (i := 31) rfl)), rfl, hnm⟩) (hw _ (List.mem_of_getElem? (i := 6) rfl)) (ty := (.array .long)) (by decide) rfl rfl (g := (mkF m 25 #[.val (.ref a1), .val (.int (3 : Int32))] [(.ref b1013), (.ref a1)])) rfl rfl (hb hby d2_25)
  refine OEnds.st st1022 ?_
  clear st1022
  have f1023 : Fld Z h1022 a1 "com/example/clearingd/clearingd/store/PositionSet" "slots" "[J" (.ref b1013) := f1016.same W1022
  have f1024 : Exa Z h1022 a1 "com/example/clearingd/clearingd/store/PositionSet" := f1015.wr W1022
  have f1026 : Fld Z h1022 a1 "com/example/clearingd/clearingd/store/PositionSet" "taken" "[I" .null := f1017.other W1022 (Or.inr (slot_ne (Or.inr (hw _ (List.mem_of_getElem? (i := 34) rfl))) (Or.inr (hw _ (List.mem_of_getElem? (i := 31) rfl))) (by decide) (t := (.array .int)) (t' := (.array .long)) (by decide) (by decide)))
  have f1027 : Fld Z h1022 a1 "com/example/clearingd/clearingd/store/PositionSet" "size" "I" (.int (0 : Int32)) := f1018.other W1022 (Or.inr (slot_ne (Or.inl (hw _ (List.mem_of_getElem? (i := 46) rfl))) (Or.inr (hw _ (List.mem_of_getElem? (i := 31) rfl))) (by decide) (t := .int) (t' := (.array .long)) (by decide) (by decide)))
  have f1028 : Fld Z h1022 a1 "com/example/clearingd/clearingd/store/PositionSet" "overflowed" "Z" (.int (0 : Int32)) := f1019.other W1022 (Or.inr (slot_ne (Or.inl (hw _ (List.mem_of_getElem? (i := 48) rfl))) (Or.inr (hw _ (List.mem_of_getElem? (i := 31) rfl))) (by decide) (t := .boolean) (t' := (.array .long)) (by decide) (by decide)))
  have f1029 : Fld Z h1022 a1 "com/example/clearingd/clearingd/store/PositionSet" "capacity" "I" (.int (3 : Int32)) := f1020.other W1022 (Or.inr (slot_ne (Or.inr (hw _ (List.mem_of_getElem? (i := 19) rfl))) (Or.inr (hw _ (List.mem_of_getElem? (i := 31) rfl))) (by decide) (t := .int) (t' := (.array .long)) (by decide) (by decide)))
  have f1030 : Arv Z h1022 b1013 k1013 .long (8 : Int32) [(.long (0 : Int64)), (.long (0 : Int64)), (.long (0 : Int64)), (.long (0 : Int64)), (.long (0 : Int64)), (.long (0 : Int64)), (.long (0 : Int64)), (.long (0 : Int64))] (.long (0 : Int64)) := f1021.other W1022 (Ne.symm ne1014)
  have N1022 := Fr.snoc X1022 N1012 g_a1
  have KK1022 : Keep h0 h1022 [a1] := KK1013.wr W1022 (Or.inl (List.mem_of_getElem? (i := 0) rfl))
  have Z1022 := Nat.le_trans Z1013 (Keep.of_wr W1022).1
  show OEnds p.tables e below G (T1022.setTop (mkF m 28 #[.val (.ref a1), .val (.int (3 : Int32))] []))
  refine OEnds.st (fun _ k => XS.aloadN X1022.here hx rfl (hb hby d2_28) rfl rfl k) ?_
  show OEnds p.tables e below G (T1022.setTop (mkF m 29 #[.val (.ref a1), .val (.int (3 : Int32))] [(.ref a1)]))
  refine OEnds.st (fun _ k => XS.aloadN X1022.here hx rfl (hb hby d2_29) rfl rfl k) ?_
  show OEnds p.tables e below G (T1022.setTop (mkF m 30 #[.val (.ref a1), .val (.int (3 : Int32))] [(.ref a1), (.ref a1)]))
  obtain ⟨T1031, X1031, e1031, st1031⟩ := getF X1022 hx hZ hown (host := "") (Or.inl (hw _ (List.mem_of_getElem? (i := 18) rfl))) Via.refl e1022 f1029 (g := (mkF m 30 #[.val (.ref a1), .val (.int (3 : Int32))] [(.ref a1), (.ref a1)])) rfl rfl (hb hby d2_30)
  refine OEnds.st st1031 ?_
  clear st1031
  show OEnds p.tables e below G (T1031.setTop (mkF m 33 #[.val (.ref a1), .val (.int (3 : Int32))] [(.int (3 : Int32)), (.ref a1)]))
  obtain ⟨T1032, h1032, k1032, X1032, e1032, E1032, A1032, st1032⟩ := newP X1031 hx hZ (hw _ (List.mem_of_getElem? (i := 32) rfl)) e1031 (g := (mkF m 33 #[.val (.ref a1), .val (.int (3 : Int32))] [(.int (3 : Int32)), (.ref a1)])) rfl (hb hby d2_33) rfl (by decide) (cap := 3) (by decide) (by decide) (by decide) (by decide)
  obtain ⟨b1032, g1032⟩ : ∃ z, z = h1022.size := ⟨_, rfl⟩
  rw [← g1032] at A1032 st1032
  refine OEnds.st st1032 ?_
  clear st1032
  have ne1033 : a1 ≠ b1032 := Nat.ne_of_lt (Nat.lt_of_lt_of_le (f1024).lt (Nat.le_of_eq g1032.symm))
  have ne1034 : b1013 ≠ b1032 := Nat.ne_of_lt (Nat.lt_of_lt_of_le (f1030).lt (Nat.le_of_eq g1032.symm))
  have ge_b1032 : n0 ≤ b1032 := Nat.le_trans Z1022 (Nat.le_of_eq g1032.symm)
  have sz_b1032 : h0.size ≤ b1032 := Nat.le_trans KK1022.1 (Nat.le_of_eq g1032.symm)
  have f1035 : Exa Z h1032 a1 "com/example/clearingd/clearingd/store/PositionSet" := f1024.ext E1032
  have f1036 : Fld Z h1032 a1 "com/example/clearingd/clearingd/store/PositionSet" "taken" "[I" .null := f1026.ext E1032
  have f1037 : Fld Z h1032 a1 "com/example/clearingd/clearingd/store/PositionSet" "size" "I" (.int (0 : Int32)) := f1027.ext E1032
  have f1038 : Fld Z h1032 a1 "com/example/clearingd/clearingd/store/PositionSet" "overflowed" "Z" (.int (0 : Int32)) := f1028.ext E1032
  have f1039 : Fld Z h1032 a1 "com/example/clearingd/clearingd/store/PositionSet" "capacity" "I" (.int (3 : Int32)) := f1029.ext E1032
  have f1040 : Arv Z h1032 b1013 k1013 .long (8 : Int32) [(.long (0 : Int64)), (.long (0 : Int64)), (.long (0 : Int64)), (.long (0 : Int64)), (.long (0 : Int64)), (.long (0 : Int64)), (.long (0 : Int64)), (.long (0 : Int64))] (.long (0 : Int64)) := f1030.ext E1032
  have f1041 : Fld Z h1032 a1 "com/example/clearingd/clearingd/store/PositionSet" "slots" "[J" (.ref b1013) := f1023.ext E1032
  have KK1032 : Keep h0 h1032 [a1] := KK1022.ext E1032
  have Z1032 := Nat.le_trans Z1022 E1032.1
  have f1042 : Arv Z h1032 b1032 k1032 .int (3 : Int32) [(.int (0 : Int32)), (.int (0 : Int32)), (.int (0 : Int32))] (.int (0 : Int32)) := (Arv.new A1032 (by decide)).pad (pad_rep [] (.int (0 : Int32)) 3)
  show OEnds p.tables e below G (T1032.setTop (mkF m 35 #[.val (.ref a1), .val (.int (3 : Int32))] [(.ref b1032), (.ref a1)]))
  obtain ⟨T1043, h1043, X1043, e1043, W1043, st1043⟩ := putF X1032 hx hZ hown (host := "") (Or.inl (hw _ (List.mem_of_getElem? (i := 33) rfl))) Via.refl e1032 f1036 f1035 (Or.inr ⟨(hw _ (List.mem_of_getElem? (i := 34) rfl)), rfl, hnm⟩) (hw _ (List.mem_of_getElem? (i := 6) rfl)) (ty := (.array .int)) (by decide) rfl rfl (g := (mkF m 35 #[.val (.ref a1), .val (.int (3 : Int32))] [(.ref b1032), (.ref a1)])) rfl rfl (hb hby d2_35)
  refine OEnds.st st1043 ?_
  clear st1043
  have f1044 : Fld Z h1043 a1 "com/example/clearingd/clearingd/store/PositionSet" "taken" "[I" (.ref b1032) := f1036.same W1043
  have f1045 : Exa Z h1043 a1 "com/example/clearingd/clearingd/store/PositionSet" := f1035.wr W1043
  have f1047 : Fld Z h1043 a1 "com/example/clearingd/clearingd/store/PositionSet" "size" "I" (.int (0 : Int32)) := f1037.other W1043 (Or.inr (slot_ne (Or.inl (hw _ (List.mem_of_getElem? (i := 46) rfl))) (Or.inr (hw _ (List.mem_of_getElem? (i := 34) rfl))) (by decide) (t := .int) (t' := (.array .int)) (by decide) (by decide)))
  have f1048 : Fld Z h1043 a1 "com/example/clearingd/clearingd/store/PositionSet" "overflowed" "Z" (.int (0 : Int32)) := f1038.other W1043 (Or.inr (slot_ne (Or.inl (hw _ (List.mem_of_getElem? (i := 48) rfl))) (Or.inr (hw _ (List.mem_of_getElem? (i := 34) rfl))) (by decide) (t := .boolean) (t' := (.array .int)) (by decide) (by decide)))
  have f1049 : Fld Z h1043 a1 "com/example/clearingd/clearingd/store/PositionSet" "capacity" "I" (.int (3 : Int32)) := f1039.other W1043 (Or.inr (slot_ne (Or.inr (hw _ (List.mem_of_getElem? (i := 19) rfl))) (Or.inr (hw _ (List.mem_of_getElem? (i := 34) rfl))) (by decide) (t := .int) (t' := (.array .int)) (by decide) (by decide)))
  have f1050 : Arv Z h1043 b1013 k1013 .long (8 : Int32) [(.long (0 : Int64)), (.long (0 : Int64)), (.long (0 : Int64)), (.long (0 : Int64)), (.long (0 : Int64)), (.long (0 : Int64)), (.long (0 : Int64)), (.long (0 : Int64))] (.long (0 : Int64)) := f1040.other W1043 (Ne.symm ne1014)
  have f1051 : Fld Z h1043 a1 "com/example/clearingd/clearingd/store/PositionSet" "slots" "[J" (.ref b1013) := f1041.other W1043 (Or.inr (slot_ne (Or.inr (hw _ (List.mem_of_getElem? (i := 31) rfl))) (Or.inr (hw _ (List.mem_of_getElem? (i := 34) rfl))) (by decide) (t := (.array .long)) (t' := (.array .int)) (by decide) (by decide)))
  have f1052 : Arv Z h1043 b1032 k1032 .int (3 : Int32) [(.int (0 : Int32)), (.int (0 : Int32)), (.int (0 : Int32))] (.int (0 : Int32)) := f1042.other W1043 (Ne.symm ne1033)
  have N1043 := Fr.snoc X1043 N1022 g_a1
  have KK1043 : Keep h0 h1043 [a1] := KK1032.wr W1043 (Or.inl (List.mem_of_getElem? (i := 0) rfl))
  have Z1043 := Nat.le_trans Z1032 (Keep.of_wr W1043).1
  show OEnds p.tables e below G (T1043.setTop (mkF m 38 #[.val (.ref a1), .val (.int (3 : Int32))] []))
  refine OEnds.st (fun _ k => XS.aloadN X1043.here hx rfl (hb hby d2_38) rfl rfl k) ?_
  show OEnds p.tables e below G (T1043.setTop (mkF m 39 #[.val (.ref a1), .val (.int (3 : Int32))] [(.ref a1)]))
  obtain ⟨T1053, X1053, e1053, st1053⟩ := getF X1043 hx hZ hown (host := "") (Or.inl (hw _ (List.mem_of_getElem? (i := 30) rfl))) Via.refl e1043 f1051 (g := (mkF m 39 #[.val (.ref a1), .val (.int (3 : Int32))] [(.ref a1)])) rfl rfl (hb hby d2_39)
  refine OEnds.st st1053 ?_
  clear st1053
  show OEnds p.tables e below G (T1053.setTop (mkF m 42 #[.val (.ref a1), .val (.int (3 : Int32))] [(.ref b1013)]))
  refine OEnds.st (X1053.ldc2Long hx hown (mvT hZ (hw _ (List.mem_of_getElem? (i := 35) rfl))) (g := (mkF m 42 #[.val (.ref a1), .val (.int (3 : Int32))] [(.ref b1013)])) rfl (hb hby d2_42)) ?_
  have fo1054 : Arv Z h1043 b1013 k1013 .long (8 : Int32) (own_T 8 own_O) (.long (0 : Int64)) := f1050
  show OEnds p.tables e below G (T1053.setTop (mkF m 45 #[.val (.ref a1), .val (.int (3 : Int32))] [(.long (-1 : Int64)), (.ref b1013)]))
  obtain ⟨_, _, ⟨T1055, L1055, k1055c, n1055c⟩, -, X1055, ⟨Lc1055, hQ1055, l1055, y1055, z1055⟩, st1055⟩ := Jvm.LawKit.callS X1053 hx (y := (⟨"java/util/Arrays", "fill", "([JJ)V"⟩ : MethodName)) hown (mvT hZ (hw _ (List.mem_of_getElem? (i := 36) rfl))) (mvT hZ (hw _ (List.mem_of_getElem? (i := 37) rfl))) (mvT hZ (hw _ (List.mem_of_getElem? (i := 38) rfl))) (mvT hZ (hw _ (List.mem_of_getElem? (i := 39) rfl))) (by decide) (backOf (W := 0) (rm7 l Z a0 hw [] b1013 k1013 (8 : Int32) 8 own_O h1043 n0 Z1043 fo1054 ge_b1013 rfl (by decide)) hZ (hw _ (List.mem_of_getElem? (i := 39) rfl)) (hw _ (List.mem_of_getElem? (i := 38) rfl)) (by decide) (by decide)) (g := (mkF m 45 #[.val (.ref a1), .val (.int (3 : Int32))] [(.long (-1 : Int64)), (.ref b1013)])) rfl (by rw [hml]; rfl) (argsL := [(.ref b1013), (.long (-1 : Int64))]) (rest := []) (lenOf pd_2 rfl) rfl (by show 2 * 0 + _ ≤ _; exact Nat.le_of_eq rfl) (hb hby d2_45) (fun _ _ => ⟨rfl, e1053, (by decide : 0 + 0 + 0 + 1 + 1 + 0 ≤ _), (by decide : 0 + 0 + 0 + 8 + 3 + 0 ≤ _)⟩)
  dsimp only [Pt.U, Pt.locs, Pt.cells, Pt.slots] at X1055 l1055 y1055 z1055 st1055 hQ1055
  subst l1055 y1055 z1055
  obtain ⟨rfl, N1055q, p1056, p1057⟩ := hQ1055
  have N1055 := Fr.app N1043 N1055q
  refine OEnds.st st1055 ?_
  clear st1055
  have f1058 : Exa Z T1055.heap a1 "com/example/clearingd/clearingd/store/PositionSet" := f1045.keep p1056
  have f1059 : Fld Z T1055.heap a1 "com/example/clearingd/clearingd/store/PositionSet" "size" "I" (.int (0 : Int32)) := f1047.keep p1056 (by simp only [List.mem_cons, List.not_mem_nil, or_false, not_or]; exact ne1014)
  have f1060 : Fld Z T1055.heap a1 "com/example/clearingd/clearingd/store/PositionSet" "overflowed" "Z" (.int (0 : Int32)) := f1048.keep p1056 (by simp only [List.mem_cons, List.not_mem_nil, or_false, not_or]; exact ne1014)
  have f1061 : Fld Z T1055.heap a1 "com/example/clearingd/clearingd/store/PositionSet" "capacity" "I" (.int (3 : Int32)) := f1049.keep p1056 (by simp only [List.mem_cons, List.not_mem_nil, or_false, not_or]; exact ne1014)
  have f1063 : Fld Z T1055.heap a1 "com/example/clearingd/clearingd/store/PositionSet" "slots" "[J" (.ref b1013) := f1051.keep p1056 (by simp only [List.mem_cons, List.not_mem_nil, or_false, not_or]; exact ne1014)
  have f1064 : Arv Z T1055.heap b1032 k1032 .int (3 : Int32) [(.int (0 : Int32)), (.int (0 : Int32)), (.int (0 : Int32))] (.int (0 : Int32)) := f1052.keep p1056 (by simp only [List.mem_cons, List.not_mem_nil, or_false, not_or]; exact (Ne.symm ne1034))
  have f1065 : Fld Z T1055.heap a1 "com/example/clearingd/clearingd/store/PositionSet" "taken" "[I" (.ref b1032) := f1044.keep p1056 (by simp only [List.mem_cons, List.not_mem_nil, or_false, not_or]; exact ne1014)
  have KK1055 : Keep h0 T1055.heap [a1] := KK1043.trans p1056 (fun x hx => by cases List.mem_singleton.mp hx; exact Or.inr sz_b1013)
  have Z1055 := Nat.le_trans Z1043 p1056.1
  show OEnds p.tables e below G (T1055.setTop (mkF m 48 #[.val (.ref a1), .val (.int (3 : Int32))] []))
  rw [← hG]
  refine OEnds.retV X1055 hx hlk Bd.returns (hb hby d2_48) (by decide) (by decide) ?_
  show _
  exact ⟨b1013, b1032, k1013, k1032, rfl, N1055, KK1055, sz_b1013, sz_b1032, ne1034, f1058, f1063, f1065, f1061, f1059, f1060, p1057, f1064⟩
theorem ef_ini4 (m : MethodId) (a1 : Addr) : entryFrame m #[(.ref a1), (.int (4 : Int32))] 2 = mkF m 0 #[.val (.ref a1), .val (.int (4 : Int32))] [] := by first | (simp [entryFrame, mkF, argsToLocals, Value.category]; done) | rfl
def Qini4 (Z : State) (a1 : Addr) (h0 : Heap) (n0 : Nat) (v : Option Value) (h : Heap) (L : List Loc) : Prop := ∃ (sa : Addr) (ta : Addr) (ks : ClassId) (kt : ClassId), v = none ∧ Fr n0 L ∧ Keep h0 h [a1] ∧ h0.size ≤ sa ∧ h0.size ≤ ta ∧ sa ≠ ta ∧ Exa Z h a1 "com/example/clearingd/clearingd/store/PositionSet" ∧ Fld Z h a1 "com/example/clearingd/clearingd/store/PositionSet" "slots" "[J" (.ref sa) ∧ Fld Z h a1 "com/example/clearingd/clearingd/store/PositionSet" "taken" "[I" (.ref ta) ∧ Fld Z h a1 "com/example/clearingd/clearingd/store/PositionSet" "capacity" "I" (.int (4 : Int32)) ∧ Fld Z h a1 "com/example/clearingd/clearingd/store/PositionSet" "size" "I" (.int (0 : Int32)) ∧ Fld Z h a1 "com/example/clearingd/clearingd/store/PositionSet" "overflowed" "Z" (.int (0 : Int32)) ∧ Arv Z h sa ks .long (16 : Int32) (own_T 16 own_E) (.long (0 : Int64)) ∧ Arv Z h ta kt .int (4 : Int32) (own_G 4 own_Z) (.int (0 : Int32))
set_option maxRecDepth 65536 in
set_option maxHeartbeats 40000000 in
theorem rmini4 (l : Launch) (Z : State) (a0 : Array Value) (hw : ∀ d ∈ tables_1, d.before a0 Z = true) (ws : List Jvm.Cond) (a1 : Addr) (h0 : Heap) (n0 : Nat) (Z0 : n0 ≤ h0.size) (E : Exa Z h0 a1 "com/example/clearingd/clearingd/store/PositionSet") (Fslots : Fld Z h0 a1 "com/example/clearingd/clearingd/store/PositionSet" "slots" "[J" .null) (Ftaken : Fld Z h0 a1 "com/example/clearingd/clearingd/store/PositionSet" "taken" "[I" .null) (Fcapacity : Fld Z h0 a1 "com/example/clearingd/clearingd/store/PositionSet" "capacity" "I" (.int (0 : Int32))) (Fsize : Fld Z h0 a1 "com/example/clearingd/clearingd/store/PositionSet" "size" "I" (.int (0 : Int32))) (Foverflowed : Fld Z h0 a1 "com/example/clearingd/clearingd/store/PositionSet" "overflowed" "Z" (.int (0 : Int32))) (g_a1 : n0 ≤ a1) :
    MetFree l (⟨"com/example/clearingd/clearingd/store/PositionSet", "<init>", "(I)V"⟩ : MethodName) (head1 (Jvm.Cond.code (⟨"com/example/clearingd/clearingd/store/PositionSet", "<init>", "(I)V"⟩ : MethodName) prog_44_method_1_code 2 none :: ws) ({ frames := 2, cells := 2, slots := 20, locals := 28 } : Room)) (fun a U => a = #[(.ref a1), (.int (4 : Int32))] ∧ Z.Warmed39 U.vm ∧ U.heap = h0) (fun _ _ _ _ _ => True) (fun _ U o U' => ∃ v L, o = .returned v ∧ Qini4 Z a1 h0 n0 v U'.heap L ∧ FrameEnd U o U' L ({ frames := 2, cells := 2, slots := 20, locals := 28 } : Room).cells ({ frames := 2, cells := 2, slots := 20, locals := 28 } : Room).slots) := by
  refine MetFree.of_bodySF (plainFor_of_name pn_4) hisR ?_
  intro p e s m args below meth c s₁ Bd hml0 hP hK
  obtain ⟨rfl, hZ, hh⟩ := hP
  have hx := Bd.exec
  have hby := Bd.bytes
  have hml : c.maxLocals = 2 := hml0
  have hown : s.vm.findClass "com/example/clearingd/clearingd/store/PositionSet" = some m.cls := findClass_of_methodNamed Bd.named
  have hnm := (name_of_methodNamed Bd.named Bd.method).1
  have hlk : meth.locks = false := BodyLoose.notSynchronized Bd
  have X0 : Stand p l e ({ frames := 2, cells := 2, slots := 20, locals := 28 } : Room) s m #[(.ref a1), (.int (4 : Int32))] below meth c s₁ [] 0 0 := Stand.of_body Bd
  have e0 : s₁.heap = h0 := by rw [← hh, Bd.state]; rfl
  have N0 := Fr.nil n0
  show OEnds p.tables e below (OGoal (Qini4 Z a1 h0 n0) s 2 20) (s₁.setTop (entryFrame m #[(.ref a1), (.int (4 : Int32))] 2))
  refine OEnds.st (fun t k => castTop (ef_ini4 m a1) k) ?_
  generalize hG : OGoal (Qini4 Z a1 h0 n0) s 2 20 = G
  have KK0 : Keep h0 h0 [a1] := Keep.refl h0 [a1]
  show OEnds p.tables e below G (s₁.setTop (mkF m 0 #[.val (.ref a1), .val (.int (4 : Int32))] []))
  refine OEnds.st (fun _ k => XS.aloadN X0.here hx rfl (hb hby d2_0) rfl rfl k) ?_
  show OEnds p.tables e below G (s₁.setTop (mkF m 1 #[.val (.ref a1), .val (.int (4 : Int32))] [(.ref a1)]))
  obtain ⟨T1001, X1001, e1001, st1001⟩ := initO X0 hx hZ hown (hw _ (List.mem_of_getElem? (i := 11) rfl)) (hw _ (List.mem_of_getElem? (i := 12) rfl)) (hw _ (List.mem_of_getElem? (i := 13) rfl)) e0 (g := (mkF m 1 #[.val (.ref a1), .val (.int (4 : Int32))] [(.ref a1)])) rfl (by rw [hml]; rfl) rfl (hb hby d2_1) (by decide) (W := 0) (by show 2 * 0 + _ ≤ _; exact Nat.le_of_eq rfl) (by decide)
  refine OEnds.st st1001 ?_
  clear st1001
  show OEnds p.tables e below G (T1001.setTop (mkF m 4 #[.val (.ref a1), .val (.int (4 : Int32))] []))
  refine OEnds.st (fun _ k => XS.aloadN X1001.here hx rfl (hb hby d2_4) rfl rfl k) ?_
  show OEnds p.tables e below G (T1001.setTop (mkF m 5 #[.val (.ref a1), .val (.int (4 : Int32))] [(.ref a1)]))
  refine OEnds.st (fun _ k => XS.iconst X1001.here hx rfl (hb hby d2_5) k) ?_
  show OEnds p.tables e below G (T1001.setTop (mkF m 6 #[.val (.ref a1), .val (.int (4 : Int32))] [(.int (1 : Int32)), (.ref a1)]))
  refine OEnds.st (fun _ k => XS.iloadN X1001.here hx rfl (hb hby d2_6) rfl k) ?_
  show OEnds p.tables e below G (T1001.setTop (mkF m 7 #[.val (.ref a1), .val (.int (4 : Int32))] [(.int (4 : Int32)), (.int (1 : Int32)), (.ref a1)]))
  obtain ⟨_, _, ⟨T1002, L1002, k1002c, n1002c⟩, -, X1002, ⟨Lc1002, hQ1002, l1002, y1002, z1002⟩, st1002⟩ := Jvm.LawKit.callS X1001 hx (y := (⟨"java/lang/Math", "max", "(II)I"⟩ : MethodName)) hown (mvT hZ (hw _ (List.mem_of_getElem? (i := 14) rfl))) (mvT hZ (hw _ (List.mem_of_getElem? (i := 15) rfl))) (mvT hZ (hw _ (List.mem_of_getElem? (i := 16) rfl))) (mvT hZ (hw _ (List.mem_of_getElem? (i := 17) rfl))) (by decide) (backOf (W := 1) (rmmx4 l Z a0 hw []  h0 n0 Z0 ) hZ (hw _ (List.mem_of_getElem? (i := 17) rfl)) (hw _ (List.mem_of_getElem? (i := 16) rfl)) (by decide) (by decide)) (g := (mkF m 7 #[.val (.ref a1), .val (.int (4 : Int32))] [(.int (4 : Int32)), (.int (1 : Int32)), (.ref a1)])) rfl (by rw [hml]; rfl) (argsL := [(.int (1 : Int32)), (.int (4 : Int32))]) (rest := [(.ref a1)]) (lenOf pd_1 rfl) rfl (by show 2 * 0 + _ ≤ _; exact Nat.le_of_eq rfl) (hb hby d2_7) (fun _ _ => ⟨rfl, e1001, (by decide : 0 + 0 ≤ _), (by decide : 0 + 0 ≤ _)⟩)
  dsimp only [Pt.U, Pt.locs, Pt.cells, Pt.slots] at X1002 l1002 y1002 z1002 st1002 hQ1002
  subst l1002 y1002 z1002
  obtain ⟨rfl, N1002q, e1002⟩ := hQ1002
  have N1002 := Fr.app N0 N1002q
  refine OEnds.st st1002 ?_
  clear st1002
  show OEnds p.tables e below G (T1002.setTop (mkF m 10 #[.val (.ref a1), .val (.int (4 : Int32))] [(.int (4 : Int32)), (.ref a1)]))
  obtain ⟨T1003, h1003, X1003, e1003, W1003, st1003⟩ := putF X1002 hx hZ hown (host := "") (Or.inl (hw _ (List.mem_of_getElem? (i := 18) rfl))) Via.refl e1002 Fcapacity E (Or.inr ⟨(hw _ (List.mem_of_getElem? (i := 19) rfl)), rfl, hnm⟩) (hw _ (List.mem_of_getElem? (i := 6) rfl)) (ty := .int) (by decide) rfl rfl (g := (mkF m 10 #[.val (.ref a1), .val (.int (4 : Int32))] [(.int (4 : Int32)), (.ref a1)])) rfl rfl (hb hby d2_10)
  refine OEnds.st st1003 ?_
  clear st1003
  have f1004 : Fld Z h1003 a1 "com/example/clearingd/clearingd/store/PositionSet" "capacity" "I" (.int (4 : Int32)) := Fcapacity.same W1003
  have f1005 : Exa Z h1003 a1 "com/example/clearingd/clearingd/store/PositionSet" := E.wr W1003
  have f1006 : Fld Z h1003 a1 "com/example/clearingd/clearingd/store/PositionSet" "slots" "[J" .null := Fslots.other W1003 (Or.inr (slot_ne (Or.inr (hw _ (List.mem_of_getElem? (i := 31) rfl))) (Or.inr (hw _ (List.mem_of_getElem? (i := 19) rfl))) (by decide) (t := (.array .long)) (t' := .int) (by decide) (by decide)))
  have f1007 : Fld Z h1003 a1 "com/example/clearingd/clearingd/store/PositionSet" "taken" "[I" .null := Ftaken.other W1003 (Or.inr (slot_ne (Or.inr (hw _ (List.mem_of_getElem? (i := 34) rfl))) (Or.inr (hw _ (List.mem_of_getElem? (i := 19) rfl))) (by decide) (t := (.array .int)) (t' := .int) (by decide) (by decide)))
  have f1009 : Fld Z h1003 a1 "com/example/clearingd/clearingd/store/PositionSet" "size" "I" (.int (0 : Int32)) := Fsize.other W1003 (Or.inr (slot_ne (Or.inl (hw _ (List.mem_of_getElem? (i := 46) rfl))) (Or.inr (hw _ (List.mem_of_getElem? (i := 19) rfl))) (by decide) (t := .int) (t' := .int) (by decide) (by decide)))
  have f1010 : Fld Z h1003 a1 "com/example/clearingd/clearingd/store/PositionSet" "overflowed" "Z" (.int (0 : Int32)) := Foverflowed.other W1003 (Or.inr (slot_ne (Or.inl (hw _ (List.mem_of_getElem? (i := 48) rfl))) (Or.inr (hw _ (List.mem_of_getElem? (i := 19) rfl))) (by decide) (t := .boolean) (t' := .int) (by decide) (by decide)))
  have N1003 := Fr.snoc X1003 N1002 g_a1
  have KK1003 : Keep h0 h1003 [a1] := KK0.wr W1003 (Or.inl (List.mem_of_getElem? (i := 0) rfl))
  have Z1003 := Nat.le_trans Z0 (Keep.of_wr W1003).1
  show OEnds p.tables e below G (T1003.setTop (mkF m 13 #[.val (.ref a1), .val (.int (4 : Int32))] []))
  refine OEnds.st (fun _ k => XS.aloadN X1003.here hx rfl (hb hby d2_13) rfl rfl k) ?_
  show OEnds p.tables e below G (T1003.setTop (mkF m 14 #[.val (.ref a1), .val (.int (4 : Int32))] [(.ref a1)]))
  refine OEnds.st (fun _ k => XS.aloadN X1003.here hx rfl (hb hby d2_14) rfl rfl k) ?_
  show OEnds p.tables e below G (T1003.setTop (mkF m 15 #[.val (.ref a1), .val (.int (4 : Int32))] [(.ref a1), (.ref a1)]))
  obtain ⟨T1011, X1011, e1011, st1011⟩ := getF X1003 hx hZ hown (host := "") (Or.inl (hw _ (List.mem_of_getElem? (i := 18) rfl))) Via.refl e1003 f1004 (g := (mkF m 15 #[.val (.ref a1), .val (.int (4 : Int32))] [(.ref a1), (.ref a1)])) rfl rfl (hb hby d2_15)
  refine OEnds.st st1011 ?_
  clear st1011
  show OEnds p.tables e below G (T1011.setTop (mkF m 18 #[.val (.ref a1), .val (.int (4 : Int32))] [(.int (4 : Int32)), (.ref a1)]))
  obtain ⟨_, _, ⟨T1012, L1012, k1012c, n1012c⟩, -, X1012, ⟨Lc1012, hQ1012, l1012, y1012, z1012⟩, st1012⟩ := Jvm.LawKit.callS X1011 hx (y := (⟨"java/lang/Integer", "highestOneBit", "(I)I"⟩ : MethodName)) hown (mvT hZ (hw _ (List.mem_of_getElem? (i := 20) rfl))) (mvT hZ (hw _ (List.mem_of_getElem? (i := 21) rfl))) (mvT hZ (hw _ (List.mem_of_getElem? (i := 22) rfl))) (mvT hZ (hw _ (List.mem_of_getElem? (i := 23) rfl))) (by decide) (backOf (W := 1) (rmho4 l Z a0 hw []  h1003 n0 Z1003 ) hZ (hw _ (List.mem_of_getElem? (i := 23) rfl)) (hw _ (List.mem_of_getElem? (i := 22) rfl)) (by decide) (by decide)) (g := (mkF m 18 #[.val (.ref a1), .val (.int (4 : Int32))] [(.int (4 : Int32)), (.ref a1)])) rfl (by rw [hml]; rfl) (argsL := [(.int (4 : Int32))]) (rest := [(.ref a1)]) (lenOf pd_0 rfl) rfl (by show 2 * 0 + _ ≤ _; exact Nat.le_of_eq rfl) (hb hby d2_18) (fun _ _ => ⟨rfl, e1011, (by decide : 0 + 0 + 0 ≤ _), (by decide : 0 + 0 + 0 ≤ _)⟩)
  dsimp only [Pt.U, Pt.locs, Pt.cells, Pt.slots] at X1012 l1012 y1012 z1012 st1012 hQ1012
  subst l1012 y1012 z1012
  obtain ⟨rfl, N1012q, e1012⟩ := hQ1012
  have N1012 := Fr.app N1003 N1012q
  refine OEnds.st st1012 ?_
  clear st1012
  show OEnds p.tables e below G (T1012.setTop (mkF m 21 #[.val (.ref a1), .val (.int (4 : Int32))] [(.int (4 : Int32)), (.ref a1)]))
  refine OEnds.st (fun _ k => XS.iconst X1012.here hx rfl (hb hby d2_21) k) ?_
  show OEnds p.tables e below G (T1012.setTop (mkF m 22 #[.val (.ref a1), .val (.int (4 : Int32))] [(.int (2 : Int32)), (.int (4 : Int32)), (.ref a1)]))
  refine OEnds.st (fun _ k => XS.ishl X1012.here hx rfl (hb hby d2_22) rfl k) ?_
  show OEnds p.tables e below G (T1012.setTop (mkF m 23 #[.val (.ref a1), .val (.int (4 : Int32))] [(.int ((4 : Int32) <<< ((2 : Int32) &&& 31))), (.ref a1)]))
  rw [show ((4 : Int32) <<< ((2 : Int32) &&& 31)) = (16 : Int32) from by decide]
  show OEnds p.tables e below G (T1012.setTop (mkF m 23 #[.val (.ref a1), .val (.int (4 : Int32))] [(.int (16 : Int32)), (.ref a1)]))
  obtain ⟨T1013, h1013, k1013, X1013, e1013, E1013, A1013, st1013⟩ := newP X1012 hx hZ (hw _ (List.mem_of_getElem? (i := 29) rfl)) e1012 (g := (mkF m 23 #[.val (.ref a1), .val (.int (4 : Int32))] [(.int (16 : Int32)), (.ref a1)])) rfl (hb hby d2_23) rfl (by decide) (cap := 16) (by decide) (by decide) (by decide) (by decide)
  obtain ⟨b1013, g1013⟩ : ∃ z, z = h1003.size := ⟨_, rfl⟩
  rw [← g1013] at A1013 st1013
  refine OEnds.st st1013 ?_
  clear st1013
  have ne1014 : a1 ≠ b1013 := Nat.ne_of_lt (Nat.lt_of_lt_of_le (f1005).lt (Nat.le_of_eq g1013.symm))
  have ge_b1013 : n0 ≤ b1013 := Nat.le_trans Z1003 (Nat.le_of_eq g1013.symm)
  have sz_b1013 : h0.size ≤ b1013 := Nat.le_trans KK1003.1 (Nat.le_of_eq g1013.symm)
  have f1015 : Exa Z h1013 a1 "com/example/clearingd/clearingd/store/PositionSet" := f1005.ext E1013
  have f1016 : Fld Z h1013 a1 "com/example/clearingd/clearingd/store/PositionSet" "slots" "[J" .null := f1006.ext E1013
  have f1017 : Fld Z h1013 a1 "com/example/clearingd/clearingd/store/PositionSet" "taken" "[I" .null := f1007.ext E1013
  have f1018 : Fld Z h1013 a1 "com/example/clearingd/clearingd/store/PositionSet" "size" "I" (.int (0 : Int32)) := f1009.ext E1013
  have f1019 : Fld Z h1013 a1 "com/example/clearingd/clearingd/store/PositionSet" "overflowed" "Z" (.int (0 : Int32)) := f1010.ext E1013
  have f1020 : Fld Z h1013 a1 "com/example/clearingd/clearingd/store/PositionSet" "capacity" "I" (.int (4 : Int32)) := f1004.ext E1013
  have KK1013 : Keep h0 h1013 [a1] := KK1003.ext E1013
  have Z1013 := Nat.le_trans Z1003 E1013.1
  have f1021 : Arv Z h1013 b1013 k1013 .long (16 : Int32) [(.long (0 : Int64)), (.long (0 : Int64)), (.long (0 : Int64)), (.long (0 : Int64)), (.long (0 : Int64)), (.long (0 : Int64)), (.long (0 : Int64)), (.long (0 : Int64)), (.long (0 : Int64)), (.long (0 : Int64)), (.long (0 : Int64)), (.long (0 : Int64)), (.long (0 : Int64)), (.long (0 : Int64)), (.long (0 : Int64)), (.long (0 : Int64))] (.long (0 : Int64)) := (Arv.new A1013 (by decide)).pad (pad_rep [] (.long (0 : Int64)) 16)
  show OEnds p.tables e below G (T1013.setTop (mkF m 25 #[.val (.ref a1), .val (.int (4 : Int32))] [(.ref b1013), (.ref a1)]))
  obtain ⟨T1022, h1022, X1022, e1022, W1022, st1022⟩ := putF X1013 hx hZ hown (host := "") (Or.inl (hw _ (List.mem_of_getElem? (i := 30) rfl))) Via.refl e1013 f1016 f1015 (Or.inr ⟨(hw _ (List.mem_of_getElem? (i := 31) rfl)), rfl, hnm⟩) (hw _ (List.mem_of_getElem? (i := 6) rfl)) (ty := (.array .long)) (by decide) rfl rfl (g := (mkF m 25 #[.val (.ref a1), .val (.int (4 : Int32))] [(.ref b1013), (.ref a1)])) rfl rfl (hb hby d2_25)
  refine OEnds.st st1022 ?_
  clear st1022
  have f1023 : Fld Z h1022 a1 "com/example/clearingd/clearingd/store/PositionSet" "slots" "[J" (.ref b1013) := f1016.same W1022
  have f1024 : Exa Z h1022 a1 "com/example/clearingd/clearingd/store/PositionSet" := f1015.wr W1022
  have f1026 : Fld Z h1022 a1 "com/example/clearingd/clearingd/store/PositionSet" "taken" "[I" .null := f1017.other W1022 (Or.inr (slot_ne (Or.inr (hw _ (List.mem_of_getElem? (i := 34) rfl))) (Or.inr (hw _ (List.mem_of_getElem? (i := 31) rfl))) (by decide) (t := (.array .int)) (t' := (.array .long)) (by decide) (by decide)))
  have f1027 : Fld Z h1022 a1 "com/example/clearingd/clearingd/store/PositionSet" "size" "I" (.int (0 : Int32)) := f1018.other W1022 (Or.inr (slot_ne (Or.inl (hw _ (List.mem_of_getElem? (i := 46) rfl))) (Or.inr (hw _ (List.mem_of_getElem? (i := 31) rfl))) (by decide) (t := .int) (t' := (.array .long)) (by decide) (by decide)))
  have f1028 : Fld Z h1022 a1 "com/example/clearingd/clearingd/store/PositionSet" "overflowed" "Z" (.int (0 : Int32)) := f1019.other W1022 (Or.inr (slot_ne (Or.inl (hw _ (List.mem_of_getElem? (i := 48) rfl))) (Or.inr (hw _ (List.mem_of_getElem? (i := 31) rfl))) (by decide) (t := .boolean) (t' := (.array .long)) (by decide) (by decide)))
  have f1029 : Fld Z h1022 a1 "com/example/clearingd/clearingd/store/PositionSet" "capacity" "I" (.int (4 : Int32)) := f1020.other W1022 (Or.inr (slot_ne (Or.inr (hw _ (List.mem_of_getElem? (i := 19) rfl))) (Or.inr (hw _ (List.mem_of_getElem? (i := 31) rfl))) (by decide) (t := .int) (t' := (.array .long)) (by decide) (by decide)))
  have f1030 : Arv Z h1022 b1013 k1013 .long (16 : Int32) [(.long (0 : Int64)), (.long (0 : Int64)), (.long (0 : Int64)), (.long (0 : Int64)), (.long (0 : Int64)), (.long (0 : Int64)), (.long (0 : Int64)), (.long (0 : Int64)), (.long (0 : Int64)), (.long (0 : Int64)), (.long (0 : Int64)), (.long (0 : Int64)), (.long (0 : Int64)), (.long (0 : Int64)), (.long (0 : Int64)), (.long (0 : Int64))] (.long (0 : Int64)) := f1021.other W1022 (Ne.symm ne1014)
  have N1022 := Fr.snoc X1022 N1012 g_a1
  have KK1022 : Keep h0 h1022 [a1] := KK1013.wr W1022 (Or.inl (List.mem_of_getElem? (i := 0) rfl))
  have Z1022 := Nat.le_trans Z1013 (Keep.of_wr W1022).1
  show OEnds p.tables e below G (T1022.setTop (mkF m 28 #[.val (.ref a1), .val (.int (4 : Int32))] []))
  refine OEnds.st (fun _ k => XS.aloadN X1022.here hx rfl (hb hby d2_28) rfl rfl k) ?_
  show OEnds p.tables e below G (T1022.setTop (mkF m 29 #[.val (.ref a1), .val (.int (4 : Int32))] [(.ref a1)]))
  refine OEnds.st (fun _ k => XS.aloadN X1022.here hx rfl (hb hby d2_29) rfl rfl k) ?_
  show OEnds p.tables e below G (T1022.setTop (mkF m 30 #[.val (.ref a1), .val (.int (4 : Int32))] [(.ref a1), (.ref a1)]))
  obtain ⟨T1031, X1031, e1031, st1031⟩ := getF X1022 hx hZ hown (host := "") (Or.inl (hw _ (List.mem_of_getElem? (i := 18) rfl))) Via.refl e1022 f1029 (g := (mkF m 30 #[.val (.ref a1), .val (.int (4 : Int32))] [(.ref a1), (.ref a1)])) rfl rfl (hb hby d2_30)
  refine OEnds.st st1031 ?_
  clear st1031
  show OEnds p.tables e below G (T1031.setTop (mkF m 33 #[.val (.ref a1), .val (.int (4 : Int32))] [(.int (4 : Int32)), (.ref a1)]))
  obtain ⟨T1032, h1032, k1032, X1032, e1032, E1032, A1032, st1032⟩ := newP X1031 hx hZ (hw _ (List.mem_of_getElem? (i := 32) rfl)) e1031 (g := (mkF m 33 #[.val (.ref a1), .val (.int (4 : Int32))] [(.int (4 : Int32)), (.ref a1)])) rfl (hb hby d2_33) rfl (by decide) (cap := 4) (by decide) (by decide) (by decide) (by decide)
  obtain ⟨b1032, g1032⟩ : ∃ z, z = h1022.size := ⟨_, rfl⟩
  rw [← g1032] at A1032 st1032
  refine OEnds.st st1032 ?_
  clear st1032
  have ne1033 : a1 ≠ b1032 := Nat.ne_of_lt (Nat.lt_of_lt_of_le (f1024).lt (Nat.le_of_eq g1032.symm))
  have ne1034 : b1013 ≠ b1032 := Nat.ne_of_lt (Nat.lt_of_lt_of_le (f1030).lt (Nat.le_of_eq g1032.symm))
  have ge_b1032 : n0 ≤ b1032 := Nat.le_trans Z1022 (Nat.le_of_eq g1032.symm)
  have sz_b1032 : h0.size ≤ b1032 := Nat.le_trans KK1022.1 (Nat.le_of_eq g1032.symm)
  have f1035 : Exa Z h1032 a1 "com/example/clearingd/clearingd/store/PositionSet" := f1024.ext E1032
  have f1036 : Fld Z h1032 a1 "com/example/clearingd/clearingd/store/PositionSet" "taken" "[I" .null := f1026.ext E1032
  have f1037 : Fld Z h1032 a1 "com/example/clearingd/clearingd/store/PositionSet" "size" "I" (.int (0 : Int32)) := f1027.ext E1032
  have f1038 : Fld Z h1032 a1 "com/example/clearingd/clearingd/store/PositionSet" "overflowed" "Z" (.int (0 : Int32)) := f1028.ext E1032
  have f1039 : Fld Z h1032 a1 "com/example/clearingd/clearingd/store/PositionSet" "capacity" "I" (.int (4 : Int32)) := f1029.ext E1032
  have f1040 : Arv Z h1032 b1013 k1013 .long (16 : Int32) [(.long (0 : Int64)), (.long (0 : Int64)), (.long (0 : Int64)), (.long (0 : Int64)), (.long (0 : Int64)), (.long (0 : Int64)), (.long (0 : Int64)), (.long (0 : Int64)), (.long (0 : Int64)), (.long (0 : Int64)), (.long (0 : Int64)), (.long (0 : Int64)), (.long (0 : Int64)), (.long (0 : Int64)), (.long (0 : Int64)), (.long (0 : Int64))] (.long (0 : Int64)) := f1030.ext E1032
  have f1041 : Fld Z h1032 a1 "com/example/clearingd/clearingd/store/PositionSet" "slots" "[J" (.ref b1013) := f1023.ext E1032
  have KK1032 : Keep h0 h1032 [a1] := KK1022.ext E1032
  have Z1032 := Nat.le_trans Z1022 E1032.1
  have f1042 : Arv Z h1032 b1032 k1032 .int (4 : Int32) [(.int (0 : Int32)), (.int (0 : Int32)), (.int (0 : Int32)), (.int (0 : Int32))] (.int (0 : Int32)) := (Arv.new A1032 (by decide)).pad (pad_rep [] (.int (0 : Int32)) 4)
  show OEnds p.tables e below G (T1032.setTop (mkF m 35 #[.val (.ref a1), .val (.int (4 : Int32))] [(.ref b1032), (.ref a1)]))
  obtain ⟨T1043, h1043, X1043, e1043, W1043, st1043⟩ := putF X1032 hx hZ hown (host := "") (Or.inl (hw _ (List.mem_of_getElem? (i := 33) rfl))) Via.refl e1032 f1036 f1035 (Or.inr ⟨(hw _ (List.mem_of_getElem? (i := 34) rfl)), rfl, hnm⟩) (hw _ (List.mem_of_getElem? (i := 6) rfl)) (ty := (.array .int)) (by decide) rfl rfl (g := (mkF m 35 #[.val (.ref a1), .val (.int (4 : Int32))] [(.ref b1032), (.ref a1)])) rfl rfl (hb hby d2_35)
  refine OEnds.st st1043 ?_
  clear st1043
  have f1044 : Fld Z h1043 a1 "com/example/clearingd/clearingd/store/PositionSet" "taken" "[I" (.ref b1032) := f1036.same W1043
  have f1045 : Exa Z h1043 a1 "com/example/clearingd/clearingd/store/PositionSet" := f1035.wr W1043
  have f1047 : Fld Z h1043 a1 "com/example/clearingd/clearingd/store/PositionSet" "size" "I" (.int (0 : Int32)) := f1037.other W1043 (Or.inr (slot_ne (Or.inl (hw _ (List.mem_of_getElem? (i := 46) rfl))) (Or.inr (hw _ (List.mem_of_getElem? (i := 34) rfl))) (by decide) (t := .int) (t' := (.array .int)) (by decide) (by decide)))
  have f1048 : Fld Z h1043 a1 "com/example/clearingd/clearingd/store/PositionSet" "overflowed" "Z" (.int (0 : Int32)) := f1038.other W1043 (Or.inr (slot_ne (Or.inl (hw _ (List.mem_of_getElem? (i := 48) rfl))) (Or.inr (hw _ (List.mem_of_getElem? (i := 34) rfl))) (by decide) (t := .boolean) (t' := (.array .int)) (by decide) (by decide)))
  have f1049 : Fld Z h1043 a1 "com/example/clearingd/clearingd/store/PositionSet" "capacity" "I" (.int (4 : Int32)) := f1039.other W1043 (Or.inr (slot_ne (Or.inr (hw _ (List.mem_of_getElem? (i := 19) rfl))) (Or.inr (hw _ (List.mem_of_getElem? (i := 34) rfl))) (by decide) (t := .int) (t' := (.array .int)) (by decide) (by decide)))
  have f1050 : Arv Z h1043 b1013 k1013 .long (16 : Int32) [(.long (0 : Int64)), (.long (0 : Int64)), (.long (0 : Int64)), (.long (0 : Int64)), (.long (0 : Int64)), (.long (0 : Int64)), (.long (0 : Int64)), (.long (0 : Int64)), (.long (0 : Int64)), (.long (0 : Int64)), (.long (0 : Int64)), (.long (0 : Int64)), (.long (0 : Int64)), (.long (0 : Int64)), (.long (0 : Int64)), (.long (0 : Int64))] (.long (0 : Int64)) := f1040.other W1043 (Ne.symm ne1014)
  have f1051 : Fld Z h1043 a1 "com/example/clearingd/clearingd/store/PositionSet" "slots" "[J" (.ref b1013) := f1041.other W1043 (Or.inr (slot_ne (Or.inr (hw _ (List.mem_of_getElem? (i := 31) rfl))) (Or.inr (hw _ (List.mem_of_getElem? (i := 34) rfl))) (by decide) (t := (.array .long)) (t' := (.array .int)) (by decide) (by decide)))
  have f1052 : Arv Z h1043 b1032 k1032 .int (4 : Int32) [(.int (0 : Int32)), (.int (0 : Int32)), (.int (0 : Int32)), (.int (0 : Int32))] (.int (0 : Int32)) := f1042.other W1043 (Ne.symm ne1033)
  have N1043 := Fr.snoc X1043 N1022 g_a1
  have KK1043 : Keep h0 h1043 [a1] := KK1032.wr W1043 (Or.inl (List.mem_of_getElem? (i := 0) rfl))
  have Z1043 := Nat.le_trans Z1032 (Keep.of_wr W1043).1
  show OEnds p.tables e below G (T1043.setTop (mkF m 38 #[.val (.ref a1), .val (.int (4 : Int32))] []))
  refine OEnds.st (fun _ k => XS.aloadN X1043.here hx rfl (hb hby d2_38) rfl rfl k) ?_
  show OEnds p.tables e below G (T1043.setTop (mkF m 39 #[.val (.ref a1), .val (.int (4 : Int32))] [(.ref a1)]))
  obtain ⟨T1053, X1053, e1053, st1053⟩ := getF X1043 hx hZ hown (host := "") (Or.inl (hw _ (List.mem_of_getElem? (i := 30) rfl))) Via.refl e1043 f1051 (g := (mkF m 39 #[.val (.ref a1), .val (.int (4 : Int32))] [(.ref a1)])) rfl rfl (hb hby d2_39)
  refine OEnds.st st1053 ?_
  clear st1053
  show OEnds p.tables e below G (T1053.setTop (mkF m 42 #[.val (.ref a1), .val (.int (4 : Int32))] [(.ref b1013)]))
  refine OEnds.st (X1053.ldc2Long hx hown (mvT hZ (hw _ (List.mem_of_getElem? (i := 35) rfl))) (g := (mkF m 42 #[.val (.ref a1), .val (.int (4 : Int32))] [(.ref b1013)])) rfl (hb hby d2_42)) ?_
  have fo1054 : Arv Z h1043 b1013 k1013 .long (16 : Int32) (own_T 16 own_O) (.long (0 : Int64)) := f1050
  show OEnds p.tables e below G (T1053.setTop (mkF m 45 #[.val (.ref a1), .val (.int (4 : Int32))] [(.long (-1 : Int64)), (.ref b1013)]))
  obtain ⟨_, _, ⟨T1055, L1055, k1055c, n1055c⟩, -, X1055, ⟨Lc1055, hQ1055, l1055, y1055, z1055⟩, st1055⟩ := Jvm.LawKit.callS X1053 hx (y := (⟨"java/util/Arrays", "fill", "([JJ)V"⟩ : MethodName)) hown (mvT hZ (hw _ (List.mem_of_getElem? (i := 36) rfl))) (mvT hZ (hw _ (List.mem_of_getElem? (i := 37) rfl))) (mvT hZ (hw _ (List.mem_of_getElem? (i := 38) rfl))) (mvT hZ (hw _ (List.mem_of_getElem? (i := 39) rfl))) (by decide) (backOf (W := 0) (rm7 l Z a0 hw [] b1013 k1013 (16 : Int32) 16 own_O h1043 n0 Z1043 fo1054 ge_b1013 rfl (by decide)) hZ (hw _ (List.mem_of_getElem? (i := 39) rfl)) (hw _ (List.mem_of_getElem? (i := 38) rfl)) (by decide) (by decide)) (g := (mkF m 45 #[.val (.ref a1), .val (.int (4 : Int32))] [(.long (-1 : Int64)), (.ref b1013)])) rfl (by rw [hml]; rfl) (argsL := [(.ref b1013), (.long (-1 : Int64))]) (rest := []) (lenOf pd_2 rfl) rfl (by show 2 * 0 + _ ≤ _; exact Nat.le_of_eq rfl) (hb hby d2_45) (fun _ _ => ⟨rfl, e1053, (by decide : 0 + 0 + 0 + 1 + 1 + 0 ≤ _), (by decide : 0 + 0 + 0 + 16 + 4 + 0 ≤ _)⟩)
  dsimp only [Pt.U, Pt.locs, Pt.cells, Pt.slots] at X1055 l1055 y1055 z1055 st1055 hQ1055
  subst l1055 y1055 z1055
  obtain ⟨rfl, N1055q, p1056, p1057⟩ := hQ1055
  have N1055 := Fr.app N1043 N1055q
  refine OEnds.st st1055 ?_
  clear st1055
  have f1058 : Exa Z T1055.heap a1 "com/example/clearingd/clearingd/store/PositionSet" := f1045.keep p1056
  have f1059 : Fld Z T1055.heap a1 "com/example/clearingd/clearingd/store/PositionSet" "size" "I" (.int (0 : Int32)) := f1047.keep p1056 (by simp only [List.mem_cons, List.not_mem_nil, or_false, not_or]; exact ne1014)
  have f1060 : Fld Z T1055.heap a1 "com/example/clearingd/clearingd/store/PositionSet" "overflowed" "Z" (.int (0 : Int32)) := f1048.keep p1056 (by simp only [List.mem_cons, List.not_mem_nil, or_false, not_or]; exact ne1014)
  have f1061 : Fld Z T1055.heap a1 "com/example/clearingd/clearingd/store/PositionSet" "capacity" "I" (.int (4 : Int32)) := f1049.keep p1056 (by simp only [List.mem_cons, List.not_mem_nil, or_false, not_or]; exact ne1014)
  have f1063 : Fld Z T1055.heap a1 "com/example/clearingd/clearingd/store/PositionSet" "slots" "[J" (.ref b1013) := f1051.keep p1056 (by simp only [List.mem_cons, List.not_mem_nil, or_false, not_or]; exact ne1014)
  have f1064 : Arv Z T1055.heap b1032 k1032 .int (4 : Int32) [(.int (0 : Int32)), (.int (0 : Int32)), (.int (0 : Int32)), (.int (0 : Int32))] (.int (0 : Int32)) := f1052.keep p1056 (by simp only [List.mem_cons, List.not_mem_nil, or_false, not_or]; exact (Ne.symm ne1034))
  have f1065 : Fld Z T1055.heap a1 "com/example/clearingd/clearingd/store/PositionSet" "taken" "[I" (.ref b1032) := f1044.keep p1056 (by simp only [List.mem_cons, List.not_mem_nil, or_false, not_or]; exact ne1014)
  have KK1055 : Keep h0 T1055.heap [a1] := KK1043.trans p1056 (fun x hx => by cases List.mem_singleton.mp hx; exact Or.inr sz_b1013)
  have Z1055 := Nat.le_trans Z1043 p1056.1
  show OEnds p.tables e below G (T1055.setTop (mkF m 48 #[.val (.ref a1), .val (.int (4 : Int32))] []))
  rw [← hG]
  refine OEnds.retV X1055 hx hlk Bd.returns (hb hby d2_48) (by decide) (by decide) ?_
  show _
  exact ⟨b1013, b1032, k1013, k1032, rfl, N1055, KK1055, sz_b1013, sz_b1032, ne1034, f1058, f1063, f1065, f1061, f1059, f1060, p1057, f1064⟩
theorem ef_15 (m : MethodId) (ps : Addr) (q2 : Int64) : entryFrame m #[(.ref ps), (.long q2)] 5 = mkF m 0 #[.val (.ref ps), .val (.long q2), .second, .unset, .unset] [] := by first | (simp [entryFrame, mkF, argsToLocals, Value.category]; done) | rfl
def Q15 (Z : State) (ps : Addr) (q2 : Int64) (sa : Addr) (ta : Addr) (ks : ClassId) (kt : ClassId) (z : Int32) (M : Nat) (cz : Int32) (C : Nat) (f : Nat → Int64) (g : Nat → Int32) (nn : Int32) (ov : Int32) (h0 : Heap) (n0 : Nat) (v : Option Value) (h : Heap) (L : List Loc) : Prop := ∃ (f1 : Nat → Int64) (g1 : Nat → Int32) (m1 : Int32) (o1 : Int32), v = none ∧ Fr n0 L ∧ Keep h0 h [ps, sa, ta] ∧ Exa Z h ps "com/example/clearingd/clearingd/store/PositionSet" ∧ Fld Z h ps "com/example/clearingd/clearingd/store/PositionSet" "slots" "[J" (.ref sa) ∧ Fld Z h ps "com/example/clearingd/clearingd/store/PositionSet" "taken" "[I" (.ref ta) ∧ Fld Z h ps "com/example/clearingd/clearingd/store/PositionSet" "capacity" "I" (.int cz) ∧ Fld Z h ps "com/example/clearingd/clearingd/store/PositionSet" "size" "I" (.int m1) ∧ Fld Z h ps "com/example/clearingd/clearingd/store/PositionSet" "overflowed" "Z" (.int o1) ∧ Arv Z h sa ks .long z (own_T M f1) (.long (0 : Int64)) ∧ Arv Z h ta kt .int cz (own_G C g1) (.int (0 : Int32)) ∧ own_Step M cz f g nn ov q2 ((own_hash (0 : Int64) q2).toInt32 &&& (z - (1 : Int32))).toNatClampNeg f1 g1 m1 o1
theorem pd_3 : parseMethodDescriptor "(JJ)J" = some ⟨[.long, .long], some .long⟩ := by decide +kernel
theorem d15_0 : decode prog_44_method_2_code 0 = .ok (.aload_n 0, 1) := by decide +kernel
theorem d15_1 : decode prog_44_method_2_code 1 = .ok (.getfield 25, 3) := by decide +kernel
theorem d15_4 : decode prog_44_method_2_code 4 = .ok (.arraylength, 1) := by decide +kernel
theorem d15_5 : decode prog_44_method_2_code 5 = .ok (.iconst 1, 1) := by decide +kernel
theorem d15_6 : decode prog_44_method_2_code 6 = .ok (.isub, 1) := by decide +kernel
theorem d15_7 : decode prog_44_method_2_code 7 = .ok (.istore_n 3, 1) := by decide +kernel
theorem d15_8 : decode prog_44_method_2_code 8 = .ok (.lconst 0, 1) := by decide +kernel
theorem d15_9 : decode prog_44_method_2_code 9 = .ok (.lload_n 1, 1) := by decide +kernel
theorem d15_10 : decode prog_44_method_2_code 10 = .ok (.invokestatic 41, 3) := by decide +kernel
theorem d15_13 : decode prog_44_method_2_code 13 = .ok (.l2i, 1) := by decide +kernel
theorem d15_14 : decode prog_44_method_2_code 14 = .ok (.iload_n 3, 1) := by decide +kernel
theorem d15_15 : decode prog_44_method_2_code 15 = .ok (.iand, 1) := by decide +kernel
theorem d15_16 : decode prog_44_method_2_code 16 = .ok (.istore 4, 2) := by decide +kernel
theorem d15_18 : decode prog_44_method_2_code 18 = .ok (.aload_n 0, 1) := by decide +kernel
theorem d15_19 : decode prog_44_method_2_code 19 = .ok (.getfield 25, 3) := by decide +kernel
theorem d15_22 : decode prog_44_method_2_code 22 = .ok (.iload 4, 2) := by decide +kernel
theorem d15_24 : decode prog_44_method_2_code 24 = .ok (.laload, 1) := by decide +kernel
theorem d15_25 : decode prog_44_method_2_code 25 = .ok (.ldc2_w 33, 3) := by decide +kernel
theorem d15_28 : decode prog_44_method_2_code 28 = .ok (.lcmp, 1) := by decide +kernel
theorem d15_29 : decode prog_44_method_2_code 29 = .ok (.ifCond .eq 26, 3) := by decide +kernel
theorem d15_32 : decode prog_44_method_2_code 32 = .ok (.aload_n 0, 1) := by decide +kernel
theorem d15_33 : decode prog_44_method_2_code 33 = .ok (.getfield 25, 3) := by decide +kernel
theorem d15_36 : decode prog_44_method_2_code 36 = .ok (.iload 4, 2) := by decide +kernel
theorem d15_38 : decode prog_44_method_2_code 38 = .ok (.laload, 1) := by decide +kernel
theorem d15_39 : decode prog_44_method_2_code 39 = .ok (.lload_n 1, 1) := by decide +kernel
theorem d15_40 : decode prog_44_method_2_code 40 = .ok (.lcmp, 1) := by decide +kernel
theorem d15_41 : decode prog_44_method_2_code 41 = .ok (.ifCond .eq 14, 3) := by decide +kernel
theorem d15_44 : decode prog_44_method_2_code 44 = .ok (.iload 4, 2) := by decide +kernel
theorem d15_46 : decode prog_44_method_2_code 46 = .ok (.iconst 1, 1) := by decide +kernel
theorem d15_47 : decode prog_44_method_2_code 47 = .ok (.iadd, 1) := by decide +kernel
theorem d15_48 : decode prog_44_method_2_code 48 = .ok (.iload_n 3, 1) := by decide +kernel
theorem d15_49 : decode prog_44_method_2_code 49 = .ok (.iand, 1) := by decide +kernel
theorem d15_50 : decode prog_44_method_2_code 50 = .ok (.istore 4, 2) := by decide +kernel
theorem d15_52 : decode prog_44_method_2_code 52 = .ok (.goto (-34), 3) := by decide +kernel
theorem d15_55 : decode prog_44_method_2_code 55 = .ok (.aload_n 0, 1) := by decide +kernel
theorem d15_56 : decode prog_44_method_2_code 56 = .ok (.getfield 25, 3) := by decide +kernel
theorem d15_59 : decode prog_44_method_2_code 59 = .ok (.iload 4, 2) := by decide +kernel
theorem d15_61 : decode prog_44_method_2_code 61 = .ok (.laload, 1) := by decide +kernel
theorem d15_62 : decode prog_44_method_2_code 62 = .ok (.ldc2_w 33, 3) := by decide +kernel
theorem d15_65 : decode prog_44_method_2_code 65 = .ok (.lcmp, 1) := by decide +kernel
theorem d15_66 : decode prog_44_method_2_code 66 = .ok (.ifCond .ne 48, 3) := by decide +kernel
theorem d15_69 : decode prog_44_method_2_code 69 = .ok (.aload_n 0, 1) := by decide +kernel
theorem d15_70 : decode prog_44_method_2_code 70 = .ok (.getfield 47, 3) := by decide +kernel
theorem d15_73 : decode prog_44_method_2_code 73 = .ok (.aload_n 0, 1) := by decide +kernel
theorem d15_74 : decode prog_44_method_2_code 74 = .ok (.getfield 13, 3) := by decide +kernel
theorem d15_77 : decode prog_44_method_2_code 77 = .ok (.if_icmp .ne 11, 3) := by decide +kernel
theorem d15_80 : decode prog_44_method_2_code 80 = .ok (.aload_n 0, 1) := by decide +kernel
theorem d15_81 : decode prog_44_method_2_code 81 = .ok (.iconst 1, 1) := by decide +kernel
theorem d15_82 : decode prog_44_method_2_code 82 = .ok (.putfield 50, 3) := by decide +kernel
theorem d15_85 : decode prog_44_method_2_code 85 = .ok (.goto 29, 3) := by decide +kernel
theorem d15_88 : decode prog_44_method_2_code 88 = .ok (.aload_n 0, 1) := by decide +kernel
theorem d15_89 : decode prog_44_method_2_code 89 = .ok (.getfield 25, 3) := by decide +kernel
theorem d15_92 : decode prog_44_method_2_code 92 = .ok (.iload 4, 2) := by decide +kernel
theorem d15_94 : decode prog_44_method_2_code 94 = .ok (.lload_n 1, 1) := by decide +kernel
theorem d15_95 : decode prog_44_method_2_code 95 = .ok (.lastore, 1) := by decide +kernel
theorem d15_96 : decode prog_44_method_2_code 96 = .ok (.aload_n 0, 1) := by decide +kernel
theorem d15_97 : decode prog_44_method_2_code 97 = .ok (.getfield 29, 3) := by decide +kernel
theorem d15_100 : decode prog_44_method_2_code 100 = .ok (.aload_n 0, 1) := by decide +kernel
theorem d15_101 : decode prog_44_method_2_code 101 = .ok (.dup, 1) := by decide +kernel
theorem d15_102 : decode prog_44_method_2_code 102 = .ok (.getfield 47, 3) := by decide +kernel
theorem d15_105 : decode prog_44_method_2_code 105 = .ok (.dup_x1, 1) := by decide +kernel
theorem d15_106 : decode prog_44_method_2_code 106 = .ok (.iconst 1, 1) := by decide +kernel
theorem d15_107 : decode prog_44_method_2_code 107 = .ok (.iadd, 1) := by decide +kernel
theorem d15_108 : decode prog_44_method_2_code 108 = .ok (.putfield 47, 3) := by decide +kernel
theorem d15_111 : decode prog_44_method_2_code 111 = .ok (.iload 4, 2) := by decide +kernel
theorem d15_113 : decode prog_44_method_2_code 113 = .ok (.iastore, 1) := by decide +kernel
theorem d15_114 : decode prog_44_method_2_code 114 = .ok (.return_, 1) := by decide +kernel
set_option maxRecDepth 65536 in
set_option maxHeartbeats 40000000 in
theorem rm15 (l : Launch) (Z : State) (a0 : Array Value) (hw : ∀ d ∈ tables_1, d.before a0 Z = true) (ws : List Jvm.Cond) (ps : Addr) (q2 : Int64) (sa : Addr) (ta : Addr) (ks : ClassId) (kt : ClassId) (z : Int32) (M : Nat) (cz : Int32) (C : Nat) (f : Nat → Int64) (g : Nat → Int32) (nn : Int32) (ov : Int32) (h0 : Heap) (n0 : Nat) (Z0 : n0 ≤ h0.size) (E : Exa Z h0 ps "com/example/clearingd/clearingd/store/PositionSet") (Fslots : Fld Z h0 ps "com/example/clearingd/clearingd/store/PositionSet" "slots" "[J" (.ref sa)) (Ftaken : Fld Z h0 ps "com/example/clearingd/clearingd/store/PositionSet" "taken" "[I" (.ref ta)) (Fcapacity : Fld Z h0 ps "com/example/clearingd/clearingd/store/PositionSet" "capacity" "I" (.int cz)) (Fsize : Fld Z h0 ps "com/example/clearingd/clearingd/store/PositionSet" "size" "I" (.int nn)) (Foverflowed : Fld Z h0 ps "com/example/clearingd/clearingd/store/PositionSet" "overflowed" "Z" (.int ov)) (VS : Arv Z h0 sa ks .long z (own_T M f) (.long (0 : Int64))) (VT : Arv Z h0 ta kt .int cz (own_G C g) (.int (0 : Int32))) (g_ps : n0 ≤ ps) (g_sa : n0 ≤ sa) (g_ta : n0 ≤ ta) (n1 : sa ≠ ps) (n2 : ta ≠ ps) (n3 : sa ≠ ta) (hz : z.toInt = (M : Int)) (hM : 4 ≤ M ∧ M ≤ 16) (hmk : ∀ x : Int32, (x &&& (z - (1 : Int32))).toInt = x.toInt % (M : Int)) (hcz : cz.toInt = (C : Int)) (hI : own_Inv M f g nn 2 C) :
    MetFree l (⟨"com/example/clearingd/clearingd/store/PositionSet", "add", "(J)V"⟩ : MethodName) (head1 (Jvm.Cond.code (⟨"com/example/clearingd/clearingd/store/PositionSet", "add", "(J)V"⟩ : MethodName) prog_44_method_2_code 5 none :: ws) ({ frames := 1, cells := 0, slots := 0, locals := 17 } : Room)) (fun a U => a = #[(.ref ps), (.long q2)] ∧ Z.Warmed39 U.vm ∧ U.heap = h0) (fun _ _ _ _ _ => True) (fun _ U o U' => ∃ v L, o = .returned v ∧ Q15 Z ps q2 sa ta ks kt z M cz C f g nn ov h0 n0 v U'.heap L ∧ FrameEnd U o U' L ({ frames := 1, cells := 0, slots := 0, locals := 17 } : Room).cells ({ frames := 1, cells := 0, slots := 0, locals := 17 } : Room).slots) := by
  refine MetFree.of_bodySF (plainFor_of_name pn_4) hisR ?_
  intro p e s m args below meth c s₁ Bd hml0 hP hK
  obtain ⟨rfl, hZ, hh⟩ := hP
  have hx := Bd.exec
  have hby := Bd.bytes
  have hml : c.maxLocals = 5 := hml0
  have hown : s.vm.findClass "com/example/clearingd/clearingd/store/PositionSet" = some m.cls := findClass_of_methodNamed Bd.named
  have hnm := (name_of_methodNamed Bd.named Bd.method).1
  have hlk : meth.locks = false := BodyLoose.notSynchronized Bd
  have X0 : Stand p l e ({ frames := 1, cells := 0, slots := 0, locals := 17 } : Room) s m #[(.ref ps), (.long q2)] below meth c s₁ [] 0 0 := Stand.of_body Bd
  have e0 : s₁.heap = h0 := by rw [← hh, Bd.state]; rfl
  have N0 := Fr.nil n0
  show OEnds p.tables e below (OGoal (Q15 Z ps q2 sa ta ks kt z M cz C f g nn ov h0 n0) s 0 0) (s₁.setTop (entryFrame m #[(.ref ps), (.long q2)] 5))
  refine OEnds.st (fun t k => castTop (ef_15 m ps q2) k) ?_
  generalize hG : OGoal (Q15 Z ps q2 sa ta ks kt z M cz C f g nn ov h0 n0) s 0 0 = G
  have KK0 : Keep h0 h0 [ps, sa, ta] := Keep.refl h0 [ps, sa, ta]
  show OEnds p.tables e below G (s₁.setTop (mkF m 0 #[.val (.ref ps), .val (.long q2), .second, .unset, .unset] []))
  refine OEnds.st (fun _ k => XS.aloadN X0.here hx rfl (hb hby d15_0) rfl rfl k) ?_
  show OEnds p.tables e below G (s₁.setTop (mkF m 1 #[.val (.ref ps), .val (.long q2), .second, .unset, .unset] [(.ref ps)]))
  obtain ⟨T1001, X1001, e1001, st1001⟩ := getF X0 hx hZ hown (host := "") (Or.inl (hw _ (List.mem_of_getElem? (i := 30) rfl))) Via.refl e0 Fslots (g := (mkF m 1 #[.val (.ref ps), .val (.long q2), .second, .unset, .unset] [(.ref ps)])) rfl rfl (hb hby d15_1)
  refine OEnds.st st1001 ?_
  clear st1001
  show OEnds p.tables e below G (T1001.setTop (mkF m 4 #[.val (.ref ps), .val (.long q2), .second, .unset, .unset] [(.ref sa)]))
  obtain ⟨cl1002, Ar1002, -, S1002, N1002n, -, -⟩ := id VS
  refine OEnds.st (X1001.arraylength hx (by rw [e1001]; exact Ar1002.1) (State.isArrayOf_alike hZ.alike Ar1002.2.1) (g := (mkF m 4 #[.val (.ref ps), .val (.long q2), .second, .unset, .unset] [(.ref sa)])) rfl rfl (hb hby d15_4)) ?_
  rw [len_of S1002 N1002n]
  show OEnds p.tables e below G (T1001.setTop (mkF m 5 #[.val (.ref ps), .val (.long q2), .second, .unset, .unset] [(.int z)]))
  refine OEnds.st (fun _ k => XS.iconst X1001.here hx rfl (hb hby d15_5) k) ?_
  show OEnds p.tables e below G (T1001.setTop (mkF m 6 #[.val (.ref ps), .val (.long q2), .second, .unset, .unset] [(.int (1 : Int32)), (.int z)]))
  refine OEnds.st (fun _ k => XS.isub X1001.here hx rfl (hb hby d15_6) rfl k) ?_
  show OEnds p.tables e below G (T1001.setTop (mkF m 7 #[.val (.ref ps), .val (.long q2), .second, .unset, .unset] [(.int (z - (1 : Int32)))]))
  refine OEnds.st (fun _ k => XS.istoreN X1001.here hx rfl (hb hby d15_7) rfl (l' := #[.val (.ref ps), .val (.long q2), .second, .val (.int (z - (1 : Int32))), .unset]) rfl k) ?_
  show OEnds p.tables e below G (T1001.setTop (mkF m 8 #[.val (.ref ps), .val (.long q2), .second, .val (.int (z - (1 : Int32))), .unset] []))
  generalize hv_v1003 : (z - (1 : Int32)) = v1003
  show OEnds p.tables e below G (T1001.setTop (mkF m 8 #[.val (.ref ps), .val (.long q2), .second, .val (.int v1003), .unset] []))
  refine OEnds.st (fun _ k => XS.lconst X1001.here hx rfl (hb hby d15_8) k) ?_
  show OEnds p.tables e below G (T1001.setTop (mkF m 9 #[.val (.ref ps), .val (.long q2), .second, .val (.int v1003), .unset] [(.long (0 : Int64))]))
  refine OEnds.st (fun _ k => XS.lloadN X1001.here hx rfl (hb hby d15_9) rfl k) ?_
  show OEnds p.tables e below G (T1001.setTop (mkF m 10 #[.val (.ref ps), .val (.long q2), .second, .val (.int v1003), .unset] [(.long q2), (.long (0 : Int64))]))
  obtain ⟨_, _, ⟨T1004, L1004, k1004c, n1004c⟩, -, X1004, ⟨Lc1004, hQ1004, l1004, y1004, z1004⟩, st1004⟩ := Jvm.LawKit.callS X1001 hx (y := (⟨"com/example/clearingd/clearingd/store/Entries", "hash", "(JJ)J"⟩ : MethodName)) hown (mvT hZ (hw _ (List.mem_of_getElem? (i := 77) rfl))) (mvT hZ (hw _ (List.mem_of_getElem? (i := 78) rfl))) (mvT hZ (hw _ (List.mem_of_getElem? (i := 79) rfl))) (mvT hZ (hw _ (List.mem_of_getElem? (i := 80) rfl))) (by decide) (backOf (W := 0) (rm16 l Z a0 hw [] (0 : Int64) q2 h0 n0 Z0 ) hZ (hw _ (List.mem_of_getElem? (i := 80) rfl)) (hw _ (List.mem_of_getElem? (i := 79) rfl)) (by decide) (by decide)) (g := (mkF m 10 #[.val (.ref ps), .val (.long q2), .second, .val (.int v1003), .unset] [(.long q2), (.long (0 : Int64))])) rfl (by rw [hml]; rfl) (argsL := [(.long (0 : Int64)), (.long q2)]) (rest := []) (lenOf pd_3 rfl) rfl (by show 2 * 0 + _ ≤ _; exact Nat.le_of_eq rfl) (hb hby d15_10) (fun _ _ => ⟨rfl, e1001, (by decide : 0 + 0 ≤ _), (by decide : 0 + 0 ≤ _)⟩)
  dsimp only [Pt.U, Pt.locs, Pt.cells, Pt.slots] at X1004 l1004 y1004 z1004 st1004 hQ1004
  subst l1004 y1004 z1004
  obtain ⟨rfl, N1004q, e1004⟩ := hQ1004
  have N1004 := Fr.app N0 N1004q
  refine OEnds.st st1004 ?_
  clear st1004
  show OEnds p.tables e below G (T1004.setTop (mkF m 13 #[.val (.ref ps), .val (.long q2), .second, .val (.int v1003), .unset] [(.long (own_hash (0 : Int64) q2))]))
  refine OEnds.st (fun _ k => XS.l2i X1004.here hx rfl (hb hby d15_13) rfl k) ?_
  show OEnds p.tables e below G (T1004.setTop (mkF m 14 #[.val (.ref ps), .val (.long q2), .second, .val (.int v1003), .unset] [(.int ((own_hash (0 : Int64) q2).toInt32))]))
  refine OEnds.st (fun _ k => XS.iloadN X1004.here hx rfl (hb hby d15_14) rfl k) ?_
  show OEnds p.tables e below G (T1004.setTop (mkF m 15 #[.val (.ref ps), .val (.long q2), .second, .val (.int v1003), .unset] [(.int v1003), (.int ((own_hash (0 : Int64) q2).toInt32))]))
  refine OEnds.st (fun _ k => XS.iand X1004.here hx rfl (hb hby d15_15) rfl k) ?_
  show OEnds p.tables e below G (T1004.setTop (mkF m 16 #[.val (.ref ps), .val (.long q2), .second, .val (.int v1003), .unset] [(.int (((own_hash (0 : Int64) q2).toInt32) &&& v1003))]))
  refine OEnds.st (fun _ k => XS.istore X1004.here hx rfl (hb hby d15_16) rfl (l' := #[.val (.ref ps), .val (.long q2), .second, .val (.int v1003), .val (.int (((own_hash (0 : Int64) q2).toInt32) &&& v1003))]) rfl k) ?_
  show OEnds p.tables e below G (T1004.setTop (mkF m 18 #[.val (.ref ps), .val (.long q2), .second, .val (.int v1003), .val (.int (((own_hash (0 : Int64) q2).toInt32) &&& v1003))] []))
  generalize hv_v1005 : (((own_hash (0 : Int64) q2).toInt32) &&& v1003) = v1005
  have hst : 0 ≤ v1005.toInt ∧ v1005.toInt < M := by
    rw [← hv_v1005, ← hv_v1003, hmk]
    exact ⟨Int.emod_nonneg _ (by omega), Int.emod_lt_of_pos _ (by omega)⟩
  obtain ⟨em, hem, hfe⟩ := own_empty hI hM.1
  obtain ⟨dd, hdd⟩ := own_dist hM.1 hem hst
  have rest55_1006 : ∀ (T1006 : State) (L1006 : List Loc) (h1006 : Heap) (X1006 : Stand p l e ({ frames := 1, cells := 0, slots := 0, locals := 17 } : Room) s m #[(.ref ps), (.long q2)] below meth c T1006 L1006 0 0) (e1006 : T1006.heap = h1006) (N1006 : Fr n0 L1006) (KK1006 : Keep h0 h1006 [ps, sa, ta]) (Z1006 : n0 ≤ h1006.size) (vv : Int32) (f1007 : Exa Z h1006 ps "com/example/clearingd/clearingd/store/PositionSet") (f1008 : Fld Z h1006 ps "com/example/clearingd/clearingd/store/PositionSet" "slots" "[J" (.ref sa)) (f1009 : Fld Z h1006 ps "com/example/clearingd/clearingd/store/PositionSet" "taken" "[I" (.ref ta)) (f1010 : Fld Z h1006 ps "com/example/clearingd/clearingd/store/PositionSet" "capacity" "I" (.int cz)) (f1011 : Fld Z h1006 ps "com/example/clearingd/clearingd/store/PositionSet" "size" "I" (.int nn)) (f1012 : Fld Z h1006 ps "com/example/clearingd/clearingd/store/PositionSet" "overflowed" "Z" (.int ov)) (f1013 : Arv Z h1006 sa ks .long z (own_T M f) (.long (0 : Int64))) (f1014 : Arv Z h1006 ta kt .int cz (own_G C g) (.int (0 : Int32))) (hvv : 0 ≤ vv.toInt ∧ vv.toInt < M) (hfv : f vv.toNatClampNeg = (-1 : Int64) ∨ f vv.toNatClampNeg = q2) (hsv : (f v1005.toNatClampNeg = (-1 : Int64) ∨ f v1005.toNatClampNeg = q2) → vv.toNatClampNeg = v1005.toNatClampNeg), OEnds p.tables e below G (T1006.setTop (mkF m 55 #[.val (.ref ps), .val (.long q2), .second, .val (.int v1003), .val (.int vv)] [])) := by
    intro T1006 L1006 h1006 X1006 e1006 N1006 KK1006 Z1006 vv f1007 f1008 f1009 f1010 f1011 f1012 f1013 f1014 hvv hfv hsv
    show OEnds p.tables e below G (T1006.setTop (mkF m 55 #[.val (.ref ps), .val (.long q2), .second, .val (.int v1003), .val (.int vv)] []))
    refine OEnds.st (fun _ k => XS.aloadN X1006.here hx rfl (hb hby d15_55) rfl rfl k) ?_
    show OEnds p.tables e below G (T1006.setTop (mkF m 56 #[.val (.ref ps), .val (.long q2), .second, .val (.int v1003), .val (.int vv)] [(.ref ps)]))
    obtain ⟨T1015, X1015, e1015, st1015⟩ := getF X1006 hx hZ hown (host := "") (Or.inl (hw _ (List.mem_of_getElem? (i := 30) rfl))) Via.refl e1006 f1008 (g := (mkF m 56 #[.val (.ref ps), .val (.long q2), .second, .val (.int v1003), .val (.int vv)] [(.ref ps)])) rfl rfl (hb hby d15_56)
    refine OEnds.st st1015 ?_
    clear st1015
    show OEnds p.tables e below G (T1015.setTop (mkF m 59 #[.val (.ref ps), .val (.long q2), .second, .val (.int v1003), .val (.int vv)] [(.ref sa)]))
    refine OEnds.st (fun _ k => XS.iload X1015.here hx rfl (hb hby d15_59) rfl k) ?_
    show OEnds p.tables e below G (T1015.setTop (mkF m 61 #[.val (.ref ps), .val (.long q2), .second, .val (.int v1003), .val (.int vv)] [(.int vv), (.ref sa)]))
    obtain ⟨cl1016, Ar1016, q1016, S1016, N1016n, H1016, G1016⟩ := id f1013
    have hin1016 : ¬ (vv < 0 ∨ cl1016.slots.size ≤ (vv).toNatClampNeg) := inb_of S1016 ⟨own_nl hvv, own_lz hz hvv⟩
    have hat1016 : cl1016.slots[(vv).toNatClampNeg]? = some (.long (f vv.toNatClampNeg)) := H1016.at hin1016 (own_T_get _ (own_jl hvv) _)
    refine OEnds.st (X1015.laload hx (j := vv) (v := (.long (f vv.toNatClampNeg))) (by rw [e1015]; exact Ar1016.1) (State.isArrayOf_alike hZ.alike Ar1016.2.1) Ar1016.2.2 hin1016 hat1016 (g := (mkF m 61 #[.val (.ref ps), .val (.long q2), .second, .val (.int v1003), .val (.int vv)] [(.int vv), (.ref sa)])) rfl rfl (hb hby d15_61)) ?_
    show OEnds p.tables e below G (T1015.setTop (mkF m 62 #[.val (.ref ps), .val (.long q2), .second, .val (.int v1003), .val (.int vv)] [(.long (f vv.toNatClampNeg))]))
    refine OEnds.st (X1015.ldc2Long hx hown (mvT hZ (hw _ (List.mem_of_getElem? (i := 35) rfl))) (g := (mkF m 62 #[.val (.ref ps), .val (.long q2), .second, .val (.int v1003), .val (.int vv)] [(.long (f vv.toNatClampNeg))])) rfl (hb hby d15_62)) ?_
    show OEnds p.tables e below G (T1015.setTop (mkF m 65 #[.val (.ref ps), .val (.long q2), .second, .val (.int v1003), .val (.int vv)] [(.long (-1 : Int64)), (.long (f vv.toNatClampNeg))]))
    refine OEnds.st (fun _ k => XS.lcmp X1015.here hx rfl (hb hby d15_65) rfl k) ?_
    show OEnds p.tables e below G (T1015.setTop (mkF m 66 #[.val (.ref ps), .val (.long q2), .second, .val (.int v1003), .val (.int vv)] [(.int (lcmpW (f vv.toNatClampNeg) (-1 : Int64)))]))
    by_cases hc66_1017 : (f vv.toNatClampNeg) = (-1 : Int64)
    · -- pc 66: yes
      refine OEnds.st (fun _ k => XS.ifNo X1015.here hx rfl (hb hby d15_66) rfl ((if0 _ _).trans (teq ((lw_eq (f vv.toNatClampNeg) (-1 : Int64)).mpr hc66_1017)).2) k) ?_
      show OEnds p.tables e below G (T1015.setTop (mkF m 69 #[.val (.ref ps), .val (.long q2), .second, .val (.int v1003), .val (.int vv)] []))
      refine OEnds.st (fun _ k => XS.aloadN X1015.here hx rfl (hb hby d15_69) rfl rfl k) ?_
      show OEnds p.tables e below G (T1015.setTop (mkF m 70 #[.val (.ref ps), .val (.long q2), .second, .val (.int v1003), .val (.int vv)] [(.ref ps)]))
      obtain ⟨T1018, X1018, e1018, st1018⟩ := getF X1015 hx hZ hown (host := "") (Or.inl (hw _ (List.mem_of_getElem? (i := 45) rfl))) Via.refl e1015 f1011 (g := (mkF m 70 #[.val (.ref ps), .val (.long q2), .second, .val (.int v1003), .val (.int vv)] [(.ref ps)])) rfl rfl (hb hby d15_70)
      refine OEnds.st st1018 ?_
      clear st1018
      show OEnds p.tables e below G (T1018.setTop (mkF m 73 #[.val (.ref ps), .val (.long q2), .second, .val (.int v1003), .val (.int vv)] [(.int nn)]))
      refine OEnds.st (fun _ k => XS.aloadN X1018.here hx rfl (hb hby d15_73) rfl rfl k) ?_
      show OEnds p.tables e below G (T1018.setTop (mkF m 74 #[.val (.ref ps), .val (.long q2), .second, .val (.int v1003), .val (.int vv)] [(.ref ps), (.int nn)]))
      obtain ⟨T1019, X1019, e1019, st1019⟩ := getF X1018 hx hZ hown (host := "") (Or.inl (hw _ (List.mem_of_getElem? (i := 18) rfl))) Via.refl e1018 f1010 (g := (mkF m 74 #[.val (.ref ps), .val (.long q2), .second, .val (.int v1003), .val (.int vv)] [(.ref ps), (.int nn)])) rfl rfl (hb hby d15_74)
      refine OEnds.st st1019 ?_
      clear st1019
      show OEnds p.tables e below G (T1019.setTop (mkF m 77 #[.val (.ref ps), .val (.long q2), .second, .val (.int v1003), .val (.int vv)] [(.int cz), (.int nn)]))
      by_cases hc77_1020 : nn = cz
      · -- pc 77: yes
        refine OEnds.st (fun _ k => XS.icmpNo X1019.here hx rfl (hb hby d15_77) rfl (teq hc77_1020).2 k) ?_
        show OEnds p.tables e below G (T1019.setTop (mkF m 80 #[.val (.ref ps), .val (.long q2), .second, .val (.int v1003), .val (.int vv)] []))
        refine OEnds.st (fun _ k => XS.aloadN X1019.here hx rfl (hb hby d15_80) rfl rfl k) ?_
        show OEnds p.tables e below G (T1019.setTop (mkF m 81 #[.val (.ref ps), .val (.long q2), .second, .val (.int v1003), .val (.int vv)] [(.ref ps)]))
        refine OEnds.st (fun _ k => XS.iconst X1019.here hx rfl (hb hby d15_81) k) ?_
        show OEnds p.tables e below G (T1019.setTop (mkF m 82 #[.val (.ref ps), .val (.long q2), .second, .val (.int v1003), .val (.int vv)] [(.int (1 : Int32)), (.ref ps)]))
        obtain ⟨T1021, h1021, X1021, e1021, W1021, st1021⟩ := putFN X1019 hx hZ hown (hw _ (List.mem_of_getElem? (i := 47) rfl)) Via.refl e1019 f1012 f1007 (Or.inl (hw _ (List.mem_of_getElem? (i := 48) rfl))) (hw _ (List.mem_of_getElem? (i := 6) rfl)) (ty := .boolean) (v' := (.int (1 : Int32))) (by decide) rfl (by decide) (g := (mkF m 82 #[.val (.ref ps), .val (.long q2), .second, .val (.int v1003), .val (.int vv)] [(.int (1 : Int32)), (.ref ps)])) rfl rfl (hb hby d15_82)
        refine OEnds.st st1021 ?_
        clear st1021
        have f1022 : Fld Z h1021 ps "com/example/clearingd/clearingd/store/PositionSet" "overflowed" "Z" (.int (1 : Int32)) := f1012.same W1021
        have f1023 : Exa Z h1021 ps "com/example/clearingd/clearingd/store/PositionSet" := f1007.wr W1021
        have f1024 : Fld Z h1021 ps "com/example/clearingd/clearingd/store/PositionSet" "slots" "[J" (.ref sa) := f1008.other W1021 (Or.inr (slot_ne (Or.inr (hw _ (List.mem_of_getElem? (i := 31) rfl))) (Or.inl (hw _ (List.mem_of_getElem? (i := 48) rfl))) (by decide) (t := (.array .long)) (t' := .boolean) (by decide) (by decide)))
        have f1025 : Fld Z h1021 ps "com/example/clearingd/clearingd/store/PositionSet" "taken" "[I" (.ref ta) := f1009.other W1021 (Or.inr (slot_ne (Or.inr (hw _ (List.mem_of_getElem? (i := 34) rfl))) (Or.inl (hw _ (List.mem_of_getElem? (i := 48) rfl))) (by decide) (t := (.array .int)) (t' := .boolean) (by decide) (by decide)))
        have f1026 : Fld Z h1021 ps "com/example/clearingd/clearingd/store/PositionSet" "capacity" "I" (.int cz) := f1010.other W1021 (Or.inr (slot_ne (Or.inr (hw _ (List.mem_of_getElem? (i := 19) rfl))) (Or.inl (hw _ (List.mem_of_getElem? (i := 48) rfl))) (by decide) (t := .int) (t' := .boolean) (by decide) (by decide)))
        have f1027 : Fld Z h1021 ps "com/example/clearingd/clearingd/store/PositionSet" "size" "I" (.int nn) := f1011.other W1021 (Or.inr (slot_ne (Or.inl (hw _ (List.mem_of_getElem? (i := 46) rfl))) (Or.inl (hw _ (List.mem_of_getElem? (i := 48) rfl))) (by decide) (t := .int) (t' := .boolean) (by decide) (by decide)))
        have f1029 : Arv Z h1021 sa ks .long z (own_T M f) (.long (0 : Int64)) := f1013.other W1021 n1
        have f1030 : Arv Z h1021 ta kt .int cz (own_G C g) (.int (0 : Int32)) := f1014.other W1021 n2
        have N1021 := Fr.snoc X1021 N1006 g_ps
        have KK1021 : Keep h0 h1021 [ps, sa, ta] := KK1006.wr W1021 (Or.inl (List.mem_of_getElem? (i := 0) rfl))
        have Z1021 := Nat.le_trans Z1006 (Keep.of_wr W1021).1
        show OEnds p.tables e below G (T1021.setTop (mkF m 85 #[.val (.ref ps), .val (.long q2), .second, .val (.int v1003), .val (.int vv)] []))
        refine OEnds.st (fun _ k => XS.goto X1021.here hx rfl (pc0 := 85) (pc' := 114) rfl (hb hby d15_85) (by decide) (by decide) k) ?_
        show OEnds p.tables e below G (T1021.setTop (mkF m 114 #[.val (.ref ps), .val (.long q2), .second, .val (.int v1003), .val (.int vv)] []))
        rw [← hG]
        refine OEnds.retV X1021 hx hlk Bd.returns (hb hby d15_114) (by decide) (by decide) ?_
        rw [e1021]
        exact ⟨f, g, nn, (1 : Int32), rfl, N1021, KK1021, f1023, f1024, f1025, f1026, f1027, f1022, f1029, f1030, ⟨vv, hvv, hfv, (by have q := hsv; rw [← hv_v1005, ← hv_v1003] at q; exact q), Or.inr (Or.inl ⟨hc66_1017, hc77_1020, rfl, rfl, rfl, rfl⟩)⟩⟩
      · -- pc 77: no
        refine OEnds.st (fun _ k => XS.icmpYes X1019.here hx rfl (pc0 := 77) (pc' := 88) rfl (hb hby d15_77) rfl (feq hc77_1020).2 (by decide) (by decide) k) ?_
        show OEnds p.tables e below G (T1019.setTop (mkF m 88 #[.val (.ref ps), .val (.long q2), .second, .val (.int v1003), .val (.int vv)] []))
        refine OEnds.st (fun _ k => XS.aloadN X1019.here hx rfl (hb hby d15_88) rfl rfl k) ?_
        show OEnds p.tables e below G (T1019.setTop (mkF m 89 #[.val (.ref ps), .val (.long q2), .second, .val (.int v1003), .val (.int vv)] [(.ref ps)]))
        obtain ⟨T1031, X1031, e1031, st1031⟩ := getF X1019 hx hZ hown (host := "") (Or.inl (hw _ (List.mem_of_getElem? (i := 30) rfl))) Via.refl e1019 f1008 (g := (mkF m 89 #[.val (.ref ps), .val (.long q2), .second, .val (.int v1003), .val (.int vv)] [(.ref ps)])) rfl rfl (hb hby d15_89)
        refine OEnds.st st1031 ?_
        clear st1031
        show OEnds p.tables e below G (T1031.setTop (mkF m 92 #[.val (.ref ps), .val (.long q2), .second, .val (.int v1003), .val (.int vv)] [(.ref sa)]))
        refine OEnds.st (fun _ k => XS.iload X1031.here hx rfl (hb hby d15_92) rfl k) ?_
        show OEnds p.tables e below G (T1031.setTop (mkF m 94 #[.val (.ref ps), .val (.long q2), .second, .val (.int v1003), .val (.int vv)] [(.int vv), (.ref sa)]))
        refine OEnds.st (fun _ k => XS.lloadN X1031.here hx rfl (hb hby d15_94) rfl k) ?_
        show OEnds p.tables e below G (T1031.setTop (mkF m 95 #[.val (.ref ps), .val (.long q2), .second, .val (.int v1003), .val (.int vv)] [(.long q2), (.int vv), (.ref sa)]))
        obtain ⟨cl1032, Ar1032, q1032, S1032, N1032n, H1032, G1032⟩ := id f1013
        have hin1032 : ¬ (vv < 0 ∨ cl1032.slots.size ≤ (vv).toNatClampNeg) := inb_of S1032 ⟨own_nl hvv, own_lz hz hvv⟩
        obtain ⟨T1032, h1032, X1032, e1032, W1032, st1032⟩ := stJ X1031 hx hZ e1031 Ar1032 (j := vv) hin1032 (g := (mkF m 95 #[.val (.ref ps), .val (.long q2), .second, .val (.int v1003), .val (.int vv)] [(.long q2), (.int vv), (.ref sa)])) rfl rfl (hb hby d15_95)
        refine OEnds.st st1032 ?_
        clear st1032
        have f1033 : Arv Z h1032 sa ks .long z ((own_T M f).set vv.toNatClampNeg (.long q2)) (.long (0 : Int64)) := Arv.set Ar1032 q1032 S1032 N1032n H1032 G1032 rfl W1032 vv.toNatClampNeg rfl (own_jT _ hvv)
        have f1034 : Exa Z h1032 ps "com/example/clearingd/clearingd/store/PositionSet" := f1007.wr W1032
        have f1035 : Fld Z h1032 ps "com/example/clearingd/clearingd/store/PositionSet" "slots" "[J" (.ref sa) := f1008.other W1032 (Or.inl (Ne.symm n1))
        have f1036 : Fld Z h1032 ps "com/example/clearingd/clearingd/store/PositionSet" "taken" "[I" (.ref ta) := f1009.other W1032 (Or.inl (Ne.symm n1))
        have f1037 : Fld Z h1032 ps "com/example/clearingd/clearingd/store/PositionSet" "capacity" "I" (.int cz) := f1010.other W1032 (Or.inl (Ne.symm n1))
        have f1038 : Fld Z h1032 ps "com/example/clearingd/clearingd/store/PositionSet" "size" "I" (.int nn) := f1011.other W1032 (Or.inl (Ne.symm n1))
        have f1039 : Fld Z h1032 ps "com/example/clearingd/clearingd/store/PositionSet" "overflowed" "Z" (.int ov) := f1012.other W1032 (Or.inl (Ne.symm n1))
        have f1040 : Arv Z h1032 ta kt .int cz (own_G C g) (.int (0 : Int32)) := f1014.other W1032 (Ne.symm n3)
        have N1032 := Fr.snoc X1032 N1006 g_sa
        have KK1032 : Keep h0 h1032 [ps, sa, ta] := KK1006.wr W1032 (Or.inl (List.mem_of_getElem? (i := 1) rfl))
        have Z1032 := Nat.le_trans Z1006 (Keep.of_wr W1032).1
        show OEnds p.tables e below G (T1032.setTop (mkF m 96 #[.val (.ref ps), .val (.long q2), .second, .val (.int v1003), .val (.int vv)] []))
        refine OEnds.st (fun _ k => XS.aloadN X1032.here hx rfl (hb hby d15_96) rfl rfl k) ?_
        show OEnds p.tables e below G (T1032.setTop (mkF m 97 #[.val (.ref ps), .val (.long q2), .second, .val (.int v1003), .val (.int vv)] [(.ref ps)]))
        obtain ⟨T1041, X1041, e1041, st1041⟩ := getF X1032 hx hZ hown (host := "") (Or.inl (hw _ (List.mem_of_getElem? (i := 33) rfl))) Via.refl e1032 f1036 (g := (mkF m 97 #[.val (.ref ps), .val (.long q2), .second, .val (.int v1003), .val (.int vv)] [(.ref ps)])) rfl rfl (hb hby d15_97)
        refine OEnds.st st1041 ?_
        clear st1041
        show OEnds p.tables e below G (T1041.setTop (mkF m 100 #[.val (.ref ps), .val (.long q2), .second, .val (.int v1003), .val (.int vv)] [(.ref ta)]))
        refine OEnds.st (fun _ k => XS.aloadN X1041.here hx rfl (hb hby d15_100) rfl rfl k) ?_
        show OEnds p.tables e below G (T1041.setTop (mkF m 101 #[.val (.ref ps), .val (.long q2), .second, .val (.int v1003), .val (.int vv)] [(.ref ps), (.ref ta)]))
        refine OEnds.st (fun _ k => XS.dup X1041.here hx rfl (hb hby d15_101) rfl rfl k) ?_
        show OEnds p.tables e below G (T1041.setTop (mkF m 102 #[.val (.ref ps), .val (.long q2), .second, .val (.int v1003), .val (.int vv)] [(.ref ps), (.ref ps), (.ref ta)]))
        obtain ⟨T1042, X1042, e1042, st1042⟩ := getF X1041 hx hZ hown (host := "") (Or.inl (hw _ (List.mem_of_getElem? (i := 45) rfl))) Via.refl e1041 f1038 (g := (mkF m 102 #[.val (.ref ps), .val (.long q2), .second, .val (.int v1003), .val (.int vv)] [(.ref ps), (.ref ps), (.ref ta)])) rfl rfl (hb hby d15_102)
        refine OEnds.st st1042 ?_
        clear st1042
        show OEnds p.tables e below G (T1042.setTop (mkF m 105 #[.val (.ref ps), .val (.long q2), .second, .val (.int v1003), .val (.int vv)] [(.int nn), (.ref ps), (.ref ta)]))
        refine OEnds.st (fun _ k => XS.dupX1 X1042.here hx rfl (hb hby d15_105) rfl rfl rfl k) ?_
        show OEnds p.tables e below G (T1042.setTop (mkF m 106 #[.val (.ref ps), .val (.long q2), .second, .val (.int v1003), .val (.int vv)] [(.int nn), (.ref ps), (.int nn), (.ref ta)]))
        refine OEnds.st (fun _ k => XS.iconst X1042.here hx rfl (hb hby d15_106) k) ?_
        show OEnds p.tables e below G (T1042.setTop (mkF m 107 #[.val (.ref ps), .val (.long q2), .second, .val (.int v1003), .val (.int vv)] [(.int (1 : Int32)), (.int nn), (.ref ps), (.int nn), (.ref ta)]))
        refine OEnds.st (fun _ k => XS.iadd X1042.here hx rfl (hb hby d15_107) rfl k) ?_
        show OEnds p.tables e below G (T1042.setTop (mkF m 108 #[.val (.ref ps), .val (.long q2), .second, .val (.int v1003), .val (.int vv)] [(.int (nn + (1 : Int32))), (.ref ps), (.int nn), (.ref ta)]))
        obtain ⟨T1043, h1043, X1043, e1043, W1043, st1043⟩ := putF X1042 hx hZ hown (host := "") (Or.inl (hw _ (List.mem_of_getElem? (i := 45) rfl))) Via.refl e1042 f1038 f1034 (Or.inl (hw _ (List.mem_of_getElem? (i := 46) rfl))) (hw _ (List.mem_of_getElem? (i := 6) rfl)) (ty := .int) (by decide) rfl rfl (g := (mkF m 108 #[.val (.ref ps), .val (.long q2), .second, .val (.int v1003), .val (.int vv)] [(.int (nn + (1 : Int32))), (.ref ps), (.int nn), (.ref ta)])) rfl rfl (hb hby d15_108)
        refine OEnds.st st1043 ?_
        clear st1043
        have f1044 : Fld Z h1043 ps "com/example/clearingd/clearingd/store/PositionSet" "size" "I" (.int (nn + (1 : Int32))) := f1038.same W1043
        have f1045 : Exa Z h1043 ps "com/example/clearingd/clearingd/store/PositionSet" := f1034.wr W1043
        have f1046 : Fld Z h1043 ps "com/example/clearingd/clearingd/store/PositionSet" "slots" "[J" (.ref sa) := f1035.other W1043 (Or.inr (slot_ne (Or.inr (hw _ (List.mem_of_getElem? (i := 31) rfl))) (Or.inl (hw _ (List.mem_of_getElem? (i := 46) rfl))) (by decide) (t := (.array .long)) (t' := .int) (by decide) (by decide)))
        have f1047 : Fld Z h1043 ps "com/example/clearingd/clearingd/store/PositionSet" "taken" "[I" (.ref ta) := f1036.other W1043 (Or.inr (slot_ne (Or.inr (hw _ (List.mem_of_getElem? (i := 34) rfl))) (Or.inl (hw _ (List.mem_of_getElem? (i := 46) rfl))) (by decide) (t := (.array .int)) (t' := .int) (by decide) (by decide)))
        have f1048 : Fld Z h1043 ps "com/example/clearingd/clearingd/store/PositionSet" "capacity" "I" (.int cz) := f1037.other W1043 (Or.inr (slot_ne (Or.inr (hw _ (List.mem_of_getElem? (i := 19) rfl))) (Or.inl (hw _ (List.mem_of_getElem? (i := 46) rfl))) (by decide) (t := .int) (t' := .int) (by decide) (by decide)))
        have f1050 : Fld Z h1043 ps "com/example/clearingd/clearingd/store/PositionSet" "overflowed" "Z" (.int ov) := f1039.other W1043 (Or.inr (slot_ne (Or.inl (hw _ (List.mem_of_getElem? (i := 48) rfl))) (Or.inl (hw _ (List.mem_of_getElem? (i := 46) rfl))) (by decide) (t := .boolean) (t' := .int) (by decide) (by decide)))
        have f1051 : Arv Z h1043 ta kt .int cz (own_G C g) (.int (0 : Int32)) := f1040.other W1043 n2
        have f1052 : Arv Z h1043 sa ks .long z ((own_T M f).set vv.toNatClampNeg (.long q2)) (.long (0 : Int64)) := f1033.other W1043 n1
        have N1043 := Fr.snoc X1043 N1032 g_ps
        have KK1043 : Keep h0 h1043 [ps, sa, ta] := KK1032.wr W1043 (Or.inl (List.mem_of_getElem? (i := 0) rfl))
        have Z1043 := Nat.le_trans Z1032 (Keep.of_wr W1043).1
        show OEnds p.tables e below G (T1043.setTop (mkF m 111 #[.val (.ref ps), .val (.long q2), .second, .val (.int v1003), .val (.int vv)] [(.int nn), (.ref ta)]))
        refine OEnds.st (fun _ k => XS.iload X1043.here hx rfl (hb hby d15_111) rfl k) ?_
        show OEnds p.tables e below G (T1043.setTop (mkF m 113 #[.val (.ref ps), .val (.long q2), .second, .val (.int v1003), .val (.int vv)] [(.int vv), (.int nn), (.ref ta)]))
        obtain ⟨cl1053, Ar1053, q1053, S1053, N1053n, H1053, G1053⟩ := id f1051
        have hin1053 : ¬ (nn < 0 ∨ cl1053.slots.size ≤ (nn).toNatClampNeg) := inb_of S1053 ⟨own_nl (own_lt_of_ne hcz hI hc77_1020), own_lz hcz (own_lt_of_ne hcz hI hc77_1020)⟩
        obtain ⟨T1053, h1053, X1053, e1053, W1053, st1053⟩ := stI X1043 hx hZ e1043 Ar1053 (j := nn) hin1053 (g := (mkF m 113 #[.val (.ref ps), .val (.long q2), .second, .val (.int v1003), .val (.int vv)] [(.int vv), (.int nn), (.ref ta)])) rfl rfl (hb hby d15_113)
        refine OEnds.st st1053 ?_
        clear st1053
        have f1054 : Arv Z h1053 ta kt .int cz ((own_G C g).set nn.toNatClampNeg (.int vv)) (.int (0 : Int32)) := Arv.set Ar1053 q1053 S1053 N1053n H1053 G1053 rfl W1053 nn.toNatClampNeg rfl (own_jG _ (own_lt_of_ne hcz hI hc77_1020))
        have f1055 : Exa Z h1053 ps "com/example/clearingd/clearingd/store/PositionSet" := f1045.wr W1053
        have f1056 : Fld Z h1053 ps "com/example/clearingd/clearingd/store/PositionSet" "slots" "[J" (.ref sa) := f1046.other W1053 (Or.inl (Ne.symm n2))
        have f1057 : Fld Z h1053 ps "com/example/clearingd/clearingd/store/PositionSet" "taken" "[I" (.ref ta) := f1047.other W1053 (Or.inl (Ne.symm n2))
        have f1058 : Fld Z h1053 ps "com/example/clearingd/clearingd/store/PositionSet" "capacity" "I" (.int cz) := f1048.other W1053 (Or.inl (Ne.symm n2))
        have f1059 : Fld Z h1053 ps "com/example/clearingd/clearingd/store/PositionSet" "overflowed" "Z" (.int ov) := f1050.other W1053 (Or.inl (Ne.symm n2))
        have f1060 : Arv Z h1053 sa ks .long z ((own_T M f).set vv.toNatClampNeg (.long q2)) (.long (0 : Int64)) := f1052.other W1053 n3
        have f1061 : Fld Z h1053 ps "com/example/clearingd/clearingd/store/PositionSet" "size" "I" (.int (nn + (1 : Int32))) := f1044.other W1053 (Or.inl (Ne.symm n2))
        have N1053 := Fr.snoc X1053 N1043 g_ta
        have KK1053 : Keep h0 h1053 [ps, sa, ta] := KK1043.wr W1053 (Or.inl (List.mem_of_getElem? (i := 2) rfl))
        have Z1053 := Nat.le_trans Z1043 (Keep.of_wr W1053).1
        show OEnds p.tables e below G (T1053.setTop (mkF m 114 #[.val (.ref ps), .val (.long q2), .second, .val (.int v1003), .val (.int vv)] []))
        rw [← hG]
        refine OEnds.retV X1053 hx hlk Bd.returns (hb hby d15_114) (by decide) (by decide) ?_
        rw [e1053]
        exact ⟨(own_up f vv.toNatClampNeg q2), (own_ui g nn.toNatClampNeg vv), (nn + (1 : Int32)), ov, rfl, N1053, KK1053, f1055, f1056, f1057, f1058, f1061, f1059, (by rw [← own_T_set]; exact f1060), (by rw [← own_G_set]; exact f1054), ⟨vv, hvv, hfv, (by have q := hsv; rw [← hv_v1005, ← hv_v1003] at q; exact q), Or.inr (Or.inr ⟨hc66_1017, hc77_1020, rfl, rfl, rfl, rfl⟩)⟩⟩
    · -- pc 66: no
      refine OEnds.st (fun _ k => XS.ifYes X1015.here hx rfl (pc0 := 66) (pc' := 114) rfl (hb hby d15_66) rfl ((if0 _ _).trans (feq (fun q => hc66_1017 ((lw_eq (f vv.toNatClampNeg) (-1 : Int64)).mp q))).2) (by decide) (by decide) k) ?_
      show OEnds p.tables e below G (T1015.setTop (mkF m 114 #[.val (.ref ps), .val (.long q2), .second, .val (.int v1003), .val (.int vv)] []))
      rw [← hG]
      refine OEnds.retV X1015 hx hlk Bd.returns (hb hby d15_114) (by decide) (by decide) ?_
      rw [e1015]
      exact ⟨f, g, nn, ov, rfl, N1006, KK1006, f1007, f1008, f1009, f1010, f1011, f1012, f1013, f1014, ⟨vv, hvv, hfv, (by have q := hsv; rw [← hv_v1005, ← hv_v1003] at q; exact q), Or.inl ⟨hc66_1017, rfl, rfl, rfl, rfl⟩⟩⟩
  have loop : ∀ (d : Nat) (T1062 : State) (L1062 : List Loc) (X1062 : Stand p l e ({ frames := 1, cells := 0, slots := 0, locals := 17 } : Room) s m #[(.ref ps), (.long q2)] below meth c T1062 L1062 0 0) (e1062 : T1062.heap = h0) (N1062 : Fr n0 L1062) (vv : Int32) (hvv : 0 ≤ vv.toInt ∧ vv.toInt < M) (hd : (vv.toInt + d) % (M : Int) = em) (hnx : vv = v1005 ∨ ¬ (f v1005.toNatClampNeg = (-1 : Int64) ∨ f v1005.toNatClampNeg = q2)), OEnds p.tables e below G (T1062.setTop (mkF m 18 #[.val (.ref ps), .val (.long q2), .second, .val (.int v1003), .val (.int vv)] [])) := by
    intro d
    induction d with
    | zero =>
      intro T1062 L1062 X1062 e1062 N1062 vv hvv hd hnx
      have hz0 : (f vv.toNatClampNeg) = (-1 : Int64) := by rw [own_at0 hvv hd]; exact hfe
      show OEnds p.tables e below G (T1062.setTop (mkF m 18 #[.val (.ref ps), .val (.long q2), .second, .val (.int v1003), .val (.int vv)] []))
      refine OEnds.st (fun _ k => XS.aloadN X1062.here hx rfl (hb hby d15_18) rfl rfl k) ?_
      show OEnds p.tables e below G (T1062.setTop (mkF m 19 #[.val (.ref ps), .val (.long q2), .second, .val (.int v1003), .val (.int vv)] [(.ref ps)]))
      obtain ⟨T1063, X1063, e1063, st1063⟩ := getF X1062 hx hZ hown (host := "") (Or.inl (hw _ (List.mem_of_getElem? (i := 30) rfl))) Via.refl e1062 Fslots (g := (mkF m 19 #[.val (.ref ps), .val (.long q2), .second, .val (.int v1003), .val (.int vv)] [(.ref ps)])) rfl rfl (hb hby d15_19)
      refine OEnds.st st1063 ?_
      clear st1063
      show OEnds p.tables e below G (T1063.setTop (mkF m 22 #[.val (.ref ps), .val (.long q2), .second, .val (.int v1003), .val (.int vv)] [(.ref sa)]))
      refine OEnds.st (fun _ k => XS.iload X1063.here hx rfl (hb hby d15_22) rfl k) ?_
      show OEnds p.tables e below G (T1063.setTop (mkF m 24 #[.val (.ref ps), .val (.long q2), .second, .val (.int v1003), .val (.int vv)] [(.int vv), (.ref sa)]))
      obtain ⟨cl1064, Ar1064, q1064, S1064, N1064n, H1064, G1064⟩ := id VS
      have hin1064 : ¬ (vv < 0 ∨ cl1064.slots.size ≤ (vv).toNatClampNeg) := inb_of S1064 ⟨own_nl hvv, own_lz hz hvv⟩
      have hat1064 : cl1064.slots[(vv).toNatClampNeg]? = some (.long (f vv.toNatClampNeg)) := H1064.at hin1064 (own_T_get _ (own_jl hvv) _)
      refine OEnds.st (X1063.laload hx (j := vv) (v := (.long (f vv.toNatClampNeg))) (by rw [e1063]; exact Ar1064.1) (State.isArrayOf_alike hZ.alike Ar1064.2.1) Ar1064.2.2 hin1064 hat1064 (g := (mkF m 24 #[.val (.ref ps), .val (.long q2), .second, .val (.int v1003), .val (.int vv)] [(.int vv), (.ref sa)])) rfl rfl (hb hby d15_24)) ?_
      show OEnds p.tables e below G (T1063.setTop (mkF m 25 #[.val (.ref ps), .val (.long q2), .second, .val (.int v1003), .val (.int vv)] [(.long (f vv.toNatClampNeg))]))
      refine OEnds.st (X1063.ldc2Long hx hown (mvT hZ (hw _ (List.mem_of_getElem? (i := 35) rfl))) (g := (mkF m 25 #[.val (.ref ps), .val (.long q2), .second, .val (.int v1003), .val (.int vv)] [(.long (f vv.toNatClampNeg))])) rfl (hb hby d15_25)) ?_
      show OEnds p.tables e below G (T1063.setTop (mkF m 28 #[.val (.ref ps), .val (.long q2), .second, .val (.int v1003), .val (.int vv)] [(.long (-1 : Int64)), (.long (f vv.toNatClampNeg))]))
      refine OEnds.st (fun _ k => XS.lcmp X1063.here hx rfl (hb hby d15_28) rfl k) ?_
      show OEnds p.tables e below G (T1063.setTop (mkF m 29 #[.val (.ref ps), .val (.long q2), .second, .val (.int v1003), .val (.int vv)] [(.int (lcmpW (f vv.toNatClampNeg) (-1 : Int64)))]))
      refine OEnds.st (fun _ k => XS.ifYes X1063.here hx rfl (pc0 := 29) (pc' := 55) rfl (hb hby d15_29) rfl ((if0 _ _).trans (teq ((lw_eq (f vv.toNatClampNeg) (-1 : Int64)).mpr hz0)).1) (by decide) (by decide) k) ?_
      exact rest55_1006 T1063 _ _ (own_grow X1063 (by decide) (by decide)) e1063 N1062 KK0 Z0 vv E Fslots Ftaken Fcapacity Fsize Foverflowed VS VT hvv (Or.inl hz0) (fun q => hnx.elim (fun y => by rw [y]) (fun y => absurd q y))
    | succ d ih =>
      intro T1062 L1062 X1062 e1062 N1062 vv hvv hd hnx
      show OEnds p.tables e below G (T1062.setTop (mkF m 18 #[.val (.ref ps), .val (.long q2), .second, .val (.int v1003), .val (.int vv)] []))
      refine OEnds.st (fun _ k => XS.aloadN X1062.here hx rfl (hb hby d15_18) rfl rfl k) ?_
      show OEnds p.tables e below G (T1062.setTop (mkF m 19 #[.val (.ref ps), .val (.long q2), .second, .val (.int v1003), .val (.int vv)] [(.ref ps)]))
      obtain ⟨T1065, X1065, e1065, st1065⟩ := getF X1062 hx hZ hown (host := "") (Or.inl (hw _ (List.mem_of_getElem? (i := 30) rfl))) Via.refl e1062 Fslots (g := (mkF m 19 #[.val (.ref ps), .val (.long q2), .second, .val (.int v1003), .val (.int vv)] [(.ref ps)])) rfl rfl (hb hby d15_19)
      refine OEnds.st st1065 ?_
      clear st1065
      show OEnds p.tables e below G (T1065.setTop (mkF m 22 #[.val (.ref ps), .val (.long q2), .second, .val (.int v1003), .val (.int vv)] [(.ref sa)]))
      refine OEnds.st (fun _ k => XS.iload X1065.here hx rfl (hb hby d15_22) rfl k) ?_
      show OEnds p.tables e below G (T1065.setTop (mkF m 24 #[.val (.ref ps), .val (.long q2), .second, .val (.int v1003), .val (.int vv)] [(.int vv), (.ref sa)]))
      obtain ⟨cl1066, Ar1066, q1066, S1066, N1066n, H1066, G1066⟩ := id VS
      have hin1066 : ¬ (vv < 0 ∨ cl1066.slots.size ≤ (vv).toNatClampNeg) := inb_of S1066 ⟨own_nl hvv, own_lz hz hvv⟩
      have hat1066 : cl1066.slots[(vv).toNatClampNeg]? = some (.long (f vv.toNatClampNeg)) := H1066.at hin1066 (own_T_get _ (own_jl hvv) _)
      refine OEnds.st (X1065.laload hx (j := vv) (v := (.long (f vv.toNatClampNeg))) (by rw [e1065]; exact Ar1066.1) (State.isArrayOf_alike hZ.alike Ar1066.2.1) Ar1066.2.2 hin1066 hat1066 (g := (mkF m 24 #[.val (.ref ps), .val (.long q2), .second, .val (.int v1003), .val (.int vv)] [(.int vv), (.ref sa)])) rfl rfl (hb hby d15_24)) ?_
      show OEnds p.tables e below G (T1065.setTop (mkF m 25 #[.val (.ref ps), .val (.long q2), .second, .val (.int v1003), .val (.int vv)] [(.long (f vv.toNatClampNeg))]))
      refine OEnds.st (X1065.ldc2Long hx hown (mvT hZ (hw _ (List.mem_of_getElem? (i := 35) rfl))) (g := (mkF m 25 #[.val (.ref ps), .val (.long q2), .second, .val (.int v1003), .val (.int vv)] [(.long (f vv.toNatClampNeg))])) rfl (hb hby d15_25)) ?_
      show OEnds p.tables e below G (T1065.setTop (mkF m 28 #[.val (.ref ps), .val (.long q2), .second, .val (.int v1003), .val (.int vv)] [(.long (-1 : Int64)), (.long (f vv.toNatClampNeg))]))
      refine OEnds.st (fun _ k => XS.lcmp X1065.here hx rfl (hb hby d15_28) rfl k) ?_
      show OEnds p.tables e below G (T1065.setTop (mkF m 29 #[.val (.ref ps), .val (.long q2), .second, .val (.int v1003), .val (.int vv)] [(.int (lcmpW (f vv.toNatClampNeg) (-1 : Int64)))]))
      by_cases hc29_1067 : (f vv.toNatClampNeg) = (-1 : Int64)
      · -- pc 29: yes
        refine OEnds.st (fun _ k => XS.ifYes X1065.here hx rfl (pc0 := 29) (pc' := 55) rfl (hb hby d15_29) rfl ((if0 _ _).trans (teq ((lw_eq (f vv.toNatClampNeg) (-1 : Int64)).mpr hc29_1067)).1) (by decide) (by decide) k) ?_
        exact rest55_1006 T1065 _ _ (own_grow X1065 (by decide) (by decide)) e1065 N1062 KK0 Z0 vv E Fslots Ftaken Fcapacity Fsize Foverflowed VS VT hvv (Or.inl hc29_1067) (fun q => hnx.elim (fun y => by rw [y]) (fun y => absurd q y))
      · -- pc 29: no
        refine OEnds.st (fun _ k => XS.ifNo X1065.here hx rfl (hb hby d15_29) rfl ((if0 _ _).trans (feq (fun q => hc29_1067 ((lw_eq (f vv.toNatClampNeg) (-1 : Int64)).mp q))).1) k) ?_
        show OEnds p.tables e below G (T1065.setTop (mkF m 32 #[.val (.ref ps), .val (.long q2), .second, .val (.int v1003), .val (.int vv)] []))
        refine OEnds.st (fun _ k => XS.aloadN X1065.here hx rfl (hb hby d15_32) rfl rfl k) ?_
        show OEnds p.tables e below G (T1065.setTop (mkF m 33 #[.val (.ref ps), .val (.long q2), .second, .val (.int v1003), .val (.int vv)] [(.ref ps)]))
        obtain ⟨T1068, X1068, e1068, st1068⟩ := getF X1065 hx hZ hown (host := "") (Or.inl (hw _ (List.mem_of_getElem? (i := 30) rfl))) Via.refl e1065 Fslots (g := (mkF m 33 #[.val (.ref ps), .val (.long q2), .second, .val (.int v1003), .val (.int vv)] [(.ref ps)])) rfl rfl (hb hby d15_33)
        refine OEnds.st st1068 ?_
        clear st1068
        show OEnds p.tables e below G (T1068.setTop (mkF m 36 #[.val (.ref ps), .val (.long q2), .second, .val (.int v1003), .val (.int vv)] [(.ref sa)]))
        refine OEnds.st (fun _ k => XS.iload X1068.here hx rfl (hb hby d15_36) rfl k) ?_
        show OEnds p.tables e below G (T1068.setTop (mkF m 38 #[.val (.ref ps), .val (.long q2), .second, .val (.int v1003), .val (.int vv)] [(.int vv), (.ref sa)]))
        obtain ⟨cl1069, Ar1069, q1069, S1069, N1069n, H1069, G1069⟩ := id VS
        have hin1069 : ¬ (vv < 0 ∨ cl1069.slots.size ≤ (vv).toNatClampNeg) := inb_of S1069 ⟨own_nl hvv, own_lz hz hvv⟩
        have hat1069 : cl1069.slots[(vv).toNatClampNeg]? = some (.long (f vv.toNatClampNeg)) := H1069.at hin1069 (own_T_get _ (own_jl hvv) _)
        refine OEnds.st (X1068.laload hx (j := vv) (v := (.long (f vv.toNatClampNeg))) (by rw [e1068]; exact Ar1069.1) (State.isArrayOf_alike hZ.alike Ar1069.2.1) Ar1069.2.2 hin1069 hat1069 (g := (mkF m 38 #[.val (.ref ps), .val (.long q2), .second, .val (.int v1003), .val (.int vv)] [(.int vv), (.ref sa)])) rfl rfl (hb hby d15_38)) ?_
        show OEnds p.tables e below G (T1068.setTop (mkF m 39 #[.val (.ref ps), .val (.long q2), .second, .val (.int v1003), .val (.int vv)] [(.long (f vv.toNatClampNeg))]))
        refine OEnds.st (fun _ k => XS.lloadN X1068.here hx rfl (hb hby d15_39) rfl k) ?_
        show OEnds p.tables e below G (T1068.setTop (mkF m 40 #[.val (.ref ps), .val (.long q2), .second, .val (.int v1003), .val (.int vv)] [(.long q2), (.long (f vv.toNatClampNeg))]))
        refine OEnds.st (fun _ k => XS.lcmp X1068.here hx rfl (hb hby d15_40) rfl k) ?_
        show OEnds p.tables e below G (T1068.setTop (mkF m 41 #[.val (.ref ps), .val (.long q2), .second, .val (.int v1003), .val (.int vv)] [(.int (lcmpW (f vv.toNatClampNeg) q2))]))
        by_cases hc41_1070 : (f vv.toNatClampNeg) = q2
        · -- pc 41: yes
          refine OEnds.st (fun _ k => XS.ifYes X1068.here hx rfl (pc0 := 41) (pc' := 55) rfl (hb hby d15_41) rfl ((if0 _ _).trans (teq ((lw_eq (f vv.toNatClampNeg) q2).mpr hc41_1070)).1) (by decide) (by decide) k) ?_
          exact rest55_1006 T1068 _ _ (own_grow X1068 (by decide) (by decide)) e1068 N1062 KK0 Z0 vv E Fslots Ftaken Fcapacity Fsize Foverflowed VS VT hvv (Or.inr hc41_1070) (fun q => hnx.elim (fun y => by rw [y]) (fun y => absurd q y))
        · -- pc 41: no
          refine OEnds.st (fun _ k => XS.ifNo X1068.here hx rfl (hb hby d15_41) rfl ((if0 _ _).trans (feq (fun q => hc41_1070 ((lw_eq (f vv.toNatClampNeg) q2).mp q))).1) k) ?_
          show OEnds p.tables e below G (T1068.setTop (mkF m 44 #[.val (.ref ps), .val (.long q2), .second, .val (.int v1003), .val (.int vv)] []))
          refine OEnds.st (fun _ k => XS.iload X1068.here hx rfl (hb hby d15_44) rfl k) ?_
          show OEnds p.tables e below G (T1068.setTop (mkF m 46 #[.val (.ref ps), .val (.long q2), .second, .val (.int v1003), .val (.int vv)] [(.int vv)]))
          refine OEnds.st (fun _ k => XS.iconst X1068.here hx rfl (hb hby d15_46) k) ?_
          show OEnds p.tables e below G (T1068.setTop (mkF m 47 #[.val (.ref ps), .val (.long q2), .second, .val (.int v1003), .val (.int vv)] [(.int (1 : Int32)), (.int vv)]))
          refine OEnds.st (fun _ k => XS.iadd X1068.here hx rfl (hb hby d15_47) rfl k) ?_
          show OEnds p.tables e below G (T1068.setTop (mkF m 48 #[.val (.ref ps), .val (.long q2), .second, .val (.int v1003), .val (.int vv)] [(.int (vv + (1 : Int32)))]))
          refine OEnds.st (fun _ k => XS.iloadN X1068.here hx rfl (hb hby d15_48) rfl k) ?_
          show OEnds p.tables e below G (T1068.setTop (mkF m 49 #[.val (.ref ps), .val (.long q2), .second, .val (.int v1003), .val (.int vv)] [(.int v1003), (.int (vv + (1 : Int32)))]))
          refine OEnds.st (fun _ k => XS.iand X1068.here hx rfl (hb hby d15_49) rfl k) ?_
          show OEnds p.tables e below G (T1068.setTop (mkF m 50 #[.val (.ref ps), .val (.long q2), .second, .val (.int v1003), .val (.int vv)] [(.int ((vv + (1 : Int32)) &&& v1003))]))
          refine OEnds.st (fun _ k => XS.istore X1068.here hx rfl (hb hby d15_50) rfl (l' := #[.val (.ref ps), .val (.long q2), .second, .val (.int v1003), .val (.int ((vv + (1 : Int32)) &&& v1003))]) rfl k) ?_
          show OEnds p.tables e below G (T1068.setTop (mkF m 52 #[.val (.ref ps), .val (.long q2), .second, .val (.int v1003), .val (.int ((vv + (1 : Int32)) &&& v1003))] []))
          generalize hv_v1071 : ((vv + (1 : Int32)) &&& v1003) = v1071
          show OEnds p.tables e below G (T1068.setTop (mkF m 52 #[.val (.ref ps), .val (.long q2), .second, .val (.int v1003), .val (.int v1071)] []))
          refine OEnds.st (fun _ k => XS.goto X1068.here hx rfl (pc0 := 52) (pc' := 18) rfl (hb hby d15_52) (by decide) (by decide) k) ?_
          have hx2 := own_next hM hmk hvv hd
          rw [hv_v1003, hv_v1071] at hx2
          exact ih T1068 _ X1068 e1068 N1062 v1071 hx2.1 hx2.2 (Or.inr (fun q => hnx.elim (fun y => by rw [← y] at q; exact q.elim hc29_1067 hc41_1070) (fun y => y q)))
  exact loop dd T1004 _ (own_grow X1004 (by decide) (by decide)) e1004 N1004 v1005 hst hdd (Or.inl rfl)
theorem ef_clr0 (m : MethodId) (ps : Addr) : entryFrame m #[(.ref ps)] 2 = mkF m 0 #[.val (.ref ps), .unset] [] := by first | (simp [entryFrame, mkF, argsToLocals, Value.category]; done) | rfl
def Qclr0 (Z : State) (ps : Addr) (sa : Addr) (ta : Addr) (ks : ClassId) (kt : ClassId) (z : Int32) (M : Nat) (cz : Int32) (C : Nat) (f : Nat → Int64) (g : Nat → Int32) (ov : Int32) (h0 : Heap) (n0 : Nat) (v : Option Value) (h : Heap) (L : List Loc) : Prop := v = none ∧ Fr n0 L ∧ Keep h0 h [ps, sa, ta] ∧ Exa Z h ps "com/example/clearingd/clearingd/store/PositionSet" ∧ Fld Z h ps "com/example/clearingd/clearingd/store/PositionSet" "slots" "[J" (.ref sa) ∧ Fld Z h ps "com/example/clearingd/clearingd/store/PositionSet" "taken" "[I" (.ref ta) ∧ Fld Z h ps "com/example/clearingd/clearingd/store/PositionSet" "capacity" "I" (.int cz) ∧ Fld Z h ps "com/example/clearingd/clearingd/store/PositionSet" "size" "I" (.int (0 : Int32)) ∧ Fld Z h ps "com/example/clearingd/clearingd/store/PositionSet" "overflowed" "Z" (.int (0 : Int32)) ∧ Arv Z h sa ks .long z (own_T M own_E) (.long (0 : Int64)) ∧ Arv Z h ta kt .int cz (own_G C g) (.int (0 : Int32))
theorem d8_0 : decode prog_44_method_5_code 0 = .ok (.iconst 0, 1) := by decide +kernel
theorem d8_1 : decode prog_44_method_5_code 1 = .ok (.istore_n 1, 1) := by decide +kernel
theorem d8_2 : decode prog_44_method_5_code 2 = .ok (.iload_n 1, 1) := by decide +kernel
theorem d8_3 : decode prog_44_method_5_code 3 = .ok (.aload_n 0, 1) := by decide +kernel
theorem d8_4 : decode prog_44_method_5_code 4 = .ok (.getfield 47, 3) := by decide +kernel
theorem d8_7 : decode prog_44_method_5_code 7 = .ok (.if_icmp .ge 23, 3) := by decide +kernel
theorem d8_30 : decode prog_44_method_5_code 30 = .ok (.aload_n 0, 1) := by decide +kernel
theorem d8_31 : decode prog_44_method_5_code 31 = .ok (.iconst 0, 1) := by decide +kernel
theorem d8_32 : decode prog_44_method_5_code 32 = .ok (.putfield 47, 3) := by decide +kernel
theorem d8_35 : decode prog_44_method_5_code 35 = .ok (.aload_n 0, 1) := by decide +kernel
theorem d8_36 : decode prog_44_method_5_code 36 = .ok (.iconst 0, 1) := by decide +kernel
theorem d8_37 : decode prog_44_method_5_code 37 = .ok (.putfield 50, 3) := by decide +kernel
theorem d8_40 : decode prog_44_method_5_code 40 = .ok (.return_, 1) := by decide +kernel
set_option maxRecDepth 65536 in
set_option maxHeartbeats 40000000 in
theorem rmclr0 (l : Launch) (Z : State) (a0 : Array Value) (hw : ∀ d ∈ tables_1, d.before a0 Z = true) (ws : List Jvm.Cond) (ps : Addr) (sa : Addr) (ta : Addr) (ks : ClassId) (kt : ClassId) (z : Int32) (M : Nat) (cz : Int32) (C : Nat) (f : Nat → Int64) (g : Nat → Int32) (ov : Int32) (h0 : Heap) (n0 : Nat) (Z0 : n0 ≤ h0.size) (E : Exa Z h0 ps "com/example/clearingd/clearingd/store/PositionSet") (Fslots : Fld Z h0 ps "com/example/clearingd/clearingd/store/PositionSet" "slots" "[J" (.ref sa)) (Ftaken : Fld Z h0 ps "com/example/clearingd/clearingd/store/PositionSet" "taken" "[I" (.ref ta)) (Fcapacity : Fld Z h0 ps "com/example/clearingd/clearingd/store/PositionSet" "capacity" "I" (.int cz)) (Fsize : Fld Z h0 ps "com/example/clearingd/clearingd/store/PositionSet" "size" "I" (.int (0 : Int32))) (Foverflowed : Fld Z h0 ps "com/example/clearingd/clearingd/store/PositionSet" "overflowed" "Z" (.int ov)) (VS : Arv Z h0 sa ks .long z (own_T M f) (.long (0 : Int64))) (VT : Arv Z h0 ta kt .int cz (own_G C g) (.int (0 : Int32))) (g_ps : n0 ≤ ps) (g_sa : n0 ≤ sa) (g_ta : n0 ≤ ta) (n1 : sa ≠ ps) (n2 : ta ≠ ps) (n3 : sa ≠ ta) (hz : z.toInt = (M : Int)) (hM : 4 ≤ M ∧ M ≤ 16) (hmk : ∀ x : Int32, (x &&& (z - (1 : Int32))).toInt = x.toInt % (M : Int)) (hcz : cz.toInt = (C : Int)) (hI : own_Inv M f g (0 : Int32) 3 C) :
    MetFree l (⟨"com/example/clearingd/clearingd/store/PositionSet", "clear", "()V"⟩ : MethodName) (head1 (Jvm.Cond.code (⟨"com/example/clearingd/clearingd/store/PositionSet", "clear", "()V"⟩ : MethodName) prog_44_method_5_code 2 none :: ws) ({ frames := 0, cells := 0, slots := 0, locals := 0 } : Room)) (fun a U => a = #[(.ref ps)] ∧ Z.Warmed39 U.vm ∧ U.heap = h0) (fun _ _ _ _ _ => True) (fun _ U o U' => ∃ v L, o = .returned v ∧ Qclr0 Z ps sa ta ks kt z M cz C f g ov h0 n0 v U'.heap L ∧ FrameEnd U o U' L ({ frames := 0, cells := 0, slots := 0, locals := 0 } : Room).cells ({ frames := 0, cells := 0, slots := 0, locals := 0 } : Room).slots) := by
  refine MetFree.of_bodySF (plainFor_of_name pn_4) hisR ?_
  intro p e s m args below meth c s₁ Bd hml0 hP hK
  obtain ⟨rfl, hZ, hh⟩ := hP
  have hx := Bd.exec
  have hby := Bd.bytes
  have hml : c.maxLocals = 2 := hml0
  have hown : s.vm.findClass "com/example/clearingd/clearingd/store/PositionSet" = some m.cls := findClass_of_methodNamed Bd.named
  have hnm := (name_of_methodNamed Bd.named Bd.method).1
  have hlk : meth.locks = false := BodyLoose.notSynchronized Bd
  have X0 : Stand p l e ({ frames := 0, cells := 0, slots := 0, locals := 0 } : Room) s m #[(.ref ps)] below meth c s₁ [] 0 0 := Stand.of_body Bd
  have e0 : s₁.heap = h0 := by rw [← hh, Bd.state]; rfl
  have N0 := Fr.nil n0
  show OEnds p.tables e below (OGoal (Qclr0 Z ps sa ta ks kt z M cz C f g ov h0 n0) s 0 0) (s₁.setTop (entryFrame m #[(.ref ps)] 2))
  refine OEnds.st (fun t k => castTop (ef_clr0 m ps) k) ?_
  generalize hG : OGoal (Qclr0 Z ps sa ta ks kt z M cz C f g ov h0 n0) s 0 0 = G
  have KK0 : Keep h0 h0 [ps, sa, ta] := Keep.refl h0 [ps, sa, ta]
  show OEnds p.tables e below G (s₁.setTop (mkF m 0 #[.val (.ref ps), .unset] []))
  refine OEnds.st (fun _ k => XS.iconst X0.here hx rfl (hb hby d8_0) k) ?_
  show OEnds p.tables e below G (s₁.setTop (mkF m 1 #[.val (.ref ps), .unset] [(.int (0 : Int32))]))
  refine OEnds.st (fun _ k => XS.istoreN X0.here hx rfl (hb hby d8_1) rfl (l' := #[.val (.ref ps), .val (.int (0 : Int32))]) rfl k) ?_
  show OEnds p.tables e below G (s₁.setTop (mkF m 2 #[.val (.ref ps), .val (.int (0 : Int32))] []))
  refine OEnds.st (fun _ k => XS.iloadN X0.here hx rfl (hb hby d8_2) rfl k) ?_
  show OEnds p.tables e below G (s₁.setTop (mkF m 3 #[.val (.ref ps), .val (.int (0 : Int32))] [(.int (0 : Int32))]))
  refine OEnds.st (fun _ k => XS.aloadN X0.here hx rfl (hb hby d8_3) rfl rfl k) ?_
  show OEnds p.tables e below G (s₁.setTop (mkF m 4 #[.val (.ref ps), .val (.int (0 : Int32))] [(.ref ps), (.int (0 : Int32))]))
  obtain ⟨T1001, X1001, e1001, st1001⟩ := getF X0 hx hZ hown (host := "") (Or.inl (hw _ (List.mem_of_getElem? (i := 45) rfl))) Via.refl e0 Fsize (g := (mkF m 4 #[.val (.ref ps), .val (.int (0 : Int32))] [(.ref ps), (.int (0 : Int32))])) rfl rfl (hb hby d8_4)
  refine OEnds.st st1001 ?_
  clear st1001
  show OEnds p.tables e below G (T1001.setTop (mkF m 7 #[.val (.ref ps), .val (.int (0 : Int32))] [(.int (0 : Int32)), (.int (0 : Int32))]))
  refine OEnds.st (fun _ k => XS.icmpYes X1001.here hx rfl (pc0 := 7) (pc' := 30) rfl (hb hby d8_7) rfl (flt (by decide : ¬ ((0 : Int32) < (0 : Int32)))).2.1 (by decide) (by decide) k) ?_
  show OEnds p.tables e below G (T1001.setTop (mkF m 30 #[.val (.ref ps), .val (.int (0 : Int32))] []))
  refine OEnds.st (fun _ k => XS.aloadN X1001.here hx rfl (hb hby d8_30) rfl rfl k) ?_
  show OEnds p.tables e below G (T1001.setTop (mkF m 31 #[.val (.ref ps), .val (.int (0 : Int32))] [(.ref ps)]))
  refine OEnds.st (fun _ k => XS.iconst X1001.here hx rfl (hb hby d8_31) k) ?_
  show OEnds p.tables e below G (T1001.setTop (mkF m 32 #[.val (.ref ps), .val (.int (0 : Int32))] [(.int (0 : Int32)), (.ref ps)]))
  obtain ⟨T1002, h1002, X1002, e1002, W1002, st1002⟩ := putF X1001 hx hZ hown (host := "") (Or.inl (hw _ (List.mem_of_getElem? (i := 45) rfl))) Via.refl e1001 Fsize E (Or.inl (hw _ (List.mem_of_getElem? (i := 46) rfl))) (hw _ (List.mem_of_getElem? (i := 6) rfl)) (ty := .int) (by decide) rfl rfl (g := (mkF m 32 #[.val (.ref ps), .val (.int (0 : Int32))] [(.int (0 : Int32)), (.ref ps)])) rfl rfl (hb hby d8_32)
  refine OEnds.st st1002 ?_
  clear st1002
  have f1003 : Fld Z h1002 ps "com/example/clearingd/clearingd/store/PositionSet" "size" "I" (.int (0 : Int32)) := Fsize.same W1002
  have f1004 : Exa Z h1002 ps "com/example/clearingd/clearingd/store/PositionSet" := E.wr W1002
  have f1005 : Fld Z h1002 ps "com/example/clearingd/clearingd/store/PositionSet" "slots" "[J" (.ref sa) := Fslots.other W1002 (Or.inr (slot_ne (Or.inr (hw _ (List.mem_of_getElem? (i := 31) rfl))) (Or.inl (hw _ (List.mem_of_getElem? (i := 46) rfl))) (by decide) (t := (.array .long)) (t' := .int) (by decide) (by decide)))
  have f1006 : Fld Z h1002 ps "com/example/clearingd/clearingd/store/PositionSet" "taken" "[I" (.ref ta) := Ftaken.other W1002 (Or.inr (slot_ne (Or.inr (hw _ (List.mem_of_getElem? (i := 34) rfl))) (Or.inl (hw _ (List.mem_of_getElem? (i := 46) rfl))) (by decide) (t := (.array .int)) (t' := .int) (by decide) (by decide)))
  have f1007 : Fld Z h1002 ps "com/example/clearingd/clearingd/store/PositionSet" "capacity" "I" (.int cz) := Fcapacity.other W1002 (Or.inr (slot_ne (Or.inr (hw _ (List.mem_of_getElem? (i := 19) rfl))) (Or.inl (hw _ (List.mem_of_getElem? (i := 46) rfl))) (by decide) (t := .int) (t' := .int) (by decide) (by decide)))
  have f1009 : Fld Z h1002 ps "com/example/clearingd/clearingd/store/PositionSet" "overflowed" "Z" (.int ov) := Foverflowed.other W1002 (Or.inr (slot_ne (Or.inl (hw _ (List.mem_of_getElem? (i := 48) rfl))) (Or.inl (hw _ (List.mem_of_getElem? (i := 46) rfl))) (by decide) (t := .boolean) (t' := .int) (by decide) (by decide)))
  have f1010 : Arv Z h1002 sa ks .long z (own_T M f) (.long (0 : Int64)) := VS.other W1002 n1
  have f1011 : Arv Z h1002 ta kt .int cz (own_G C g) (.int (0 : Int32)) := VT.other W1002 n2
  have N1002 := Fr.snoc X1002 N0 g_ps
  have KK1002 : Keep h0 h1002 [ps, sa, ta] := KK0.wr W1002 (Or.inl (List.mem_of_getElem? (i := 0) rfl))
  have Z1002 := Nat.le_trans Z0 (Keep.of_wr W1002).1
  show OEnds p.tables e below G (T1002.setTop (mkF m 35 #[.val (.ref ps), .val (.int (0 : Int32))] []))
  refine OEnds.st (fun _ k => XS.aloadN X1002.here hx rfl (hb hby d8_35) rfl rfl k) ?_
  show OEnds p.tables e below G (T1002.setTop (mkF m 36 #[.val (.ref ps), .val (.int (0 : Int32))] [(.ref ps)]))
  refine OEnds.st (fun _ k => XS.iconst X1002.here hx rfl (hb hby d8_36) k) ?_
  show OEnds p.tables e below G (T1002.setTop (mkF m 37 #[.val (.ref ps), .val (.int (0 : Int32))] [(.int (0 : Int32)), (.ref ps)]))
  obtain ⟨T1012, h1012, X1012, e1012, W1012, st1012⟩ := putFN X1002 hx hZ hown (hw _ (List.mem_of_getElem? (i := 47) rfl)) Via.refl e1002 f1009 f1004 (Or.inl (hw _ (List.mem_of_getElem? (i := 48) rfl))) (hw _ (List.mem_of_getElem? (i := 6) rfl)) (ty := .boolean) (v' := (.int (0 : Int32))) (by decide) rfl (by decide) (g := (mkF m 37 #[.val (.ref ps), .val (.int (0 : Int32))] [(.int (0 : Int32)), (.ref ps)])) rfl rfl (hb hby d8_37)
  refine OEnds.st st1012 ?_
  clear st1012
  have f1013 : Fld Z h1012 ps "com/example/clearingd/clearingd/store/PositionSet" "overflowed" "Z" (.int (0 : Int32)) := f1009.same W1012
  have f1014 : Exa Z h1012 ps "com/example/clearingd/clearingd/store/PositionSet" := f1004.wr W1012
  have f1015 : Fld Z h1012 ps "com/example/clearingd/clearingd/store/PositionSet" "slots" "[J" (.ref sa) := f1005.other W1012 (Or.inr (slot_ne (Or.inr (hw _ (List.mem_of_getElem? (i := 31) rfl))) (Or.inl (hw _ (List.mem_of_getElem? (i := 48) rfl))) (by decide) (t := (.array .long)) (t' := .boolean) (by decide) (by decide)))
  have f1016 : Fld Z h1012 ps "com/example/clearingd/clearingd/store/PositionSet" "taken" "[I" (.ref ta) := f1006.other W1012 (Or.inr (slot_ne (Or.inr (hw _ (List.mem_of_getElem? (i := 34) rfl))) (Or.inl (hw _ (List.mem_of_getElem? (i := 48) rfl))) (by decide) (t := (.array .int)) (t' := .boolean) (by decide) (by decide)))
  have f1017 : Fld Z h1012 ps "com/example/clearingd/clearingd/store/PositionSet" "capacity" "I" (.int cz) := f1007.other W1012 (Or.inr (slot_ne (Or.inr (hw _ (List.mem_of_getElem? (i := 19) rfl))) (Or.inl (hw _ (List.mem_of_getElem? (i := 48) rfl))) (by decide) (t := .int) (t' := .boolean) (by decide) (by decide)))
  have f1019 : Arv Z h1012 sa ks .long z (own_T M f) (.long (0 : Int64)) := f1010.other W1012 n1
  have f1020 : Arv Z h1012 ta kt .int cz (own_G C g) (.int (0 : Int32)) := f1011.other W1012 n2
  have f1021 : Fld Z h1012 ps "com/example/clearingd/clearingd/store/PositionSet" "size" "I" (.int (0 : Int32)) := f1003.other W1012 (Or.inr (slot_ne (Or.inl (hw _ (List.mem_of_getElem? (i := 46) rfl))) (Or.inl (hw _ (List.mem_of_getElem? (i := 48) rfl))) (by decide) (t := .int) (t' := .boolean) (by decide) (by decide)))
  have N1012 := Fr.snoc X1012 N1002 g_ps
  have KK1012 : Keep h0 h1012 [ps, sa, ta] := KK1002.wr W1012 (Or.inl (List.mem_of_getElem? (i := 0) rfl))
  have Z1012 := Nat.le_trans Z1002 (Keep.of_wr W1012).1
  show OEnds p.tables e below G (T1012.setTop (mkF m 40 #[.val (.ref ps), .val (.int (0 : Int32))] []))
  rw [← hG]
  have hall : ∀ i, i < M → f i = -1 := by
    refine own_clr hI ?_ ?_
    · intro i hi
      exact hi
    · intro j hj
      have q2 : ((0 : Int32) : Int32).toInt = 0 := (by decide)
      omega
  refine OEnds.retV X1012 hx hlk Bd.returns (hb hby d8_40) (by decide) (by decide) ?_
  rw [e1012]
  exact ⟨rfl, N1012, KK1012, f1014, f1015, f1016, f1017, f1021, f1013, (by rw [← own_T_emp hall]; exact f1019), f1020⟩
theorem ef_clr1 (m : MethodId) (ps : Addr) : entryFrame m #[(.ref ps)] 2 = mkF m 0 #[.val (.ref ps), .unset] [] := by first | (simp [entryFrame, mkF, argsToLocals, Value.category]; done) | rfl
def Qclr1 (Z : State) (ps : Addr) (sa : Addr) (ta : Addr) (ks : ClassId) (kt : ClassId) (z : Int32) (M : Nat) (cz : Int32) (C : Nat) (f : Nat → Int64) (g : Nat → Int32) (ov : Int32) (h0 : Heap) (n0 : Nat) (v : Option Value) (h : Heap) (L : List Loc) : Prop := v = none ∧ Fr n0 L ∧ Keep h0 h [ps, sa, ta] ∧ Exa Z h ps "com/example/clearingd/clearingd/store/PositionSet" ∧ Fld Z h ps "com/example/clearingd/clearingd/store/PositionSet" "slots" "[J" (.ref sa) ∧ Fld Z h ps "com/example/clearingd/clearingd/store/PositionSet" "taken" "[I" (.ref ta) ∧ Fld Z h ps "com/example/clearingd/clearingd/store/PositionSet" "capacity" "I" (.int cz) ∧ Fld Z h ps "com/example/clearingd/clearingd/store/PositionSet" "size" "I" (.int (0 : Int32)) ∧ Fld Z h ps "com/example/clearingd/clearingd/store/PositionSet" "overflowed" "Z" (.int (0 : Int32)) ∧ Arv Z h sa ks .long z (own_T M own_E) (.long (0 : Int64)) ∧ Arv Z h ta kt .int cz (own_G C g) (.int (0 : Int32))
theorem d8_10 : decode prog_44_method_5_code 10 = .ok (.aload_n 0, 1) := by decide +kernel
theorem d8_11 : decode prog_44_method_5_code 11 = .ok (.getfield 25, 3) := by decide +kernel
theorem d8_14 : decode prog_44_method_5_code 14 = .ok (.aload_n 0, 1) := by decide +kernel
theorem d8_15 : decode prog_44_method_5_code 15 = .ok (.getfield 29, 3) := by decide +kernel
theorem d8_18 : decode prog_44_method_5_code 18 = .ok (.iload_n 1, 1) := by decide +kernel
theorem d8_19 : decode prog_44_method_5_code 19 = .ok (.iaload, 1) := by decide +kernel
theorem d8_20 : decode prog_44_method_5_code 20 = .ok (.ldc2_w 33, 3) := by decide +kernel
theorem d8_23 : decode prog_44_method_5_code 23 = .ok (.lastore, 1) := by decide +kernel
theorem d8_24 : decode prog_44_method_5_code 24 = .ok (.iinc 1 1, 3) := by decide +kernel
theorem d8_27 : decode prog_44_method_5_code 27 = .ok (.goto (-25), 3) := by decide +kernel
set_option maxRecDepth 65536 in
set_option maxHeartbeats 40000000 in
theorem rmclr1 (l : Launch) (Z : State) (a0 : Array Value) (hw : ∀ d ∈ tables_1, d.before a0 Z = true) (ws : List Jvm.Cond) (ps : Addr) (sa : Addr) (ta : Addr) (ks : ClassId) (kt : ClassId) (z : Int32) (M : Nat) (cz : Int32) (C : Nat) (f : Nat → Int64) (g : Nat → Int32) (ov : Int32) (h0 : Heap) (n0 : Nat) (Z0 : n0 ≤ h0.size) (E : Exa Z h0 ps "com/example/clearingd/clearingd/store/PositionSet") (Fslots : Fld Z h0 ps "com/example/clearingd/clearingd/store/PositionSet" "slots" "[J" (.ref sa)) (Ftaken : Fld Z h0 ps "com/example/clearingd/clearingd/store/PositionSet" "taken" "[I" (.ref ta)) (Fcapacity : Fld Z h0 ps "com/example/clearingd/clearingd/store/PositionSet" "capacity" "I" (.int cz)) (Fsize : Fld Z h0 ps "com/example/clearingd/clearingd/store/PositionSet" "size" "I" (.int (1 : Int32))) (Foverflowed : Fld Z h0 ps "com/example/clearingd/clearingd/store/PositionSet" "overflowed" "Z" (.int ov)) (VS : Arv Z h0 sa ks .long z (own_T M f) (.long (0 : Int64))) (VT : Arv Z h0 ta kt .int cz (own_G C g) (.int (0 : Int32))) (g_ps : n0 ≤ ps) (g_sa : n0 ≤ sa) (g_ta : n0 ≤ ta) (n1 : sa ≠ ps) (n2 : ta ≠ ps) (n3 : sa ≠ ta) (hz : z.toInt = (M : Int)) (hM : 4 ≤ M ∧ M ≤ 16) (hmk : ∀ x : Int32, (x &&& (z - (1 : Int32))).toInt = x.toInt % (M : Int)) (hcz : cz.toInt = (C : Int)) (hI : own_Inv M f g (1 : Int32) 3 C) :
    MetFree l (⟨"com/example/clearingd/clearingd/store/PositionSet", "clear", "()V"⟩ : MethodName) (head1 (Jvm.Cond.code (⟨"com/example/clearingd/clearingd/store/PositionSet", "clear", "()V"⟩ : MethodName) prog_44_method_5_code 2 none :: ws) ({ frames := 0, cells := 0, slots := 0, locals := 0 } : Room)) (fun a U => a = #[(.ref ps)] ∧ Z.Warmed39 U.vm ∧ U.heap = h0) (fun _ _ _ _ _ => True) (fun _ U o U' => ∃ v L, o = .returned v ∧ Qclr1 Z ps sa ta ks kt z M cz C f g ov h0 n0 v U'.heap L ∧ FrameEnd U o U' L ({ frames := 0, cells := 0, slots := 0, locals := 0 } : Room).cells ({ frames := 0, cells := 0, slots := 0, locals := 0 } : Room).slots) := by
  refine MetFree.of_bodySF (plainFor_of_name pn_4) hisR ?_
  intro p e s m args below meth c s₁ Bd hml0 hP hK
  obtain ⟨rfl, hZ, hh⟩ := hP
  have hx := Bd.exec
  have hby := Bd.bytes
  have hml : c.maxLocals = 2 := hml0
  have hown : s.vm.findClass "com/example/clearingd/clearingd/store/PositionSet" = some m.cls := findClass_of_methodNamed Bd.named
  have hnm := (name_of_methodNamed Bd.named Bd.method).1
  have hlk : meth.locks = false := BodyLoose.notSynchronized Bd
  have X0 : Stand p l e ({ frames := 0, cells := 0, slots := 0, locals := 0 } : Room) s m #[(.ref ps)] below meth c s₁ [] 0 0 := Stand.of_body Bd
  have e0 : s₁.heap = h0 := by rw [← hh, Bd.state]; rfl
  have N0 := Fr.nil n0
  show OEnds p.tables e below (OGoal (Qclr1 Z ps sa ta ks kt z M cz C f g ov h0 n0) s 0 0) (s₁.setTop (entryFrame m #[(.ref ps)] 2))
  refine OEnds.st (fun t k => castTop (ef_clr1 m ps) k) ?_
  generalize hG : OGoal (Qclr1 Z ps sa ta ks kt z M cz C f g ov h0 n0) s 0 0 = G
  have KK0 : Keep h0 h0 [ps, sa, ta] := Keep.refl h0 [ps, sa, ta]
  show OEnds p.tables e below G (s₁.setTop (mkF m 0 #[.val (.ref ps), .unset] []))
  refine OEnds.st (fun _ k => XS.iconst X0.here hx rfl (hb hby d8_0) k) ?_
  show OEnds p.tables e below G (s₁.setTop (mkF m 1 #[.val (.ref ps), .unset] [(.int (0 : Int32))]))
  refine OEnds.st (fun _ k => XS.istoreN X0.here hx rfl (hb hby d8_1) rfl (l' := #[.val (.ref ps), .val (.int (0 : Int32))]) rfl k) ?_
  show OEnds p.tables e below G (s₁.setTop (mkF m 2 #[.val (.ref ps), .val (.int (0 : Int32))] []))
  refine OEnds.st (fun _ k => XS.iloadN X0.here hx rfl (hb hby d8_2) rfl k) ?_
  show OEnds p.tables e below G (s₁.setTop (mkF m 3 #[.val (.ref ps), .val (.int (0 : Int32))] [(.int (0 : Int32))]))
  refine OEnds.st (fun _ k => XS.aloadN X0.here hx rfl (hb hby d8_3) rfl rfl k) ?_
  show OEnds p.tables e below G (s₁.setTop (mkF m 4 #[.val (.ref ps), .val (.int (0 : Int32))] [(.ref ps), (.int (0 : Int32))]))
  obtain ⟨T1001, X1001, e1001, st1001⟩ := getF X0 hx hZ hown (host := "") (Or.inl (hw _ (List.mem_of_getElem? (i := 45) rfl))) Via.refl e0 Fsize (g := (mkF m 4 #[.val (.ref ps), .val (.int (0 : Int32))] [(.ref ps), (.int (0 : Int32))])) rfl rfl (hb hby d8_4)
  refine OEnds.st st1001 ?_
  clear st1001
  show OEnds p.tables e below G (T1001.setTop (mkF m 7 #[.val (.ref ps), .val (.int (0 : Int32))] [(.int (1 : Int32)), (.int (0 : Int32))]))
  refine OEnds.st (fun _ k => XS.icmpNo X1001.here hx rfl (hb hby d8_7) rfl (tlt (by decide : (0 : Int32) < (1 : Int32))).2.1 k) ?_
  show OEnds p.tables e below G (T1001.setTop (mkF m 10 #[.val (.ref ps), .val (.int (0 : Int32))] []))
  refine OEnds.st (fun _ k => XS.aloadN X1001.here hx rfl (hb hby d8_10) rfl rfl k) ?_
  show OEnds p.tables e below G (T1001.setTop (mkF m 11 #[.val (.ref ps), .val (.int (0 : Int32))] [(.ref ps)]))
  obtain ⟨T1002, X1002, e1002, st1002⟩ := getF X1001 hx hZ hown (host := "") (Or.inl (hw _ (List.mem_of_getElem? (i := 30) rfl))) Via.refl e1001 Fslots (g := (mkF m 11 #[.val (.ref ps), .val (.int (0 : Int32))] [(.ref ps)])) rfl rfl (hb hby d8_11)
  refine OEnds.st st1002 ?_
  clear st1002
  show OEnds p.tables e below G (T1002.setTop (mkF m 14 #[.val (.ref ps), .val (.int (0 : Int32))] [(.ref sa)]))
  refine OEnds.st (fun _ k => XS.aloadN X1002.here hx rfl (hb hby d8_14) rfl rfl k) ?_
  show OEnds p.tables e below G (T1002.setTop (mkF m 15 #[.val (.ref ps), .val (.int (0 : Int32))] [(.ref ps), (.ref sa)]))
  obtain ⟨T1003, X1003, e1003, st1003⟩ := getF X1002 hx hZ hown (host := "") (Or.inl (hw _ (List.mem_of_getElem? (i := 33) rfl))) Via.refl e1002 Ftaken (g := (mkF m 15 #[.val (.ref ps), .val (.int (0 : Int32))] [(.ref ps), (.ref sa)])) rfl rfl (hb hby d8_15)
  refine OEnds.st st1003 ?_
  clear st1003
  show OEnds p.tables e below G (T1003.setTop (mkF m 18 #[.val (.ref ps), .val (.int (0 : Int32))] [(.ref ta), (.ref sa)]))
  refine OEnds.st (fun _ k => XS.iloadN X1003.here hx rfl (hb hby d8_18) rfl k) ?_
  show OEnds p.tables e below G (T1003.setTop (mkF m 19 #[.val (.ref ps), .val (.int (0 : Int32))] [(.int (0 : Int32)), (.ref ta), (.ref sa)]))
  obtain ⟨cl1004, Ar1004, q1004, S1004, N1004n, H1004, G1004⟩ := id VT
  have hb1004 : 0 ≤ ((0 : Int32)).toInt ∧ ((0 : Int32)).toInt < C := ⟨by decide, by have q1 := hI.2.2.1; have q2 : ((1 : Int32) : Int32).toInt = 1 := (by decide); have q3 : ((0 : Int32)).toInt = 0 := (by decide); omega⟩
  have hin1004 : ¬ ((0 : Int32) < 0 ∨ cl1004.slots.size ≤ ((0 : Int32)).toNatClampNeg) := inb_of S1004 ⟨own_nl hb1004, own_lz hcz hb1004⟩
  have hat1004 : cl1004.slots[((0 : Int32)).toNatClampNeg]? = some (.int (g (0 : Int32).toNatClampNeg)) := H1004.at hin1004 (own_G_get _ (own_jl hb1004) _)
  refine OEnds.st (X1003.iaload hx (j := (0 : Int32)) (v := (.int (g (0 : Int32).toNatClampNeg))) (by rw [e1003]; exact Ar1004.1) (State.isArrayOf_alike hZ.alike Ar1004.2.1) Ar1004.2.2 hin1004 hat1004 (g := (mkF m 19 #[.val (.ref ps), .val (.int (0 : Int32))] [(.int (0 : Int32)), (.ref ta), (.ref sa)])) rfl rfl (hb hby d8_19)) ?_
  show OEnds p.tables e below G (T1003.setTop (mkF m 20 #[.val (.ref ps), .val (.int (0 : Int32))] [(.int (g (0 : Int32).toNatClampNeg)), (.ref sa)]))
  refine OEnds.st (X1003.ldc2Long hx hown (mvT hZ (hw _ (List.mem_of_getElem? (i := 35) rfl))) (g := (mkF m 20 #[.val (.ref ps), .val (.int (0 : Int32))] [(.int (g (0 : Int32).toNatClampNeg)), (.ref sa)])) rfl (hb hby d8_20)) ?_
  show OEnds p.tables e below G (T1003.setTop (mkF m 23 #[.val (.ref ps), .val (.int (0 : Int32))] [(.long (-1 : Int64)), (.int (g (0 : Int32).toNatClampNeg)), (.ref sa)]))
  obtain ⟨cl1005, Ar1005, q1005, S1005, N1005n, H1005, G1005⟩ := id VS
  have hg1005 : 0 ≤ ((g (0 : Int32).toNatClampNeg)).toInt ∧ ((g (0 : Int32).toNatClampNeg)).toInt < M := hI.2.2.2.2 0 (by decide)
  have hin1005 : ¬ ((g (0 : Int32).toNatClampNeg) < 0 ∨ cl1005.slots.size ≤ ((g (0 : Int32).toNatClampNeg)).toNatClampNeg) := inb_of S1005 ⟨own_nl hg1005, own_lz hz hg1005⟩
  obtain ⟨T1005, h1005, X1005, e1005, W1005, st1005⟩ := stJ X1003 hx hZ e1003 Ar1005 (j := (g (0 : Int32).toNatClampNeg)) hin1005 (g := (mkF m 23 #[.val (.ref ps), .val (.int (0 : Int32))] [(.long (-1 : Int64)), (.int (g (0 : Int32).toNatClampNeg)), (.ref sa)])) rfl rfl (hb hby d8_23)
  refine OEnds.st st1005 ?_
  clear st1005
  have f1006 : Arv Z h1005 sa ks .long z ((own_T M f).set ((g (0 : Int32).toNatClampNeg)).toNatClampNeg (.long (-1 : Int64))) (.long (0 : Int64)) := Arv.set Ar1005 q1005 S1005 N1005n H1005 G1005 rfl W1005 ((g (0 : Int32).toNatClampNeg)).toNatClampNeg rfl (own_jT _ hg1005)
  have f1007 : Exa Z h1005 ps "com/example/clearingd/clearingd/store/PositionSet" := E.wr W1005
  have f1008 : Fld Z h1005 ps "com/example/clearingd/clearingd/store/PositionSet" "slots" "[J" (.ref sa) := Fslots.other W1005 (Or.inl (Ne.symm n1))
  have f1009 : Fld Z h1005 ps "com/example/clearingd/clearingd/store/PositionSet" "taken" "[I" (.ref ta) := Ftaken.other W1005 (Or.inl (Ne.symm n1))
  have f1010 : Fld Z h1005 ps "com/example/clearingd/clearingd/store/PositionSet" "capacity" "I" (.int cz) := Fcapacity.other W1005 (Or.inl (Ne.symm n1))
  have f1011 : Fld Z h1005 ps "com/example/clearingd/clearingd/store/PositionSet" "size" "I" (.int (1 : Int32)) := Fsize.other W1005 (Or.inl (Ne.symm n1))
  have f1012 : Fld Z h1005 ps "com/example/clearingd/clearingd/store/PositionSet" "overflowed" "Z" (.int ov) := Foverflowed.other W1005 (Or.inl (Ne.symm n1))
  have f1013 : Arv Z h1005 ta kt .int cz (own_G C g) (.int (0 : Int32)) := VT.other W1005 (Ne.symm n3)
  have N1005 := Fr.snoc X1005 N0 g_sa
  have KK1005 : Keep h0 h1005 [ps, sa, ta] := KK0.wr W1005 (Or.inl (List.mem_of_getElem? (i := 1) rfl))
  have Z1005 := Nat.le_trans Z0 (Keep.of_wr W1005).1
  rw [own_T_set] at f1006
  show OEnds p.tables e below G (T1005.setTop (mkF m 24 #[.val (.ref ps), .val (.int (0 : Int32))] []))
  refine OEnds.st (fun _ k => XS.iinc X1005.here hx rfl (hb hby d8_24) rfl (l' := #[.val (.ref ps), .val (.int ((0 : Int32) + (1 : Int32)))]) rfl k) ?_
  show OEnds p.tables e below G (T1005.setTop (mkF m 27 #[.val (.ref ps), .val (.int ((0 : Int32) + (1 : Int32)))] []))
  rw [show ((0 : Int32) + (1 : Int32)) = (1 : Int32) from by decide]
  show OEnds p.tables e below G (T1005.setTop (mkF m 27 #[.val (.ref ps), .val (.int (1 : Int32))] []))
  refine OEnds.st (fun _ k => XS.goto X1005.here hx rfl (pc0 := 27) (pc' := 2) rfl (hb hby d8_27) (by decide) (by decide) k) ?_
  show OEnds p.tables e below G (T1005.setTop (mkF m 2 #[.val (.ref ps), .val (.int (1 : Int32))] []))
  refine OEnds.st (fun _ k => XS.iloadN X1005.here hx rfl (hb hby d8_2) rfl k) ?_
  show OEnds p.tables e below G (T1005.setTop (mkF m 3 #[.val (.ref ps), .val (.int (1 : Int32))] [(.int (1 : Int32))]))
  refine OEnds.st (fun _ k => XS.aloadN X1005.here hx rfl (hb hby d8_3) rfl rfl k) ?_
  show OEnds p.tables e below G (T1005.setTop (mkF m 4 #[.val (.ref ps), .val (.int (1 : Int32))] [(.ref ps), (.int (1 : Int32))]))
  obtain ⟨T1014, X1014, e1014, st1014⟩ := getF X1005 hx hZ hown (host := "") (Or.inl (hw _ (List.mem_of_getElem? (i := 45) rfl))) Via.refl e1005 f1011 (g := (mkF m 4 #[.val (.ref ps), .val (.int (1 : Int32))] [(.ref ps), (.int (1 : Int32))])) rfl rfl (hb hby d8_4)
  refine OEnds.st st1014 ?_
  clear st1014
  show OEnds p.tables e below G (T1014.setTop (mkF m 7 #[.val (.ref ps), .val (.int (1 : Int32))] [(.int (1 : Int32)), (.int (1 : Int32))]))
  refine OEnds.st (fun _ k => XS.icmpYes X1014.here hx rfl (pc0 := 7) (pc' := 30) rfl (hb hby d8_7) rfl (flt (by decide : ¬ ((1 : Int32) < (1 : Int32)))).2.1 (by decide) (by decide) k) ?_
  show OEnds p.tables e below G (T1014.setTop (mkF m 30 #[.val (.ref ps), .val (.int (1 : Int32))] []))
  refine OEnds.st (fun _ k => XS.aloadN X1014.here hx rfl (hb hby d8_30) rfl rfl k) ?_
  show OEnds p.tables e below G (T1014.setTop (mkF m 31 #[.val (.ref ps), .val (.int (1 : Int32))] [(.ref ps)]))
  refine OEnds.st (fun _ k => XS.iconst X1014.here hx rfl (hb hby d8_31) k) ?_
  show OEnds p.tables e below G (T1014.setTop (mkF m 32 #[.val (.ref ps), .val (.int (1 : Int32))] [(.int (0 : Int32)), (.ref ps)]))
  obtain ⟨T1015, h1015, X1015, e1015, W1015, st1015⟩ := putF X1014 hx hZ hown (host := "") (Or.inl (hw _ (List.mem_of_getElem? (i := 45) rfl))) Via.refl e1014 f1011 f1007 (Or.inl (hw _ (List.mem_of_getElem? (i := 46) rfl))) (hw _ (List.mem_of_getElem? (i := 6) rfl)) (ty := .int) (by decide) rfl rfl (g := (mkF m 32 #[.val (.ref ps), .val (.int (1 : Int32))] [(.int (0 : Int32)), (.ref ps)])) rfl rfl (hb hby d8_32)
  refine OEnds.st st1015 ?_
  clear st1015
  have f1016 : Fld Z h1015 ps "com/example/clearingd/clearingd/store/PositionSet" "size" "I" (.int (0 : Int32)) := f1011.same W1015
  have f1017 : Exa Z h1015 ps "com/example/clearingd/clearingd/store/PositionSet" := f1007.wr W1015
  have f1018 : Fld Z h1015 ps "com/example/clearingd/clearingd/store/PositionSet" "slots" "[J" (.ref sa) := f1008.other W1015 (Or.inr (slot_ne (Or.inr (hw _ (List.mem_of_getElem? (i := 31) rfl))) (Or.inl (hw _ (List.mem_of_getElem? (i := 46) rfl))) (by decide) (t := (.array .long)) (t' := .int) (by decide) (by decide)))
  have f1019 : Fld Z h1015 ps "com/example/clearingd/clearingd/store/PositionSet" "taken" "[I" (.ref ta) := f1009.other W1015 (Or.inr (slot_ne (Or.inr (hw _ (List.mem_of_getElem? (i := 34) rfl))) (Or.inl (hw _ (List.mem_of_getElem? (i := 46) rfl))) (by decide) (t := (.array .int)) (t' := .int) (by decide) (by decide)))
  have f1020 : Fld Z h1015 ps "com/example/clearingd/clearingd/store/PositionSet" "capacity" "I" (.int cz) := f1010.other W1015 (Or.inr (slot_ne (Or.inr (hw _ (List.mem_of_getElem? (i := 19) rfl))) (Or.inl (hw _ (List.mem_of_getElem? (i := 46) rfl))) (by decide) (t := .int) (t' := .int) (by decide) (by decide)))
  have f1022 : Fld Z h1015 ps "com/example/clearingd/clearingd/store/PositionSet" "overflowed" "Z" (.int ov) := f1012.other W1015 (Or.inr (slot_ne (Or.inl (hw _ (List.mem_of_getElem? (i := 48) rfl))) (Or.inl (hw _ (List.mem_of_getElem? (i := 46) rfl))) (by decide) (t := .boolean) (t' := .int) (by decide) (by decide)))
  have f1023 : Arv Z h1015 ta kt .int cz (own_G C g) (.int (0 : Int32)) := f1013.other W1015 n2
  have f1024 : Arv Z h1015 sa ks .long z (own_T M (own_up f ((g (0 : Int32).toNatClampNeg)).toNatClampNeg (-1 : Int64))) (.long (0 : Int64)) := f1006.other W1015 n1
  have N1015 := Fr.snoc X1015 N1005 g_ps
  have KK1015 : Keep h0 h1015 [ps, sa, ta] := KK1005.wr W1015 (Or.inl (List.mem_of_getElem? (i := 0) rfl))
  have Z1015 := Nat.le_trans Z1005 (Keep.of_wr W1015).1
  show OEnds p.tables e below G (T1015.setTop (mkF m 35 #[.val (.ref ps), .val (.int (1 : Int32))] []))
  refine OEnds.st (fun _ k => XS.aloadN X1015.here hx rfl (hb hby d8_35) rfl rfl k) ?_
  show OEnds p.tables e below G (T1015.setTop (mkF m 36 #[.val (.ref ps), .val (.int (1 : Int32))] [(.ref ps)]))
  refine OEnds.st (fun _ k => XS.iconst X1015.here hx rfl (hb hby d8_36) k) ?_
  show OEnds p.tables e below G (T1015.setTop (mkF m 37 #[.val (.ref ps), .val (.int (1 : Int32))] [(.int (0 : Int32)), (.ref ps)]))
  obtain ⟨T1025, h1025, X1025, e1025, W1025, st1025⟩ := putFN X1015 hx hZ hown (hw _ (List.mem_of_getElem? (i := 47) rfl)) Via.refl e1015 f1022 f1017 (Or.inl (hw _ (List.mem_of_getElem? (i := 48) rfl))) (hw _ (List.mem_of_getElem? (i := 6) rfl)) (ty := .boolean) (v' := (.int (0 : Int32))) (by decide) rfl (by decide) (g := (mkF m 37 #[.val (.ref ps), .val (.int (1 : Int32))] [(.int (0 : Int32)), (.ref ps)])) rfl rfl (hb hby d8_37)
  refine OEnds.st st1025 ?_
  clear st1025
  have f1026 : Fld Z h1025 ps "com/example/clearingd/clearingd/store/PositionSet" "overflowed" "Z" (.int (0 : Int32)) := f1022.same W1025
  have f1027 : Exa Z h1025 ps "com/example/clearingd/clearingd/store/PositionSet" := f1017.wr W1025
  have f1028 : Fld Z h1025 ps "com/example/clearingd/clearingd/store/PositionSet" "slots" "[J" (.ref sa) := f1018.other W1025 (Or.inr (slot_ne (Or.inr (hw _ (List.mem_of_getElem? (i := 31) rfl))) (Or.inl (hw _ (List.mem_of_getElem? (i := 48) rfl))) (by decide) (t := (.array .long)) (t' := .boolean) (by decide) (by decide)))
  have f1029 : Fld Z h1025 ps "com/example/clearingd/clearingd/store/PositionSet" "taken" "[I" (.ref ta) := f1019.other W1025 (Or.inr (slot_ne (Or.inr (hw _ (List.mem_of_getElem? (i := 34) rfl))) (Or.inl (hw _ (List.mem_of_getElem? (i := 48) rfl))) (by decide) (t := (.array .int)) (t' := .boolean) (by decide) (by decide)))
  have f1030 : Fld Z h1025 ps "com/example/clearingd/clearingd/store/PositionSet" "capacity" "I" (.int cz) := f1020.other W1025 (Or.inr (slot_ne (Or.inr (hw _ (List.mem_of_getElem? (i := 19) rfl))) (Or.inl (hw _ (List.mem_of_getElem? (i := 48) rfl))) (by decide) (t := .int) (t' := .boolean) (by decide) (by decide)))
  have f1032 : Arv Z h1025 ta kt .int cz (own_G C g) (.int (0 : Int32)) := f1023.other W1025 n2
  have f1033 : Arv Z h1025 sa ks .long z (own_T M (own_up f ((g (0 : Int32).toNatClampNeg)).toNatClampNeg (-1 : Int64))) (.long (0 : Int64)) := f1024.other W1025 n1
  have f1034 : Fld Z h1025 ps "com/example/clearingd/clearingd/store/PositionSet" "size" "I" (.int (0 : Int32)) := f1016.other W1025 (Or.inr (slot_ne (Or.inl (hw _ (List.mem_of_getElem? (i := 46) rfl))) (Or.inl (hw _ (List.mem_of_getElem? (i := 48) rfl))) (by decide) (t := .int) (t' := .boolean) (by decide) (by decide)))
  have N1025 := Fr.snoc X1025 N1015 g_ps
  have KK1025 : Keep h0 h1025 [ps, sa, ta] := KK1015.wr W1025 (Or.inl (List.mem_of_getElem? (i := 0) rfl))
  have Z1025 := Nat.le_trans Z1015 (Keep.of_wr W1025).1
  show OEnds p.tables e below G (T1025.setTop (mkF m 40 #[.val (.ref ps), .val (.int (1 : Int32))] []))
  rw [← hG]
  have hall : ∀ i, i < M → (own_up f ((g (0 : Int32).toNatClampNeg)).toNatClampNeg (-1 : Int64)) i = -1 := by
    refine own_clr hI ?_ ?_
    · intro i hi
      refine own_upm i ?_
      exact hi
    · intro j hj
      have q2 : ((1 : Int32) : Int32).toInt = 1 := (by decide)
      have hj3 : j = 0 := by omega
      rcases hj3 with rfl
      · show _ = _
        simp [own_up]
  refine OEnds.retV X1025 hx hlk Bd.returns (hb hby d8_40) (by decide) (by decide) ?_
  rw [e1025]
  exact ⟨rfl, N1025, KK1025, f1027, f1028, f1029, f1030, f1034, f1026, (by rw [← own_T_emp hall]; exact f1033), f1032⟩
theorem ef_clr2 (m : MethodId) (ps : Addr) : entryFrame m #[(.ref ps)] 2 = mkF m 0 #[.val (.ref ps), .unset] [] := by first | (simp [entryFrame, mkF, argsToLocals, Value.category]; done) | rfl
def Qclr2 (Z : State) (ps : Addr) (sa : Addr) (ta : Addr) (ks : ClassId) (kt : ClassId) (z : Int32) (M : Nat) (cz : Int32) (C : Nat) (f : Nat → Int64) (g : Nat → Int32) (ov : Int32) (h0 : Heap) (n0 : Nat) (v : Option Value) (h : Heap) (L : List Loc) : Prop := v = none ∧ Fr n0 L ∧ Keep h0 h [ps, sa, ta] ∧ Exa Z h ps "com/example/clearingd/clearingd/store/PositionSet" ∧ Fld Z h ps "com/example/clearingd/clearingd/store/PositionSet" "slots" "[J" (.ref sa) ∧ Fld Z h ps "com/example/clearingd/clearingd/store/PositionSet" "taken" "[I" (.ref ta) ∧ Fld Z h ps "com/example/clearingd/clearingd/store/PositionSet" "capacity" "I" (.int cz) ∧ Fld Z h ps "com/example/clearingd/clearingd/store/PositionSet" "size" "I" (.int (0 : Int32)) ∧ Fld Z h ps "com/example/clearingd/clearingd/store/PositionSet" "overflowed" "Z" (.int (0 : Int32)) ∧ Arv Z h sa ks .long z (own_T M own_E) (.long (0 : Int64)) ∧ Arv Z h ta kt .int cz (own_G C g) (.int (0 : Int32))
set_option maxRecDepth 65536 in
set_option maxHeartbeats 40000000 in
theorem rmclr2 (l : Launch) (Z : State) (a0 : Array Value) (hw : ∀ d ∈ tables_1, d.before a0 Z = true) (ws : List Jvm.Cond) (ps : Addr) (sa : Addr) (ta : Addr) (ks : ClassId) (kt : ClassId) (z : Int32) (M : Nat) (cz : Int32) (C : Nat) (f : Nat → Int64) (g : Nat → Int32) (ov : Int32) (h0 : Heap) (n0 : Nat) (Z0 : n0 ≤ h0.size) (E : Exa Z h0 ps "com/example/clearingd/clearingd/store/PositionSet") (Fslots : Fld Z h0 ps "com/example/clearingd/clearingd/store/PositionSet" "slots" "[J" (.ref sa)) (Ftaken : Fld Z h0 ps "com/example/clearingd/clearingd/store/PositionSet" "taken" "[I" (.ref ta)) (Fcapacity : Fld Z h0 ps "com/example/clearingd/clearingd/store/PositionSet" "capacity" "I" (.int cz)) (Fsize : Fld Z h0 ps "com/example/clearingd/clearingd/store/PositionSet" "size" "I" (.int (2 : Int32))) (Foverflowed : Fld Z h0 ps "com/example/clearingd/clearingd/store/PositionSet" "overflowed" "Z" (.int ov)) (VS : Arv Z h0 sa ks .long z (own_T M f) (.long (0 : Int64))) (VT : Arv Z h0 ta kt .int cz (own_G C g) (.int (0 : Int32))) (g_ps : n0 ≤ ps) (g_sa : n0 ≤ sa) (g_ta : n0 ≤ ta) (n1 : sa ≠ ps) (n2 : ta ≠ ps) (n3 : sa ≠ ta) (hz : z.toInt = (M : Int)) (hM : 4 ≤ M ∧ M ≤ 16) (hmk : ∀ x : Int32, (x &&& (z - (1 : Int32))).toInt = x.toInt % (M : Int)) (hcz : cz.toInt = (C : Int)) (hI : own_Inv M f g (2 : Int32) 3 C) :
    MetFree l (⟨"com/example/clearingd/clearingd/store/PositionSet", "clear", "()V"⟩ : MethodName) (head1 (Jvm.Cond.code (⟨"com/example/clearingd/clearingd/store/PositionSet", "clear", "()V"⟩ : MethodName) prog_44_method_5_code 2 none :: ws) ({ frames := 0, cells := 0, slots := 0, locals := 0 } : Room)) (fun a U => a = #[(.ref ps)] ∧ Z.Warmed39 U.vm ∧ U.heap = h0) (fun _ _ _ _ _ => True) (fun _ U o U' => ∃ v L, o = .returned v ∧ Qclr2 Z ps sa ta ks kt z M cz C f g ov h0 n0 v U'.heap L ∧ FrameEnd U o U' L ({ frames := 0, cells := 0, slots := 0, locals := 0 } : Room).cells ({ frames := 0, cells := 0, slots := 0, locals := 0 } : Room).slots) := by
  refine MetFree.of_bodySF (plainFor_of_name pn_4) hisR ?_
  intro p e s m args below meth c s₁ Bd hml0 hP hK
  obtain ⟨rfl, hZ, hh⟩ := hP
  have hx := Bd.exec
  have hby := Bd.bytes
  have hml : c.maxLocals = 2 := hml0
  have hown : s.vm.findClass "com/example/clearingd/clearingd/store/PositionSet" = some m.cls := findClass_of_methodNamed Bd.named
  have hnm := (name_of_methodNamed Bd.named Bd.method).1
  have hlk : meth.locks = false := BodyLoose.notSynchronized Bd
  have X0 : Stand p l e ({ frames := 0, cells := 0, slots := 0, locals := 0 } : Room) s m #[(.ref ps)] below meth c s₁ [] 0 0 := Stand.of_body Bd
  have e0 : s₁.heap = h0 := by rw [← hh, Bd.state]; rfl
  have N0 := Fr.nil n0
  show OEnds p.tables e below (OGoal (Qclr2 Z ps sa ta ks kt z M cz C f g ov h0 n0) s 0 0) (s₁.setTop (entryFrame m #[(.ref ps)] 2))
  refine OEnds.st (fun t k => castTop (ef_clr2 m ps) k) ?_
  generalize hG : OGoal (Qclr2 Z ps sa ta ks kt z M cz C f g ov h0 n0) s 0 0 = G
  have KK0 : Keep h0 h0 [ps, sa, ta] := Keep.refl h0 [ps, sa, ta]
  show OEnds p.tables e below G (s₁.setTop (mkF m 0 #[.val (.ref ps), .unset] []))
  refine OEnds.st (fun _ k => XS.iconst X0.here hx rfl (hb hby d8_0) k) ?_
  show OEnds p.tables e below G (s₁.setTop (mkF m 1 #[.val (.ref ps), .unset] [(.int (0 : Int32))]))
  refine OEnds.st (fun _ k => XS.istoreN X0.here hx rfl (hb hby d8_1) rfl (l' := #[.val (.ref ps), .val (.int (0 : Int32))]) rfl k) ?_
  show OEnds p.tables e below G (s₁.setTop (mkF m 2 #[.val (.ref ps), .val (.int (0 : Int32))] []))
  refine OEnds.st (fun _ k => XS.iloadN X0.here hx rfl (hb hby d8_2) rfl k) ?_
  show OEnds p.tables e below G (s₁.setTop (mkF m 3 #[.val (.ref ps), .val (.int (0 : Int32))] [(.int (0 : Int32))]))
  refine OEnds.st (fun _ k => XS.aloadN X0.here hx rfl (hb hby d8_3) rfl rfl k) ?_
  show OEnds p.tables e below G (s₁.setTop (mkF m 4 #[.val (.ref ps), .val (.int (0 : Int32))] [(.ref ps), (.int (0 : Int32))]))
  obtain ⟨T1001, X1001, e1001, st1001⟩ := getF X0 hx hZ hown (host := "") (Or.inl (hw _ (List.mem_of_getElem? (i := 45) rfl))) Via.refl e0 Fsize (g := (mkF m 4 #[.val (.ref ps), .val (.int (0 : Int32))] [(.ref ps), (.int (0 : Int32))])) rfl rfl (hb hby d8_4)
  refine OEnds.st st1001 ?_
  clear st1001
  show OEnds p.tables e below G (T1001.setTop (mkF m 7 #[.val (.ref ps), .val (.int (0 : Int32))] [(.int (2 : Int32)), (.int (0 : Int32))]))
  refine OEnds.st (fun _ k => XS.icmpNo X1001.here hx rfl (hb hby d8_7) rfl (tlt (by decide : (0 : Int32) < (2 : Int32))).2.1 k) ?_
  show OEnds p.tables e below G (T1001.setTop (mkF m 10 #[.val (.ref ps), .val (.int (0 : Int32))] []))
  refine OEnds.st (fun _ k => XS.aloadN X1001.here hx rfl (hb hby d8_10) rfl rfl k) ?_
  show OEnds p.tables e below G (T1001.setTop (mkF m 11 #[.val (.ref ps), .val (.int (0 : Int32))] [(.ref ps)]))
  obtain ⟨T1002, X1002, e1002, st1002⟩ := getF X1001 hx hZ hown (host := "") (Or.inl (hw _ (List.mem_of_getElem? (i := 30) rfl))) Via.refl e1001 Fslots (g := (mkF m 11 #[.val (.ref ps), .val (.int (0 : Int32))] [(.ref ps)])) rfl rfl (hb hby d8_11)
  refine OEnds.st st1002 ?_
  clear st1002
  show OEnds p.tables e below G (T1002.setTop (mkF m 14 #[.val (.ref ps), .val (.int (0 : Int32))] [(.ref sa)]))
  refine OEnds.st (fun _ k => XS.aloadN X1002.here hx rfl (hb hby d8_14) rfl rfl k) ?_
  show OEnds p.tables e below G (T1002.setTop (mkF m 15 #[.val (.ref ps), .val (.int (0 : Int32))] [(.ref ps), (.ref sa)]))
  obtain ⟨T1003, X1003, e1003, st1003⟩ := getF X1002 hx hZ hown (host := "") (Or.inl (hw _ (List.mem_of_getElem? (i := 33) rfl))) Via.refl e1002 Ftaken (g := (mkF m 15 #[.val (.ref ps), .val (.int (0 : Int32))] [(.ref ps), (.ref sa)])) rfl rfl (hb hby d8_15)
  refine OEnds.st st1003 ?_
  clear st1003
  show OEnds p.tables e below G (T1003.setTop (mkF m 18 #[.val (.ref ps), .val (.int (0 : Int32))] [(.ref ta), (.ref sa)]))
  refine OEnds.st (fun _ k => XS.iloadN X1003.here hx rfl (hb hby d8_18) rfl k) ?_
  show OEnds p.tables e below G (T1003.setTop (mkF m 19 #[.val (.ref ps), .val (.int (0 : Int32))] [(.int (0 : Int32)), (.ref ta), (.ref sa)]))
  obtain ⟨cl1004, Ar1004, q1004, S1004, N1004n, H1004, G1004⟩ := id VT
  have hb1004 : 0 ≤ ((0 : Int32)).toInt ∧ ((0 : Int32)).toInt < C := ⟨by decide, by have q1 := hI.2.2.1; have q2 : ((2 : Int32) : Int32).toInt = 2 := (by decide); have q3 : ((0 : Int32)).toInt = 0 := (by decide); omega⟩
  have hin1004 : ¬ ((0 : Int32) < 0 ∨ cl1004.slots.size ≤ ((0 : Int32)).toNatClampNeg) := inb_of S1004 ⟨own_nl hb1004, own_lz hcz hb1004⟩
  have hat1004 : cl1004.slots[((0 : Int32)).toNatClampNeg]? = some (.int (g (0 : Int32).toNatClampNeg)) := H1004.at hin1004 (own_G_get _ (own_jl hb1004) _)
  refine OEnds.st (X1003.iaload hx (j := (0 : Int32)) (v := (.int (g (0 : Int32).toNatClampNeg))) (by rw [e1003]; exact Ar1004.1) (State.isArrayOf_alike hZ.alike Ar1004.2.1) Ar1004.2.2 hin1004 hat1004 (g := (mkF m 19 #[.val (.ref ps), .val (.int (0 : Int32))] [(.int (0 : Int32)), (.ref ta), (.ref sa)])) rfl rfl (hb hby d8_19)) ?_
  show OEnds p.tables e below G (T1003.setTop (mkF m 20 #[.val (.ref ps), .val (.int (0 : Int32))] [(.int (g (0 : Int32).toNatClampNeg)), (.ref sa)]))
  refine OEnds.st (X1003.ldc2Long hx hown (mvT hZ (hw _ (List.mem_of_getElem? (i := 35) rfl))) (g := (mkF m 20 #[.val (.ref ps), .val (.int (0 : Int32))] [(.int (g (0 : Int32).toNatClampNeg)), (.ref sa)])) rfl (hb hby d8_20)) ?_
  show OEnds p.tables e below G (T1003.setTop (mkF m 23 #[.val (.ref ps), .val (.int (0 : Int32))] [(.long (-1 : Int64)), (.int (g (0 : Int32).toNatClampNeg)), (.ref sa)]))
  obtain ⟨cl1005, Ar1005, q1005, S1005, N1005n, H1005, G1005⟩ := id VS
  have hg1005 : 0 ≤ ((g (0 : Int32).toNatClampNeg)).toInt ∧ ((g (0 : Int32).toNatClampNeg)).toInt < M := hI.2.2.2.2 0 (by decide)
  have hin1005 : ¬ ((g (0 : Int32).toNatClampNeg) < 0 ∨ cl1005.slots.size ≤ ((g (0 : Int32).toNatClampNeg)).toNatClampNeg) := inb_of S1005 ⟨own_nl hg1005, own_lz hz hg1005⟩
  obtain ⟨T1005, h1005, X1005, e1005, W1005, st1005⟩ := stJ X1003 hx hZ e1003 Ar1005 (j := (g (0 : Int32).toNatClampNeg)) hin1005 (g := (mkF m 23 #[.val (.ref ps), .val (.int (0 : Int32))] [(.long (-1 : Int64)), (.int (g (0 : Int32).toNatClampNeg)), (.ref sa)])) rfl rfl (hb hby d8_23)
  refine OEnds.st st1005 ?_
  clear st1005
  have f1006 : Arv Z h1005 sa ks .long z ((own_T M f).set ((g (0 : Int32).toNatClampNeg)).toNatClampNeg (.long (-1 : Int64))) (.long (0 : Int64)) := Arv.set Ar1005 q1005 S1005 N1005n H1005 G1005 rfl W1005 ((g (0 : Int32).toNatClampNeg)).toNatClampNeg rfl (own_jT _ hg1005)
  have f1007 : Exa Z h1005 ps "com/example/clearingd/clearingd/store/PositionSet" := E.wr W1005
  have f1008 : Fld Z h1005 ps "com/example/clearingd/clearingd/store/PositionSet" "slots" "[J" (.ref sa) := Fslots.other W1005 (Or.inl (Ne.symm n1))
  have f1009 : Fld Z h1005 ps "com/example/clearingd/clearingd/store/PositionSet" "taken" "[I" (.ref ta) := Ftaken.other W1005 (Or.inl (Ne.symm n1))
  have f1010 : Fld Z h1005 ps "com/example/clearingd/clearingd/store/PositionSet" "capacity" "I" (.int cz) := Fcapacity.other W1005 (Or.inl (Ne.symm n1))
  have f1011 : Fld Z h1005 ps "com/example/clearingd/clearingd/store/PositionSet" "size" "I" (.int (2 : Int32)) := Fsize.other W1005 (Or.inl (Ne.symm n1))
  have f1012 : Fld Z h1005 ps "com/example/clearingd/clearingd/store/PositionSet" "overflowed" "Z" (.int ov) := Foverflowed.other W1005 (Or.inl (Ne.symm n1))
  have f1013 : Arv Z h1005 ta kt .int cz (own_G C g) (.int (0 : Int32)) := VT.other W1005 (Ne.symm n3)
  have N1005 := Fr.snoc X1005 N0 g_sa
  have KK1005 : Keep h0 h1005 [ps, sa, ta] := KK0.wr W1005 (Or.inl (List.mem_of_getElem? (i := 1) rfl))
  have Z1005 := Nat.le_trans Z0 (Keep.of_wr W1005).1
  rw [own_T_set] at f1006
  show OEnds p.tables e below G (T1005.setTop (mkF m 24 #[.val (.ref ps), .val (.int (0 : Int32))] []))
  refine OEnds.st (fun _ k => XS.iinc X1005.here hx rfl (hb hby d8_24) rfl (l' := #[.val (.ref ps), .val (.int ((0 : Int32) + (1 : Int32)))]) rfl k) ?_
  show OEnds p.tables e below G (T1005.setTop (mkF m 27 #[.val (.ref ps), .val (.int ((0 : Int32) + (1 : Int32)))] []))
  rw [show ((0 : Int32) + (1 : Int32)) = (1 : Int32) from by decide]
  show OEnds p.tables e below G (T1005.setTop (mkF m 27 #[.val (.ref ps), .val (.int (1 : Int32))] []))
  refine OEnds.st (fun _ k => XS.goto X1005.here hx rfl (pc0 := 27) (pc' := 2) rfl (hb hby d8_27) (by decide) (by decide) k) ?_
  show OEnds p.tables e below G (T1005.setTop (mkF m 2 #[.val (.ref ps), .val (.int (1 : Int32))] []))
  refine OEnds.st (fun _ k => XS.iloadN X1005.here hx rfl (hb hby d8_2) rfl k) ?_
  show OEnds p.tables e below G (T1005.setTop (mkF m 3 #[.val (.ref ps), .val (.int (1 : Int32))] [(.int (1 : Int32))]))
  refine OEnds.st (fun _ k => XS.aloadN X1005.here hx rfl (hb hby d8_3) rfl rfl k) ?_
  show OEnds p.tables e below G (T1005.setTop (mkF m 4 #[.val (.ref ps), .val (.int (1 : Int32))] [(.ref ps), (.int (1 : Int32))]))
  obtain ⟨T1014, X1014, e1014, st1014⟩ := getF X1005 hx hZ hown (host := "") (Or.inl (hw _ (List.mem_of_getElem? (i := 45) rfl))) Via.refl e1005 f1011 (g := (mkF m 4 #[.val (.ref ps), .val (.int (1 : Int32))] [(.ref ps), (.int (1 : Int32))])) rfl rfl (hb hby d8_4)
  refine OEnds.st st1014 ?_
  clear st1014
  show OEnds p.tables e below G (T1014.setTop (mkF m 7 #[.val (.ref ps), .val (.int (1 : Int32))] [(.int (2 : Int32)), (.int (1 : Int32))]))
  refine OEnds.st (fun _ k => XS.icmpNo X1014.here hx rfl (hb hby d8_7) rfl (tlt (by decide : (1 : Int32) < (2 : Int32))).2.1 k) ?_
  show OEnds p.tables e below G (T1014.setTop (mkF m 10 #[.val (.ref ps), .val (.int (1 : Int32))] []))
  refine OEnds.st (fun _ k => XS.aloadN X1014.here hx rfl (hb hby d8_10) rfl rfl k) ?_
  show OEnds p.tables e below G (T1014.setTop (mkF m 11 #[.val (.ref ps), .val (.int (1 : Int32))] [(.ref ps)]))
  obtain ⟨T1015, X1015, e1015, st1015⟩ := getF X1014 hx hZ hown (host := "") (Or.inl (hw _ (List.mem_of_getElem? (i := 30) rfl))) Via.refl e1014 f1008 (g := (mkF m 11 #[.val (.ref ps), .val (.int (1 : Int32))] [(.ref ps)])) rfl rfl (hb hby d8_11)
  refine OEnds.st st1015 ?_
  clear st1015
  show OEnds p.tables e below G (T1015.setTop (mkF m 14 #[.val (.ref ps), .val (.int (1 : Int32))] [(.ref sa)]))
  refine OEnds.st (fun _ k => XS.aloadN X1015.here hx rfl (hb hby d8_14) rfl rfl k) ?_
  show OEnds p.tables e below G (T1015.setTop (mkF m 15 #[.val (.ref ps), .val (.int (1 : Int32))] [(.ref ps), (.ref sa)]))
  obtain ⟨T1016, X1016, e1016, st1016⟩ := getF X1015 hx hZ hown (host := "") (Or.inl (hw _ (List.mem_of_getElem? (i := 33) rfl))) Via.refl e1015 f1009 (g := (mkF m 15 #[.val (.ref ps), .val (.int (1 : Int32))] [(.ref ps), (.ref sa)])) rfl rfl (hb hby d8_15)
  refine OEnds.st st1016 ?_
  clear st1016
  show OEnds p.tables e below G (T1016.setTop (mkF m 18 #[.val (.ref ps), .val (.int (1 : Int32))] [(.ref ta), (.ref sa)]))
  refine OEnds.st (fun _ k => XS.iloadN X1016.here hx rfl (hb hby d8_18) rfl k) ?_
  show OEnds p.tables e below G (T1016.setTop (mkF m 19 #[.val (.ref ps), .val (.int (1 : Int32))] [(.int (1 : Int32)), (.ref ta), (.ref sa)]))
  obtain ⟨cl1017, Ar1017, q1017, S1017, N1017n, H1017, G1017⟩ := id f1013
  have hb1017 : 0 ≤ ((1 : Int32)).toInt ∧ ((1 : Int32)).toInt < C := ⟨by decide, by have q1 := hI.2.2.1; have q2 : ((2 : Int32) : Int32).toInt = 2 := (by decide); have q3 : ((1 : Int32)).toInt = 1 := (by decide); omega⟩
  have hin1017 : ¬ ((1 : Int32) < 0 ∨ cl1017.slots.size ≤ ((1 : Int32)).toNatClampNeg) := inb_of S1017 ⟨own_nl hb1017, own_lz hcz hb1017⟩
  have hat1017 : cl1017.slots[((1 : Int32)).toNatClampNeg]? = some (.int (g (1 : Int32).toNatClampNeg)) := H1017.at hin1017 (own_G_get _ (own_jl hb1017) _)
  refine OEnds.st (X1016.iaload hx (j := (1 : Int32)) (v := (.int (g (1 : Int32).toNatClampNeg))) (by rw [e1016]; exact Ar1017.1) (State.isArrayOf_alike hZ.alike Ar1017.2.1) Ar1017.2.2 hin1017 hat1017 (g := (mkF m 19 #[.val (.ref ps), .val (.int (1 : Int32))] [(.int (1 : Int32)), (.ref ta), (.ref sa)])) rfl rfl (hb hby d8_19)) ?_
  show OEnds p.tables e below G (T1016.setTop (mkF m 20 #[.val (.ref ps), .val (.int (1 : Int32))] [(.int (g (1 : Int32).toNatClampNeg)), (.ref sa)]))
  refine OEnds.st (X1016.ldc2Long hx hown (mvT hZ (hw _ (List.mem_of_getElem? (i := 35) rfl))) (g := (mkF m 20 #[.val (.ref ps), .val (.int (1 : Int32))] [(.int (g (1 : Int32).toNatClampNeg)), (.ref sa)])) rfl (hb hby d8_20)) ?_
  show OEnds p.tables e below G (T1016.setTop (mkF m 23 #[.val (.ref ps), .val (.int (1 : Int32))] [(.long (-1 : Int64)), (.int (g (1 : Int32).toNatClampNeg)), (.ref sa)]))
  obtain ⟨cl1018, Ar1018, q1018, S1018, N1018n, H1018, G1018⟩ := id f1006
  have hg1018 : 0 ≤ ((g (1 : Int32).toNatClampNeg)).toInt ∧ ((g (1 : Int32).toNatClampNeg)).toInt < M := hI.2.2.2.2 1 (by decide)
  have hin1018 : ¬ ((g (1 : Int32).toNatClampNeg) < 0 ∨ cl1018.slots.size ≤ ((g (1 : Int32).toNatClampNeg)).toNatClampNeg) := inb_of S1018 ⟨own_nl hg1018, own_lz hz hg1018⟩
  obtain ⟨T1018, h1018, X1018, e1018, W1018, st1018⟩ := stJ X1016 hx hZ e1016 Ar1018 (j := (g (1 : Int32).toNatClampNeg)) hin1018 (g := (mkF m 23 #[.val (.ref ps), .val (.int (1 : Int32))] [(.long (-1 : Int64)), (.int (g (1 : Int32).toNatClampNeg)), (.ref sa)])) rfl rfl (hb hby d8_23)
  refine OEnds.st st1018 ?_
  clear st1018
  have f1019 : Arv Z h1018 sa ks .long z ((own_T M (own_up f ((g (0 : Int32).toNatClampNeg)).toNatClampNeg (-1 : Int64))).set ((g (1 : Int32).toNatClampNeg)).toNatClampNeg (.long (-1 : Int64))) (.long (0 : Int64)) := Arv.set Ar1018 q1018 S1018 N1018n H1018 G1018 rfl W1018 ((g (1 : Int32).toNatClampNeg)).toNatClampNeg rfl (own_jT _ hg1018)
  have f1020 : Exa Z h1018 ps "com/example/clearingd/clearingd/store/PositionSet" := f1007.wr W1018
  have f1021 : Fld Z h1018 ps "com/example/clearingd/clearingd/store/PositionSet" "slots" "[J" (.ref sa) := f1008.other W1018 (Or.inl (Ne.symm n1))
  have f1022 : Fld Z h1018 ps "com/example/clearingd/clearingd/store/PositionSet" "taken" "[I" (.ref ta) := f1009.other W1018 (Or.inl (Ne.symm n1))
  have f1023 : Fld Z h1018 ps "com/example/clearingd/clearingd/store/PositionSet" "capacity" "I" (.int cz) := f1010.other W1018 (Or.inl (Ne.symm n1))
  have f1024 : Fld Z h1018 ps "com/example/clearingd/clearingd/store/PositionSet" "size" "I" (.int (2 : Int32)) := f1011.other W1018 (Or.inl (Ne.symm n1))
  have f1025 : Fld Z h1018 ps "com/example/clearingd/clearingd/store/PositionSet" "overflowed" "Z" (.int ov) := f1012.other W1018 (Or.inl (Ne.symm n1))
  have f1026 : Arv Z h1018 ta kt .int cz (own_G C g) (.int (0 : Int32)) := f1013.other W1018 (Ne.symm n3)
  have N1018 := Fr.snoc X1018 N1005 g_sa
  have KK1018 : Keep h0 h1018 [ps, sa, ta] := KK1005.wr W1018 (Or.inl (List.mem_of_getElem? (i := 1) rfl))
  have Z1018 := Nat.le_trans Z1005 (Keep.of_wr W1018).1
  rw [own_T_set] at f1019
  show OEnds p.tables e below G (T1018.setTop (mkF m 24 #[.val (.ref ps), .val (.int (1 : Int32))] []))
  refine OEnds.st (fun _ k => XS.iinc X1018.here hx rfl (hb hby d8_24) rfl (l' := #[.val (.ref ps), .val (.int ((1 : Int32) + (1 : Int32)))]) rfl k) ?_
  show OEnds p.tables e below G (T1018.setTop (mkF m 27 #[.val (.ref ps), .val (.int ((1 : Int32) + (1 : Int32)))] []))
  rw [show ((1 : Int32) + (1 : Int32)) = (2 : Int32) from by decide]
  show OEnds p.tables e below G (T1018.setTop (mkF m 27 #[.val (.ref ps), .val (.int (2 : Int32))] []))
  refine OEnds.st (fun _ k => XS.goto X1018.here hx rfl (pc0 := 27) (pc' := 2) rfl (hb hby d8_27) (by decide) (by decide) k) ?_
  show OEnds p.tables e below G (T1018.setTop (mkF m 2 #[.val (.ref ps), .val (.int (2 : Int32))] []))
  refine OEnds.st (fun _ k => XS.iloadN X1018.here hx rfl (hb hby d8_2) rfl k) ?_
  show OEnds p.tables e below G (T1018.setTop (mkF m 3 #[.val (.ref ps), .val (.int (2 : Int32))] [(.int (2 : Int32))]))
  refine OEnds.st (fun _ k => XS.aloadN X1018.here hx rfl (hb hby d8_3) rfl rfl k) ?_
  show OEnds p.tables e below G (T1018.setTop (mkF m 4 #[.val (.ref ps), .val (.int (2 : Int32))] [(.ref ps), (.int (2 : Int32))]))
  obtain ⟨T1027, X1027, e1027, st1027⟩ := getF X1018 hx hZ hown (host := "") (Or.inl (hw _ (List.mem_of_getElem? (i := 45) rfl))) Via.refl e1018 f1024 (g := (mkF m 4 #[.val (.ref ps), .val (.int (2 : Int32))] [(.ref ps), (.int (2 : Int32))])) rfl rfl (hb hby d8_4)
  refine OEnds.st st1027 ?_
  clear st1027
  show OEnds p.tables e below G (T1027.setTop (mkF m 7 #[.val (.ref ps), .val (.int (2 : Int32))] [(.int (2 : Int32)), (.int (2 : Int32))]))
  refine OEnds.st (fun _ k => XS.icmpYes X1027.here hx rfl (pc0 := 7) (pc' := 30) rfl (hb hby d8_7) rfl (flt (by decide : ¬ ((2 : Int32) < (2 : Int32)))).2.1 (by decide) (by decide) k) ?_
  show OEnds p.tables e below G (T1027.setTop (mkF m 30 #[.val (.ref ps), .val (.int (2 : Int32))] []))
  refine OEnds.st (fun _ k => XS.aloadN X1027.here hx rfl (hb hby d8_30) rfl rfl k) ?_
  show OEnds p.tables e below G (T1027.setTop (mkF m 31 #[.val (.ref ps), .val (.int (2 : Int32))] [(.ref ps)]))
  refine OEnds.st (fun _ k => XS.iconst X1027.here hx rfl (hb hby d8_31) k) ?_
  show OEnds p.tables e below G (T1027.setTop (mkF m 32 #[.val (.ref ps), .val (.int (2 : Int32))] [(.int (0 : Int32)), (.ref ps)]))
  obtain ⟨T1028, h1028, X1028, e1028, W1028, st1028⟩ := putF X1027 hx hZ hown (host := "") (Or.inl (hw _ (List.mem_of_getElem? (i := 45) rfl))) Via.refl e1027 f1024 f1020 (Or.inl (hw _ (List.mem_of_getElem? (i := 46) rfl))) (hw _ (List.mem_of_getElem? (i := 6) rfl)) (ty := .int) (by decide) rfl rfl (g := (mkF m 32 #[.val (.ref ps), .val (.int (2 : Int32))] [(.int (0 : Int32)), (.ref ps)])) rfl rfl (hb hby d8_32)
  refine OEnds.st st1028 ?_
  clear st1028
  have f1029 : Fld Z h1028 ps "com/example/clearingd/clearingd/store/PositionSet" "size" "I" (.int (0 : Int32)) := f1024.same W1028
  have f1030 : Exa Z h1028 ps "com/example/clearingd/clearingd/store/PositionSet" := f1020.wr W1028
  have f1031 : Fld Z h1028 ps "com/example/clearingd/clearingd/store/PositionSet" "slots" "[J" (.ref sa) := f1021.other W1028 (Or.inr (slot_ne (Or.inr (hw _ (List.mem_of_getElem? (i := 31) rfl))) (Or.inl (hw _ (List.mem_of_getElem? (i := 46) rfl))) (by decide) (t := (.array .long)) (t' := .int) (by decide) (by decide)))
  have f1032 : Fld Z h1028 ps "com/example/clearingd/clearingd/store/PositionSet" "taken" "[I" (.ref ta) := f1022.other W1028 (Or.inr (slot_ne (Or.inr (hw _ (List.mem_of_getElem? (i := 34) rfl))) (Or.inl (hw _ (List.mem_of_getElem? (i := 46) rfl))) (by decide) (t := (.array .int)) (t' := .int) (by decide) (by decide)))
  have f1033 : Fld Z h1028 ps "com/example/clearingd/clearingd/store/PositionSet" "capacity" "I" (.int cz) := f1023.other W1028 (Or.inr (slot_ne (Or.inr (hw _ (List.mem_of_getElem? (i := 19) rfl))) (Or.inl (hw _ (List.mem_of_getElem? (i := 46) rfl))) (by decide) (t := .int) (t' := .int) (by decide) (by decide)))
  have f1035 : Fld Z h1028 ps "com/example/clearingd/clearingd/store/PositionSet" "overflowed" "Z" (.int ov) := f1025.other W1028 (Or.inr (slot_ne (Or.inl (hw _ (List.mem_of_getElem? (i := 48) rfl))) (Or.inl (hw _ (List.mem_of_getElem? (i := 46) rfl))) (by decide) (t := .boolean) (t' := .int) (by decide) (by decide)))
  have f1036 : Arv Z h1028 ta kt .int cz (own_G C g) (.int (0 : Int32)) := f1026.other W1028 n2
  have f1037 : Arv Z h1028 sa ks .long z (own_T M (own_up (own_up f ((g (0 : Int32).toNatClampNeg)).toNatClampNeg (-1 : Int64)) ((g (1 : Int32).toNatClampNeg)).toNatClampNeg (-1 : Int64))) (.long (0 : Int64)) := f1019.other W1028 n1
  have N1028 := Fr.snoc X1028 N1018 g_ps
  have KK1028 : Keep h0 h1028 [ps, sa, ta] := KK1018.wr W1028 (Or.inl (List.mem_of_getElem? (i := 0) rfl))
  have Z1028 := Nat.le_trans Z1018 (Keep.of_wr W1028).1
  show OEnds p.tables e below G (T1028.setTop (mkF m 35 #[.val (.ref ps), .val (.int (2 : Int32))] []))
  refine OEnds.st (fun _ k => XS.aloadN X1028.here hx rfl (hb hby d8_35) rfl rfl k) ?_
  show OEnds p.tables e below G (T1028.setTop (mkF m 36 #[.val (.ref ps), .val (.int (2 : Int32))] [(.ref ps)]))
  refine OEnds.st (fun _ k => XS.iconst X1028.here hx rfl (hb hby d8_36) k) ?_
  show OEnds p.tables e below G (T1028.setTop (mkF m 37 #[.val (.ref ps), .val (.int (2 : Int32))] [(.int (0 : Int32)), (.ref ps)]))
  obtain ⟨T1038, h1038, X1038, e1038, W1038, st1038⟩ := putFN X1028 hx hZ hown (hw _ (List.mem_of_getElem? (i := 47) rfl)) Via.refl e1028 f1035 f1030 (Or.inl (hw _ (List.mem_of_getElem? (i := 48) rfl))) (hw _ (List.mem_of_getElem? (i := 6) rfl)) (ty := .boolean) (v' := (.int (0 : Int32))) (by decide) rfl (by decide) (g := (mkF m 37 #[.val (.ref ps), .val (.int (2 : Int32))] [(.int (0 : Int32)), (.ref ps)])) rfl rfl (hb hby d8_37)
  refine OEnds.st st1038 ?_
  clear st1038
  have f1039 : Fld Z h1038 ps "com/example/clearingd/clearingd/store/PositionSet" "overflowed" "Z" (.int (0 : Int32)) := f1035.same W1038
  have f1040 : Exa Z h1038 ps "com/example/clearingd/clearingd/store/PositionSet" := f1030.wr W1038
  have f1041 : Fld Z h1038 ps "com/example/clearingd/clearingd/store/PositionSet" "slots" "[J" (.ref sa) := f1031.other W1038 (Or.inr (slot_ne (Or.inr (hw _ (List.mem_of_getElem? (i := 31) rfl))) (Or.inl (hw _ (List.mem_of_getElem? (i := 48) rfl))) (by decide) (t := (.array .long)) (t' := .boolean) (by decide) (by decide)))
  have f1042 : Fld Z h1038 ps "com/example/clearingd/clearingd/store/PositionSet" "taken" "[I" (.ref ta) := f1032.other W1038 (Or.inr (slot_ne (Or.inr (hw _ (List.mem_of_getElem? (i := 34) rfl))) (Or.inl (hw _ (List.mem_of_getElem? (i := 48) rfl))) (by decide) (t := (.array .int)) (t' := .boolean) (by decide) (by decide)))
  have f1043 : Fld Z h1038 ps "com/example/clearingd/clearingd/store/PositionSet" "capacity" "I" (.int cz) := f1033.other W1038 (Or.inr (slot_ne (Or.inr (hw _ (List.mem_of_getElem? (i := 19) rfl))) (Or.inl (hw _ (List.mem_of_getElem? (i := 48) rfl))) (by decide) (t := .int) (t' := .boolean) (by decide) (by decide)))
  have f1045 : Arv Z h1038 ta kt .int cz (own_G C g) (.int (0 : Int32)) := f1036.other W1038 n2
  have f1046 : Arv Z h1038 sa ks .long z (own_T M (own_up (own_up f ((g (0 : Int32).toNatClampNeg)).toNatClampNeg (-1 : Int64)) ((g (1 : Int32).toNatClampNeg)).toNatClampNeg (-1 : Int64))) (.long (0 : Int64)) := f1037.other W1038 n1
  have f1047 : Fld Z h1038 ps "com/example/clearingd/clearingd/store/PositionSet" "size" "I" (.int (0 : Int32)) := f1029.other W1038 (Or.inr (slot_ne (Or.inl (hw _ (List.mem_of_getElem? (i := 46) rfl))) (Or.inl (hw _ (List.mem_of_getElem? (i := 48) rfl))) (by decide) (t := .int) (t' := .boolean) (by decide) (by decide)))
  have N1038 := Fr.snoc X1038 N1028 g_ps
  have KK1038 : Keep h0 h1038 [ps, sa, ta] := KK1028.wr W1038 (Or.inl (List.mem_of_getElem? (i := 0) rfl))
  have Z1038 := Nat.le_trans Z1028 (Keep.of_wr W1038).1
  show OEnds p.tables e below G (T1038.setTop (mkF m 40 #[.val (.ref ps), .val (.int (2 : Int32))] []))
  rw [← hG]
  have hall : ∀ i, i < M → (own_up (own_up f ((g (0 : Int32).toNatClampNeg)).toNatClampNeg (-1 : Int64)) ((g (1 : Int32).toNatClampNeg)).toNatClampNeg (-1 : Int64)) i = -1 := by
    refine own_clr hI ?_ ?_
    · intro i hi
      refine own_upm i ?_
      refine own_upm i ?_
      exact hi
    · intro j hj
      have q2 : ((2 : Int32) : Int32).toInt = 2 := (by decide)
      have hj3 : j = 0 ∨ j = 1 := by omega
      rcases hj3 with rfl | rfl
      · show _ = _
        refine own_upm _ ?_
        simp [own_up]
      · show _ = _
        simp [own_up]
  refine OEnds.retV X1038 hx hlk Bd.returns (hb hby d8_40) (by decide) (by decide) ?_
  rw [e1038]
  exact ⟨rfl, N1038, KK1038, f1040, f1041, f1042, f1043, f1047, f1039, (by rw [← own_T_emp hall]; exact f1046), f1045⟩
theorem ef_clr3 (m : MethodId) (ps : Addr) : entryFrame m #[(.ref ps)] 2 = mkF m 0 #[.val (.ref ps), .unset] [] := by first | (simp [entryFrame, mkF, argsToLocals, Value.category]; done) | rfl
def Qclr3 (Z : State) (ps : Addr) (sa : Addr) (ta : Addr) (ks : ClassId) (kt : ClassId) (z : Int32) (M : Nat) (cz : Int32) (C : Nat) (f : Nat → Int64) (g : Nat → Int32) (ov : Int32) (h0 : Heap) (n0 : Nat) (v : Option Value) (h : Heap) (L : List Loc) : Prop := v = none ∧ Fr n0 L ∧ Keep h0 h [ps, sa, ta] ∧ Exa Z h ps "com/example/clearingd/clearingd/store/PositionSet" ∧ Fld Z h ps "com/example/clearingd/clearingd/store/PositionSet" "slots" "[J" (.ref sa) ∧ Fld Z h ps "com/example/clearingd/clearingd/store/PositionSet" "taken" "[I" (.ref ta) ∧ Fld Z h ps "com/example/clearingd/clearingd/store/PositionSet" "capacity" "I" (.int cz) ∧ Fld Z h ps "com/example/clearingd/clearingd/store/PositionSet" "size" "I" (.int (0 : Int32)) ∧ Fld Z h ps "com/example/clearingd/clearingd/store/PositionSet" "overflowed" "Z" (.int (0 : Int32)) ∧ Arv Z h sa ks .long z (own_T M own_E) (.long (0 : Int64)) ∧ Arv Z h ta kt .int cz (own_G C g) (.int (0 : Int32))
set_option maxRecDepth 65536 in
set_option maxHeartbeats 40000000 in
theorem rmclr3 (l : Launch) (Z : State) (a0 : Array Value) (hw : ∀ d ∈ tables_1, d.before a0 Z = true) (ws : List Jvm.Cond) (ps : Addr) (sa : Addr) (ta : Addr) (ks : ClassId) (kt : ClassId) (z : Int32) (M : Nat) (cz : Int32) (C : Nat) (f : Nat → Int64) (g : Nat → Int32) (ov : Int32) (h0 : Heap) (n0 : Nat) (Z0 : n0 ≤ h0.size) (E : Exa Z h0 ps "com/example/clearingd/clearingd/store/PositionSet") (Fslots : Fld Z h0 ps "com/example/clearingd/clearingd/store/PositionSet" "slots" "[J" (.ref sa)) (Ftaken : Fld Z h0 ps "com/example/clearingd/clearingd/store/PositionSet" "taken" "[I" (.ref ta)) (Fcapacity : Fld Z h0 ps "com/example/clearingd/clearingd/store/PositionSet" "capacity" "I" (.int cz)) (Fsize : Fld Z h0 ps "com/example/clearingd/clearingd/store/PositionSet" "size" "I" (.int (3 : Int32))) (Foverflowed : Fld Z h0 ps "com/example/clearingd/clearingd/store/PositionSet" "overflowed" "Z" (.int ov)) (VS : Arv Z h0 sa ks .long z (own_T M f) (.long (0 : Int64))) (VT : Arv Z h0 ta kt .int cz (own_G C g) (.int (0 : Int32))) (g_ps : n0 ≤ ps) (g_sa : n0 ≤ sa) (g_ta : n0 ≤ ta) (n1 : sa ≠ ps) (n2 : ta ≠ ps) (n3 : sa ≠ ta) (hz : z.toInt = (M : Int)) (hM : 4 ≤ M ∧ M ≤ 16) (hmk : ∀ x : Int32, (x &&& (z - (1 : Int32))).toInt = x.toInt % (M : Int)) (hcz : cz.toInt = (C : Int)) (hI : own_Inv M f g (3 : Int32) 3 C) :
    MetFree l (⟨"com/example/clearingd/clearingd/store/PositionSet", "clear", "()V"⟩ : MethodName) (head1 (Jvm.Cond.code (⟨"com/example/clearingd/clearingd/store/PositionSet", "clear", "()V"⟩ : MethodName) prog_44_method_5_code 2 none :: ws) ({ frames := 0, cells := 0, slots := 0, locals := 0 } : Room)) (fun a U => a = #[(.ref ps)] ∧ Z.Warmed39 U.vm ∧ U.heap = h0) (fun _ _ _ _ _ => True) (fun _ U o U' => ∃ v L, o = .returned v ∧ Qclr3 Z ps sa ta ks kt z M cz C f g ov h0 n0 v U'.heap L ∧ FrameEnd U o U' L ({ frames := 0, cells := 0, slots := 0, locals := 0 } : Room).cells ({ frames := 0, cells := 0, slots := 0, locals := 0 } : Room).slots) := by
  refine MetFree.of_bodySF (plainFor_of_name pn_4) hisR ?_
  intro p e s m args below meth c s₁ Bd hml0 hP hK
  obtain ⟨rfl, hZ, hh⟩ := hP
  have hx := Bd.exec
  have hby := Bd.bytes
  have hml : c.maxLocals = 2 := hml0
  have hown : s.vm.findClass "com/example/clearingd/clearingd/store/PositionSet" = some m.cls := findClass_of_methodNamed Bd.named
  have hnm := (name_of_methodNamed Bd.named Bd.method).1
  have hlk : meth.locks = false := BodyLoose.notSynchronized Bd
  have X0 : Stand p l e ({ frames := 0, cells := 0, slots := 0, locals := 0 } : Room) s m #[(.ref ps)] below meth c s₁ [] 0 0 := Stand.of_body Bd
  have e0 : s₁.heap = h0 := by rw [← hh, Bd.state]; rfl
  have N0 := Fr.nil n0
  show OEnds p.tables e below (OGoal (Qclr3 Z ps sa ta ks kt z M cz C f g ov h0 n0) s 0 0) (s₁.setTop (entryFrame m #[(.ref ps)] 2))
  refine OEnds.st (fun t k => castTop (ef_clr3 m ps) k) ?_
  generalize hG : OGoal (Qclr3 Z ps sa ta ks kt z M cz C f g ov h0 n0) s 0 0 = G
  have KK0 : Keep h0 h0 [ps, sa, ta] := Keep.refl h0 [ps, sa, ta]
  show OEnds p.tables e below G (s₁.setTop (mkF m 0 #[.val (.ref ps), .unset] []))
  refine OEnds.st (fun _ k => XS.iconst X0.here hx rfl (hb hby d8_0) k) ?_
  show OEnds p.tables e below G (s₁.setTop (mkF m 1 #[.val (.ref ps), .unset] [(.int (0 : Int32))]))
  refine OEnds.st (fun _ k => XS.istoreN X0.here hx rfl (hb hby d8_1) rfl (l' := #[.val (.ref ps), .val (.int (0 : Int32))]) rfl k) ?_
  show OEnds p.tables e below G (s₁.setTop (mkF m 2 #[.val (.ref ps), .val (.int (0 : Int32))] []))
  refine OEnds.st (fun _ k => XS.iloadN X0.here hx rfl (hb hby d8_2) rfl k) ?_
  show OEnds p.tables e below G (s₁.setTop (mkF m 3 #[.val (.ref ps), .val (.int (0 : Int32))] [(.int (0 : Int32))]))
  refine OEnds.st (fun _ k => XS.aloadN X0.here hx rfl (hb hby d8_3) rfl rfl k) ?_
  show OEnds p.tables e below G (s₁.setTop (mkF m 4 #[.val (.ref ps), .val (.int (0 : Int32))] [(.ref ps), (.int (0 : Int32))]))
  obtain ⟨T1001, X1001, e1001, st1001⟩ := getF X0 hx hZ hown (host := "") (Or.inl (hw _ (List.mem_of_getElem? (i := 45) rfl))) Via.refl e0 Fsize (g := (mkF m 4 #[.val (.ref ps), .val (.int (0 : Int32))] [(.ref ps), (.int (0 : Int32))])) rfl rfl (hb hby d8_4)
  refine OEnds.st st1001 ?_
  clear st1001
  show OEnds p.tables e below G (T1001.setTop (mkF m 7 #[.val (.ref ps), .val (.int (0 : Int32))] [(.int (3 : Int32)), (.int (0 : Int32))]))
  refine OEnds.st (fun _ k => XS.icmpNo X1001.here hx rfl (hb hby d8_7) rfl (tlt (by decide : (0 : Int32) < (3 : Int32))).2.1 k) ?_
  show OEnds p.tables e below G (T1001.setTop (mkF m 10 #[.val (.ref ps), .val (.int (0 : Int32))] []))
  refine OEnds.st (fun _ k => XS.aloadN X1001.here hx rfl (hb hby d8_10) rfl rfl k) ?_
  show OEnds p.tables e below G (T1001.setTop (mkF m 11 #[.val (.ref ps), .val (.int (0 : Int32))] [(.ref ps)]))
  obtain ⟨T1002, X1002, e1002, st1002⟩ := getF X1001 hx hZ hown (host := "") (Or.inl (hw _ (List.mem_of_getElem? (i := 30) rfl))) Via.refl e1001 Fslots (g := (mkF m 11 #[.val (.ref ps), .val (.int (0 : Int32))] [(.ref ps)])) rfl rfl (hb hby d8_11)
  refine OEnds.st st1002 ?_
  clear st1002
  show OEnds p.tables e below G (T1002.setTop (mkF m 14 #[.val (.ref ps), .val (.int (0 : Int32))] [(.ref sa)]))
  refine OEnds.st (fun _ k => XS.aloadN X1002.here hx rfl (hb hby d8_14) rfl rfl k) ?_
  show OEnds p.tables e below G (T1002.setTop (mkF m 15 #[.val (.ref ps), .val (.int (0 : Int32))] [(.ref ps), (.ref sa)]))
  obtain ⟨T1003, X1003, e1003, st1003⟩ := getF X1002 hx hZ hown (host := "") (Or.inl (hw _ (List.mem_of_getElem? (i := 33) rfl))) Via.refl e1002 Ftaken (g := (mkF m 15 #[.val (.ref ps), .val (.int (0 : Int32))] [(.ref ps), (.ref sa)])) rfl rfl (hb hby d8_15)
  refine OEnds.st st1003 ?_
  clear st1003
  show OEnds p.tables e below G (T1003.setTop (mkF m 18 #[.val (.ref ps), .val (.int (0 : Int32))] [(.ref ta), (.ref sa)]))
  refine OEnds.st (fun _ k => XS.iloadN X1003.here hx rfl (hb hby d8_18) rfl k) ?_
  show OEnds p.tables e below G (T1003.setTop (mkF m 19 #[.val (.ref ps), .val (.int (0 : Int32))] [(.int (0 : Int32)), (.ref ta), (.ref sa)]))
  obtain ⟨cl1004, Ar1004, q1004, S1004, N1004n, H1004, G1004⟩ := id VT
  have hb1004 : 0 ≤ ((0 : Int32)).toInt ∧ ((0 : Int32)).toInt < C := ⟨by decide, by have q1 := hI.2.2.1; have q2 : ((3 : Int32) : Int32).toInt = 3 := (by decide); have q3 : ((0 : Int32)).toInt = 0 := (by decide); omega⟩
  have hin1004 : ¬ ((0 : Int32) < 0 ∨ cl1004.slots.size ≤ ((0 : Int32)).toNatClampNeg) := inb_of S1004 ⟨own_nl hb1004, own_lz hcz hb1004⟩
  have hat1004 : cl1004.slots[((0 : Int32)).toNatClampNeg]? = some (.int (g (0 : Int32).toNatClampNeg)) := H1004.at hin1004 (own_G_get _ (own_jl hb1004) _)
  refine OEnds.st (X1003.iaload hx (j := (0 : Int32)) (v := (.int (g (0 : Int32).toNatClampNeg))) (by rw [e1003]; exact Ar1004.1) (State.isArrayOf_alike hZ.alike Ar1004.2.1) Ar1004.2.2 hin1004 hat1004 (g := (mkF m 19 #[.val (.ref ps), .val (.int (0 : Int32))] [(.int (0 : Int32)), (.ref ta), (.ref sa)])) rfl rfl (hb hby d8_19)) ?_
  show OEnds p.tables e below G (T1003.setTop (mkF m 20 #[.val (.ref ps), .val (.int (0 : Int32))] [(.int (g (0 : Int32).toNatClampNeg)), (.ref sa)]))
  refine OEnds.st (X1003.ldc2Long hx hown (mvT hZ (hw _ (List.mem_of_getElem? (i := 35) rfl))) (g := (mkF m 20 #[.val (.ref ps), .val (.int (0 : Int32))] [(.int (g (0 : Int32).toNatClampNeg)), (.ref sa)])) rfl (hb hby d8_20)) ?_
  show OEnds p.tables e below G (T1003.setTop (mkF m 23 #[.val (.ref ps), .val (.int (0 : Int32))] [(.long (-1 : Int64)), (.int (g (0 : Int32).toNatClampNeg)), (.ref sa)]))
  obtain ⟨cl1005, Ar1005, q1005, S1005, N1005n, H1005, G1005⟩ := id VS
  have hg1005 : 0 ≤ ((g (0 : Int32).toNatClampNeg)).toInt ∧ ((g (0 : Int32).toNatClampNeg)).toInt < M := hI.2.2.2.2 0 (by decide)
  have hin1005 : ¬ ((g (0 : Int32).toNatClampNeg) < 0 ∨ cl1005.slots.size ≤ ((g (0 : Int32).toNatClampNeg)).toNatClampNeg) := inb_of S1005 ⟨own_nl hg1005, own_lz hz hg1005⟩
  obtain ⟨T1005, h1005, X1005, e1005, W1005, st1005⟩ := stJ X1003 hx hZ e1003 Ar1005 (j := (g (0 : Int32).toNatClampNeg)) hin1005 (g := (mkF m 23 #[.val (.ref ps), .val (.int (0 : Int32))] [(.long (-1 : Int64)), (.int (g (0 : Int32).toNatClampNeg)), (.ref sa)])) rfl rfl (hb hby d8_23)
  refine OEnds.st st1005 ?_
  clear st1005
  have f1006 : Arv Z h1005 sa ks .long z ((own_T M f).set ((g (0 : Int32).toNatClampNeg)).toNatClampNeg (.long (-1 : Int64))) (.long (0 : Int64)) := Arv.set Ar1005 q1005 S1005 N1005n H1005 G1005 rfl W1005 ((g (0 : Int32).toNatClampNeg)).toNatClampNeg rfl (own_jT _ hg1005)
  have f1007 : Exa Z h1005 ps "com/example/clearingd/clearingd/store/PositionSet" := E.wr W1005
  have f1008 : Fld Z h1005 ps "com/example/clearingd/clearingd/store/PositionSet" "slots" "[J" (.ref sa) := Fslots.other W1005 (Or.inl (Ne.symm n1))
  have f1009 : Fld Z h1005 ps "com/example/clearingd/clearingd/store/PositionSet" "taken" "[I" (.ref ta) := Ftaken.other W1005 (Or.inl (Ne.symm n1))
  have f1010 : Fld Z h1005 ps "com/example/clearingd/clearingd/store/PositionSet" "capacity" "I" (.int cz) := Fcapacity.other W1005 (Or.inl (Ne.symm n1))
  have f1011 : Fld Z h1005 ps "com/example/clearingd/clearingd/store/PositionSet" "size" "I" (.int (3 : Int32)) := Fsize.other W1005 (Or.inl (Ne.symm n1))
  have f1012 : Fld Z h1005 ps "com/example/clearingd/clearingd/store/PositionSet" "overflowed" "Z" (.int ov) := Foverflowed.other W1005 (Or.inl (Ne.symm n1))
  have f1013 : Arv Z h1005 ta kt .int cz (own_G C g) (.int (0 : Int32)) := VT.other W1005 (Ne.symm n3)
  have N1005 := Fr.snoc X1005 N0 g_sa
  have KK1005 : Keep h0 h1005 [ps, sa, ta] := KK0.wr W1005 (Or.inl (List.mem_of_getElem? (i := 1) rfl))
  have Z1005 := Nat.le_trans Z0 (Keep.of_wr W1005).1
  rw [own_T_set] at f1006
  show OEnds p.tables e below G (T1005.setTop (mkF m 24 #[.val (.ref ps), .val (.int (0 : Int32))] []))
  refine OEnds.st (fun _ k => XS.iinc X1005.here hx rfl (hb hby d8_24) rfl (l' := #[.val (.ref ps), .val (.int ((0 : Int32) + (1 : Int32)))]) rfl k) ?_
  show OEnds p.tables e below G (T1005.setTop (mkF m 27 #[.val (.ref ps), .val (.int ((0 : Int32) + (1 : Int32)))] []))
  rw [show ((0 : Int32) + (1 : Int32)) = (1 : Int32) from by decide]
  show OEnds p.tables e below G (T1005.setTop (mkF m 27 #[.val (.ref ps), .val (.int (1 : Int32))] []))
  refine OEnds.st (fun _ k => XS.goto X1005.here hx rfl (pc0 := 27) (pc' := 2) rfl (hb hby d8_27) (by decide) (by decide) k) ?_
  show OEnds p.tables e below G (T1005.setTop (mkF m 2 #[.val (.ref ps), .val (.int (1 : Int32))] []))
  refine OEnds.st (fun _ k => XS.iloadN X1005.here hx rfl (hb hby d8_2) rfl k) ?_
  show OEnds p.tables e below G (T1005.setTop (mkF m 3 #[.val (.ref ps), .val (.int (1 : Int32))] [(.int (1 : Int32))]))
  refine OEnds.st (fun _ k => XS.aloadN X1005.here hx rfl (hb hby d8_3) rfl rfl k) ?_
  show OEnds p.tables e below G (T1005.setTop (mkF m 4 #[.val (.ref ps), .val (.int (1 : Int32))] [(.ref ps), (.int (1 : Int32))]))
  obtain ⟨T1014, X1014, e1014, st1014⟩ := getF X1005 hx hZ hown (host := "") (Or.inl (hw _ (List.mem_of_getElem? (i := 45) rfl))) Via.refl e1005 f1011 (g := (mkF m 4 #[.val (.ref ps), .val (.int (1 : Int32))] [(.ref ps), (.int (1 : Int32))])) rfl rfl (hb hby d8_4)
  refine OEnds.st st1014 ?_
  clear st1014
  show OEnds p.tables e below G (T1014.setTop (mkF m 7 #[.val (.ref ps), .val (.int (1 : Int32))] [(.int (3 : Int32)), (.int (1 : Int32))]))
  refine OEnds.st (fun _ k => XS.icmpNo X1014.here hx rfl (hb hby d8_7) rfl (tlt (by decide : (1 : Int32) < (3 : Int32))).2.1 k) ?_
  show OEnds p.tables e below G (T1014.setTop (mkF m 10 #[.val (.ref ps), .val (.int (1 : Int32))] []))
  refine OEnds.st (fun _ k => XS.aloadN X1014.here hx rfl (hb hby d8_10) rfl rfl k) ?_
  show OEnds p.tables e below G (T1014.setTop (mkF m 11 #[.val (.ref ps), .val (.int (1 : Int32))] [(.ref ps)]))
  obtain ⟨T1015, X1015, e1015, st1015⟩ := getF X1014 hx hZ hown (host := "") (Or.inl (hw _ (List.mem_of_getElem? (i := 30) rfl))) Via.refl e1014 f1008 (g := (mkF m 11 #[.val (.ref ps), .val (.int (1 : Int32))] [(.ref ps)])) rfl rfl (hb hby d8_11)
  refine OEnds.st st1015 ?_
  clear st1015
  show OEnds p.tables e below G (T1015.setTop (mkF m 14 #[.val (.ref ps), .val (.int (1 : Int32))] [(.ref sa)]))
  refine OEnds.st (fun _ k => XS.aloadN X1015.here hx rfl (hb hby d8_14) rfl rfl k) ?_
  show OEnds p.tables e below G (T1015.setTop (mkF m 15 #[.val (.ref ps), .val (.int (1 : Int32))] [(.ref ps), (.ref sa)]))
  obtain ⟨T1016, X1016, e1016, st1016⟩ := getF X1015 hx hZ hown (host := "") (Or.inl (hw _ (List.mem_of_getElem? (i := 33) rfl))) Via.refl e1015 f1009 (g := (mkF m 15 #[.val (.ref ps), .val (.int (1 : Int32))] [(.ref ps), (.ref sa)])) rfl rfl (hb hby d8_15)
  refine OEnds.st st1016 ?_
  clear st1016
  show OEnds p.tables e below G (T1016.setTop (mkF m 18 #[.val (.ref ps), .val (.int (1 : Int32))] [(.ref ta), (.ref sa)]))
  refine OEnds.st (fun _ k => XS.iloadN X1016.here hx rfl (hb hby d8_18) rfl k) ?_
  show OEnds p.tables e below G (T1016.setTop (mkF m 19 #[.val (.ref ps), .val (.int (1 : Int32))] [(.int (1 : Int32)), (.ref ta), (.ref sa)]))
  obtain ⟨cl1017, Ar1017, q1017, S1017, N1017n, H1017, G1017⟩ := id f1013
  have hb1017 : 0 ≤ ((1 : Int32)).toInt ∧ ((1 : Int32)).toInt < C := ⟨by decide, by have q1 := hI.2.2.1; have q2 : ((3 : Int32) : Int32).toInt = 3 := (by decide); have q3 : ((1 : Int32)).toInt = 1 := (by decide); omega⟩
  have hin1017 : ¬ ((1 : Int32) < 0 ∨ cl1017.slots.size ≤ ((1 : Int32)).toNatClampNeg) := inb_of S1017 ⟨own_nl hb1017, own_lz hcz hb1017⟩
  have hat1017 : cl1017.slots[((1 : Int32)).toNatClampNeg]? = some (.int (g (1 : Int32).toNatClampNeg)) := H1017.at hin1017 (own_G_get _ (own_jl hb1017) _)
  refine OEnds.st (X1016.iaload hx (j := (1 : Int32)) (v := (.int (g (1 : Int32).toNatClampNeg))) (by rw [e1016]; exact Ar1017.1) (State.isArrayOf_alike hZ.alike Ar1017.2.1) Ar1017.2.2 hin1017 hat1017 (g := (mkF m 19 #[.val (.ref ps), .val (.int (1 : Int32))] [(.int (1 : Int32)), (.ref ta), (.ref sa)])) rfl rfl (hb hby d8_19)) ?_
  show OEnds p.tables e below G (T1016.setTop (mkF m 20 #[.val (.ref ps), .val (.int (1 : Int32))] [(.int (g (1 : Int32).toNatClampNeg)), (.ref sa)]))
  refine OEnds.st (X1016.ldc2Long hx hown (mvT hZ (hw _ (List.mem_of_getElem? (i := 35) rfl))) (g := (mkF m 20 #[.val (.ref ps), .val (.int (1 : Int32))] [(.int (g (1 : Int32).toNatClampNeg)), (.ref sa)])) rfl (hb hby d8_20)) ?_
  show OEnds p.tables e below G (T1016.setTop (mkF m 23 #[.val (.ref ps), .val (.int (1 : Int32))] [(.long (-1 : Int64)), (.int (g (1 : Int32).toNatClampNeg)), (.ref sa)]))
  obtain ⟨cl1018, Ar1018, q1018, S1018, N1018n, H1018, G1018⟩ := id f1006
  have hg1018 : 0 ≤ ((g (1 : Int32).toNatClampNeg)).toInt ∧ ((g (1 : Int32).toNatClampNeg)).toInt < M := hI.2.2.2.2 1 (by decide)
  have hin1018 : ¬ ((g (1 : Int32).toNatClampNeg) < 0 ∨ cl1018.slots.size ≤ ((g (1 : Int32).toNatClampNeg)).toNatClampNeg) := inb_of S1018 ⟨own_nl hg1018, own_lz hz hg1018⟩
  obtain ⟨T1018, h1018, X1018, e1018, W1018, st1018⟩ := stJ X1016 hx hZ e1016 Ar1018 (j := (g (1 : Int32).toNatClampNeg)) hin1018 (g := (mkF m 23 #[.val (.ref ps), .val (.int (1 : Int32))] [(.long (-1 : Int64)), (.int (g (1 : Int32).toNatClampNeg)), (.ref sa)])) rfl rfl (hb hby d8_23)
  refine OEnds.st st1018 ?_
  clear st1018
  have f1019 : Arv Z h1018 sa ks .long z ((own_T M (own_up f ((g (0 : Int32).toNatClampNeg)).toNatClampNeg (-1 : Int64))).set ((g (1 : Int32).toNatClampNeg)).toNatClampNeg (.long (-1 : Int64))) (.long (0 : Int64)) := Arv.set Ar1018 q1018 S1018 N1018n H1018 G1018 rfl W1018 ((g (1 : Int32).toNatClampNeg)).toNatClampNeg rfl (own_jT _ hg1018)
  have f1020 : Exa Z h1018 ps "com/example/clearingd/clearingd/store/PositionSet" := f1007.wr W1018
  have f1021 : Fld Z h1018 ps "com/example/clearingd/clearingd/store/PositionSet" "slots" "[J" (.ref sa) := f1008.other W1018 (Or.inl (Ne.symm n1))
  have f1022 : Fld Z h1018 ps "com/example/clearingd/clearingd/store/PositionSet" "taken" "[I" (.ref ta) := f1009.other W1018 (Or.inl (Ne.symm n1))
  have f1023 : Fld Z h1018 ps "com/example/clearingd/clearingd/store/PositionSet" "capacity" "I" (.int cz) := f1010.other W1018 (Or.inl (Ne.symm n1))
  have f1024 : Fld Z h1018 ps "com/example/clearingd/clearingd/store/PositionSet" "size" "I" (.int (3 : Int32)) := f1011.other W1018 (Or.inl (Ne.symm n1))
  have f1025 : Fld Z h1018 ps "com/example/clearingd/clearingd/store/PositionSet" "overflowed" "Z" (.int ov) := f1012.other W1018 (Or.inl (Ne.symm n1))
  have f1026 : Arv Z h1018 ta kt .int cz (own_G C g) (.int (0 : Int32)) := f1013.other W1018 (Ne.symm n3)
  have N1018 := Fr.snoc X1018 N1005 g_sa
  have KK1018 : Keep h0 h1018 [ps, sa, ta] := KK1005.wr W1018 (Or.inl (List.mem_of_getElem? (i := 1) rfl))
  have Z1018 := Nat.le_trans Z1005 (Keep.of_wr W1018).1
  rw [own_T_set] at f1019
  show OEnds p.tables e below G (T1018.setTop (mkF m 24 #[.val (.ref ps), .val (.int (1 : Int32))] []))
  refine OEnds.st (fun _ k => XS.iinc X1018.here hx rfl (hb hby d8_24) rfl (l' := #[.val (.ref ps), .val (.int ((1 : Int32) + (1 : Int32)))]) rfl k) ?_
  show OEnds p.tables e below G (T1018.setTop (mkF m 27 #[.val (.ref ps), .val (.int ((1 : Int32) + (1 : Int32)))] []))
  rw [show ((1 : Int32) + (1 : Int32)) = (2 : Int32) from by decide]
  show OEnds p.tables e below G (T1018.setTop (mkF m 27 #[.val (.ref ps), .val (.int (2 : Int32))] []))
  refine OEnds.st (fun _ k => XS.goto X1018.here hx rfl (pc0 := 27) (pc' := 2) rfl (hb hby d8_27) (by decide) (by decide) k) ?_
  show OEnds p.tables e below G (T1018.setTop (mkF m 2 #[.val (.ref ps), .val (.int (2 : Int32))] []))
  refine OEnds.st (fun _ k => XS.iloadN X1018.here hx rfl (hb hby d8_2) rfl k) ?_
  show OEnds p.tables e below G (T1018.setTop (mkF m 3 #[.val (.ref ps), .val (.int (2 : Int32))] [(.int (2 : Int32))]))
  refine OEnds.st (fun _ k => XS.aloadN X1018.here hx rfl (hb hby d8_3) rfl rfl k) ?_
  show OEnds p.tables e below G (T1018.setTop (mkF m 4 #[.val (.ref ps), .val (.int (2 : Int32))] [(.ref ps), (.int (2 : Int32))]))
  obtain ⟨T1027, X1027, e1027, st1027⟩ := getF X1018 hx hZ hown (host := "") (Or.inl (hw _ (List.mem_of_getElem? (i := 45) rfl))) Via.refl e1018 f1024 (g := (mkF m 4 #[.val (.ref ps), .val (.int (2 : Int32))] [(.ref ps), (.int (2 : Int32))])) rfl rfl (hb hby d8_4)
  refine OEnds.st st1027 ?_
  clear st1027
  show OEnds p.tables e below G (T1027.setTop (mkF m 7 #[.val (.ref ps), .val (.int (2 : Int32))] [(.int (3 : Int32)), (.int (2 : Int32))]))
  refine OEnds.st (fun _ k => XS.icmpNo X1027.here hx rfl (hb hby d8_7) rfl (tlt (by decide : (2 : Int32) < (3 : Int32))).2.1 k) ?_
  show OEnds p.tables e below G (T1027.setTop (mkF m 10 #[.val (.ref ps), .val (.int (2 : Int32))] []))
  refine OEnds.st (fun _ k => XS.aloadN X1027.here hx rfl (hb hby d8_10) rfl rfl k) ?_
  show OEnds p.tables e below G (T1027.setTop (mkF m 11 #[.val (.ref ps), .val (.int (2 : Int32))] [(.ref ps)]))
  obtain ⟨T1028, X1028, e1028, st1028⟩ := getF X1027 hx hZ hown (host := "") (Or.inl (hw _ (List.mem_of_getElem? (i := 30) rfl))) Via.refl e1027 f1021 (g := (mkF m 11 #[.val (.ref ps), .val (.int (2 : Int32))] [(.ref ps)])) rfl rfl (hb hby d8_11)
  refine OEnds.st st1028 ?_
  clear st1028
  show OEnds p.tables e below G (T1028.setTop (mkF m 14 #[.val (.ref ps), .val (.int (2 : Int32))] [(.ref sa)]))
  refine OEnds.st (fun _ k => XS.aloadN X1028.here hx rfl (hb hby d8_14) rfl rfl k) ?_
  show OEnds p.tables e below G (T1028.setTop (mkF m 15 #[.val (.ref ps), .val (.int (2 : Int32))] [(.ref ps), (.ref sa)]))
  obtain ⟨T1029, X1029, e1029, st1029⟩ := getF X1028 hx hZ hown (host := "") (Or.inl (hw _ (List.mem_of_getElem? (i := 33) rfl))) Via.refl e1028 f1022 (g := (mkF m 15 #[.val (.ref ps), .val (.int (2 : Int32))] [(.ref ps), (.ref sa)])) rfl rfl (hb hby d8_15)
  refine OEnds.st st1029 ?_
  clear st1029
  show OEnds p.tables e below G (T1029.setTop (mkF m 18 #[.val (.ref ps), .val (.int (2 : Int32))] [(.ref ta), (.ref sa)]))
  refine OEnds.st (fun _ k => XS.iloadN X1029.here hx rfl (hb hby d8_18) rfl k) ?_
  show OEnds p.tables e below G (T1029.setTop (mkF m 19 #[.val (.ref ps), .val (.int (2 : Int32))] [(.int (2 : Int32)), (.ref ta), (.ref sa)]))
  obtain ⟨cl1030, Ar1030, q1030, S1030, N1030n, H1030, G1030⟩ := id f1026
  have hb1030 : 0 ≤ ((2 : Int32)).toInt ∧ ((2 : Int32)).toInt < C := ⟨by decide, by have q1 := hI.2.2.1; have q2 : ((3 : Int32) : Int32).toInt = 3 := (by decide); have q3 : ((2 : Int32)).toInt = 2 := (by decide); omega⟩
  have hin1030 : ¬ ((2 : Int32) < 0 ∨ cl1030.slots.size ≤ ((2 : Int32)).toNatClampNeg) := inb_of S1030 ⟨own_nl hb1030, own_lz hcz hb1030⟩
  have hat1030 : cl1030.slots[((2 : Int32)).toNatClampNeg]? = some (.int (g (2 : Int32).toNatClampNeg)) := H1030.at hin1030 (own_G_get _ (own_jl hb1030) _)
  refine OEnds.st (X1029.iaload hx (j := (2 : Int32)) (v := (.int (g (2 : Int32).toNatClampNeg))) (by rw [e1029]; exact Ar1030.1) (State.isArrayOf_alike hZ.alike Ar1030.2.1) Ar1030.2.2 hin1030 hat1030 (g := (mkF m 19 #[.val (.ref ps), .val (.int (2 : Int32))] [(.int (2 : Int32)), (.ref ta), (.ref sa)])) rfl rfl (hb hby d8_19)) ?_
  show OEnds p.tables e below G (T1029.setTop (mkF m 20 #[.val (.ref ps), .val (.int (2 : Int32))] [(.int (g (2 : Int32).toNatClampNeg)), (.ref sa)]))
  refine OEnds.st (X1029.ldc2Long hx hown (mvT hZ (hw _ (List.mem_of_getElem? (i := 35) rfl))) (g := (mkF m 20 #[.val (.ref ps), .val (.int (2 : Int32))] [(.int (g (2 : Int32).toNatClampNeg)), (.ref sa)])) rfl (hb hby d8_20)) ?_
  show OEnds p.tables e below G (T1029.setTop (mkF m 23 #[.val (.ref ps), .val (.int (2 : Int32))] [(.long (-1 : Int64)), (.int (g (2 : Int32).toNatClampNeg)), (.ref sa)]))
  obtain ⟨cl1031, Ar1031, q1031, S1031, N1031n, H1031, G1031⟩ := id f1019
  have hg1031 : 0 ≤ ((g (2 : Int32).toNatClampNeg)).toInt ∧ ((g (2 : Int32).toNatClampNeg)).toInt < M := hI.2.2.2.2 2 (by decide)
  have hin1031 : ¬ ((g (2 : Int32).toNatClampNeg) < 0 ∨ cl1031.slots.size ≤ ((g (2 : Int32).toNatClampNeg)).toNatClampNeg) := inb_of S1031 ⟨own_nl hg1031, own_lz hz hg1031⟩
  obtain ⟨T1031, h1031, X1031, e1031, W1031, st1031⟩ := stJ X1029 hx hZ e1029 Ar1031 (j := (g (2 : Int32).toNatClampNeg)) hin1031 (g := (mkF m 23 #[.val (.ref ps), .val (.int (2 : Int32))] [(.long (-1 : Int64)), (.int (g (2 : Int32).toNatClampNeg)), (.ref sa)])) rfl rfl (hb hby d8_23)
  refine OEnds.st st1031 ?_
  clear st1031
  have f1032 : Arv Z h1031 sa ks .long z ((own_T M (own_up (own_up f ((g (0 : Int32).toNatClampNeg)).toNatClampNeg (-1 : Int64)) ((g (1 : Int32).toNatClampNeg)).toNatClampNeg (-1 : Int64))).set ((g (2 : Int32).toNatClampNeg)).toNatClampNeg (.long (-1 : Int64))) (.long (0 : Int64)) := Arv.set Ar1031 q1031 S1031 N1031n H1031 G1031 rfl W1031 ((g (2 : Int32).toNatClampNeg)).toNatClampNeg rfl (own_jT _ hg1031)
  have f1033 : Exa Z h1031 ps "com/example/clearingd/clearingd/store/PositionSet" := f1020.wr W1031
  have f1034 : Fld Z h1031 ps "com/example/clearingd/clearingd/store/PositionSet" "slots" "[J" (.ref sa) := f1021.other W1031 (Or.inl (Ne.symm n1))
  have f1035 : Fld Z h1031 ps "com/example/clearingd/clearingd/store/PositionSet" "taken" "[I" (.ref ta) := f1022.other W1031 (Or.inl (Ne.symm n1))
  have f1036 : Fld Z h1031 ps "com/example/clearingd/clearingd/store/PositionSet" "capacity" "I" (.int cz) := f1023.other W1031 (Or.inl (Ne.symm n1))
  have f1037 : Fld Z h1031 ps "com/example/clearingd/clearingd/store/PositionSet" "size" "I" (.int (3 : Int32)) := f1024.other W1031 (Or.inl (Ne.symm n1))
  have f1038 : Fld Z h1031 ps "com/example/clearingd/clearingd/store/PositionSet" "overflowed" "Z" (.int ov) := f1025.other W1031 (Or.inl (Ne.symm n1))
  have f1039 : Arv Z h1031 ta kt .int cz (own_G C g) (.int (0 : Int32)) := f1026.other W1031 (Ne.symm n3)
  have N1031 := Fr.snoc X1031 N1018 g_sa
  have KK1031 : Keep h0 h1031 [ps, sa, ta] := KK1018.wr W1031 (Or.inl (List.mem_of_getElem? (i := 1) rfl))
  have Z1031 := Nat.le_trans Z1018 (Keep.of_wr W1031).1
  rw [own_T_set] at f1032
  show OEnds p.tables e below G (T1031.setTop (mkF m 24 #[.val (.ref ps), .val (.int (2 : Int32))] []))
  refine OEnds.st (fun _ k => XS.iinc X1031.here hx rfl (hb hby d8_24) rfl (l' := #[.val (.ref ps), .val (.int ((2 : Int32) + (1 : Int32)))]) rfl k) ?_
  show OEnds p.tables e below G (T1031.setTop (mkF m 27 #[.val (.ref ps), .val (.int ((2 : Int32) + (1 : Int32)))] []))
  rw [show ((2 : Int32) + (1 : Int32)) = (3 : Int32) from by decide]
  show OEnds p.tables e below G (T1031.setTop (mkF m 27 #[.val (.ref ps), .val (.int (3 : Int32))] []))
  refine OEnds.st (fun _ k => XS.goto X1031.here hx rfl (pc0 := 27) (pc' := 2) rfl (hb hby d8_27) (by decide) (by decide) k) ?_
  show OEnds p.tables e below G (T1031.setTop (mkF m 2 #[.val (.ref ps), .val (.int (3 : Int32))] []))
  refine OEnds.st (fun _ k => XS.iloadN X1031.here hx rfl (hb hby d8_2) rfl k) ?_
  show OEnds p.tables e below G (T1031.setTop (mkF m 3 #[.val (.ref ps), .val (.int (3 : Int32))] [(.int (3 : Int32))]))
  refine OEnds.st (fun _ k => XS.aloadN X1031.here hx rfl (hb hby d8_3) rfl rfl k) ?_
  show OEnds p.tables e below G (T1031.setTop (mkF m 4 #[.val (.ref ps), .val (.int (3 : Int32))] [(.ref ps), (.int (3 : Int32))]))
  obtain ⟨T1040, X1040, e1040, st1040⟩ := getF X1031 hx hZ hown (host := "") (Or.inl (hw _ (List.mem_of_getElem? (i := 45) rfl))) Via.refl e1031 f1037 (g := (mkF m 4 #[.val (.ref ps), .val (.int (3 : Int32))] [(.ref ps), (.int (3 : Int32))])) rfl rfl (hb hby d8_4)
  refine OEnds.st st1040 ?_
  clear st1040
  show OEnds p.tables e below G (T1040.setTop (mkF m 7 #[.val (.ref ps), .val (.int (3 : Int32))] [(.int (3 : Int32)), (.int (3 : Int32))]))
  refine OEnds.st (fun _ k => XS.icmpYes X1040.here hx rfl (pc0 := 7) (pc' := 30) rfl (hb hby d8_7) rfl (flt (by decide : ¬ ((3 : Int32) < (3 : Int32)))).2.1 (by decide) (by decide) k) ?_
  show OEnds p.tables e below G (T1040.setTop (mkF m 30 #[.val (.ref ps), .val (.int (3 : Int32))] []))
  refine OEnds.st (fun _ k => XS.aloadN X1040.here hx rfl (hb hby d8_30) rfl rfl k) ?_
  show OEnds p.tables e below G (T1040.setTop (mkF m 31 #[.val (.ref ps), .val (.int (3 : Int32))] [(.ref ps)]))
  refine OEnds.st (fun _ k => XS.iconst X1040.here hx rfl (hb hby d8_31) k) ?_
  show OEnds p.tables e below G (T1040.setTop (mkF m 32 #[.val (.ref ps), .val (.int (3 : Int32))] [(.int (0 : Int32)), (.ref ps)]))
  obtain ⟨T1041, h1041, X1041, e1041, W1041, st1041⟩ := putF X1040 hx hZ hown (host := "") (Or.inl (hw _ (List.mem_of_getElem? (i := 45) rfl))) Via.refl e1040 f1037 f1033 (Or.inl (hw _ (List.mem_of_getElem? (i := 46) rfl))) (hw _ (List.mem_of_getElem? (i := 6) rfl)) (ty := .int) (by decide) rfl rfl (g := (mkF m 32 #[.val (.ref ps), .val (.int (3 : Int32))] [(.int (0 : Int32)), (.ref ps)])) rfl rfl (hb hby d8_32)
  refine OEnds.st st1041 ?_
  clear st1041
  have f1042 : Fld Z h1041 ps "com/example/clearingd/clearingd/store/PositionSet" "size" "I" (.int (0 : Int32)) := f1037.same W1041
  have f1043 : Exa Z h1041 ps "com/example/clearingd/clearingd/store/PositionSet" := f1033.wr W1041
  have f1044 : Fld Z h1041 ps "com/example/clearingd/clearingd/store/PositionSet" "slots" "[J" (.ref sa) := f1034.other W1041 (Or.inr (slot_ne (Or.inr (hw _ (List.mem_of_getElem? (i := 31) rfl))) (Or.inl (hw _ (List.mem_of_getElem? (i := 46) rfl))) (by decide) (t := (.array .long)) (t' := .int) (by decide) (by decide)))
  have f1045 : Fld Z h1041 ps "com/example/clearingd/clearingd/store/PositionSet" "taken" "[I" (.ref ta) := f1035.other W1041 (Or.inr (slot_ne (Or.inr (hw _ (List.mem_of_getElem? (i := 34) rfl))) (Or.inl (hw _ (List.mem_of_getElem? (i := 46) rfl))) (by decide) (t := (.array .int)) (t' := .int) (by decide) (by decide)))
  have f1046 : Fld Z h1041 ps "com/example/clearingd/clearingd/store/PositionSet" "capacity" "I" (.int cz) := f1036.other W1041 (Or.inr (slot_ne (Or.inr (hw _ (List.mem_of_getElem? (i := 19) rfl))) (Or.inl (hw _ (List.mem_of_getElem? (i := 46) rfl))) (by decide) (t := .int) (t' := .int) (by decide) (by decide)))
  have f1048 : Fld Z h1041 ps "com/example/clearingd/clearingd/store/PositionSet" "overflowed" "Z" (.int ov) := f1038.other W1041 (Or.inr (slot_ne (Or.inl (hw _ (List.mem_of_getElem? (i := 48) rfl))) (Or.inl (hw _ (List.mem_of_getElem? (i := 46) rfl))) (by decide) (t := .boolean) (t' := .int) (by decide) (by decide)))
  have f1049 : Arv Z h1041 ta kt .int cz (own_G C g) (.int (0 : Int32)) := f1039.other W1041 n2
  have f1050 : Arv Z h1041 sa ks .long z (own_T M (own_up (own_up (own_up f ((g (0 : Int32).toNatClampNeg)).toNatClampNeg (-1 : Int64)) ((g (1 : Int32).toNatClampNeg)).toNatClampNeg (-1 : Int64)) ((g (2 : Int32).toNatClampNeg)).toNatClampNeg (-1 : Int64))) (.long (0 : Int64)) := f1032.other W1041 n1
  have N1041 := Fr.snoc X1041 N1031 g_ps
  have KK1041 : Keep h0 h1041 [ps, sa, ta] := KK1031.wr W1041 (Or.inl (List.mem_of_getElem? (i := 0) rfl))
  have Z1041 := Nat.le_trans Z1031 (Keep.of_wr W1041).1
  show OEnds p.tables e below G (T1041.setTop (mkF m 35 #[.val (.ref ps), .val (.int (3 : Int32))] []))
  refine OEnds.st (fun _ k => XS.aloadN X1041.here hx rfl (hb hby d8_35) rfl rfl k) ?_
  show OEnds p.tables e below G (T1041.setTop (mkF m 36 #[.val (.ref ps), .val (.int (3 : Int32))] [(.ref ps)]))
  refine OEnds.st (fun _ k => XS.iconst X1041.here hx rfl (hb hby d8_36) k) ?_
  show OEnds p.tables e below G (T1041.setTop (mkF m 37 #[.val (.ref ps), .val (.int (3 : Int32))] [(.int (0 : Int32)), (.ref ps)]))
  obtain ⟨T1051, h1051, X1051, e1051, W1051, st1051⟩ := putFN X1041 hx hZ hown (hw _ (List.mem_of_getElem? (i := 47) rfl)) Via.refl e1041 f1048 f1043 (Or.inl (hw _ (List.mem_of_getElem? (i := 48) rfl))) (hw _ (List.mem_of_getElem? (i := 6) rfl)) (ty := .boolean) (v' := (.int (0 : Int32))) (by decide) rfl (by decide) (g := (mkF m 37 #[.val (.ref ps), .val (.int (3 : Int32))] [(.int (0 : Int32)), (.ref ps)])) rfl rfl (hb hby d8_37)
  refine OEnds.st st1051 ?_
  clear st1051
  have f1052 : Fld Z h1051 ps "com/example/clearingd/clearingd/store/PositionSet" "overflowed" "Z" (.int (0 : Int32)) := f1048.same W1051
  have f1053 : Exa Z h1051 ps "com/example/clearingd/clearingd/store/PositionSet" := f1043.wr W1051
  have f1054 : Fld Z h1051 ps "com/example/clearingd/clearingd/store/PositionSet" "slots" "[J" (.ref sa) := f1044.other W1051 (Or.inr (slot_ne (Or.inr (hw _ (List.mem_of_getElem? (i := 31) rfl))) (Or.inl (hw _ (List.mem_of_getElem? (i := 48) rfl))) (by decide) (t := (.array .long)) (t' := .boolean) (by decide) (by decide)))
  have f1055 : Fld Z h1051 ps "com/example/clearingd/clearingd/store/PositionSet" "taken" "[I" (.ref ta) := f1045.other W1051 (Or.inr (slot_ne (Or.inr (hw _ (List.mem_of_getElem? (i := 34) rfl))) (Or.inl (hw _ (List.mem_of_getElem? (i := 48) rfl))) (by decide) (t := (.array .int)) (t' := .boolean) (by decide) (by decide)))
  have f1056 : Fld Z h1051 ps "com/example/clearingd/clearingd/store/PositionSet" "capacity" "I" (.int cz) := f1046.other W1051 (Or.inr (slot_ne (Or.inr (hw _ (List.mem_of_getElem? (i := 19) rfl))) (Or.inl (hw _ (List.mem_of_getElem? (i := 48) rfl))) (by decide) (t := .int) (t' := .boolean) (by decide) (by decide)))
  have f1058 : Arv Z h1051 ta kt .int cz (own_G C g) (.int (0 : Int32)) := f1049.other W1051 n2
  have f1059 : Arv Z h1051 sa ks .long z (own_T M (own_up (own_up (own_up f ((g (0 : Int32).toNatClampNeg)).toNatClampNeg (-1 : Int64)) ((g (1 : Int32).toNatClampNeg)).toNatClampNeg (-1 : Int64)) ((g (2 : Int32).toNatClampNeg)).toNatClampNeg (-1 : Int64))) (.long (0 : Int64)) := f1050.other W1051 n1
  have f1060 : Fld Z h1051 ps "com/example/clearingd/clearingd/store/PositionSet" "size" "I" (.int (0 : Int32)) := f1042.other W1051 (Or.inr (slot_ne (Or.inl (hw _ (List.mem_of_getElem? (i := 46) rfl))) (Or.inl (hw _ (List.mem_of_getElem? (i := 48) rfl))) (by decide) (t := .int) (t' := .boolean) (by decide) (by decide)))
  have N1051 := Fr.snoc X1051 N1041 g_ps
  have KK1051 : Keep h0 h1051 [ps, sa, ta] := KK1041.wr W1051 (Or.inl (List.mem_of_getElem? (i := 0) rfl))
  have Z1051 := Nat.le_trans Z1041 (Keep.of_wr W1051).1
  show OEnds p.tables e below G (T1051.setTop (mkF m 40 #[.val (.ref ps), .val (.int (3 : Int32))] []))
  rw [← hG]
  have hall : ∀ i, i < M → (own_up (own_up (own_up f ((g (0 : Int32).toNatClampNeg)).toNatClampNeg (-1 : Int64)) ((g (1 : Int32).toNatClampNeg)).toNatClampNeg (-1 : Int64)) ((g (2 : Int32).toNatClampNeg)).toNatClampNeg (-1 : Int64)) i = -1 := by
    refine own_clr hI ?_ ?_
    · intro i hi
      refine own_upm i ?_
      refine own_upm i ?_
      refine own_upm i ?_
      exact hi
    · intro j hj
      have q2 : ((3 : Int32) : Int32).toInt = 3 := (by decide)
      have hj3 : j = 0 ∨ j = 1 ∨ j = 2 := by omega
      rcases hj3 with rfl | rfl | rfl
      · show _ = _
        refine own_upm _ ?_
        refine own_upm _ ?_
        simp [own_up]
      · show _ = _
        refine own_upm _ ?_
        simp [own_up]
      · show _ = _
        simp [own_up]
  refine OEnds.retV X1051 hx hlk Bd.returns (hb hby d8_40) (by decide) (by decide) ?_
  rw [e1051]
  exact ⟨rfl, N1051, KK1051, f1053, f1054, f1055, f1056, f1060, f1052, (by rw [← own_T_emp hall]; exact f1059), f1058⟩
theorem ef_9 (m : MethodId) (ps : Addr) : entryFrame m #[(.ref ps)] 1 = mkF m 0 #[.val (.ref ps)] [] := by first | (simp [entryFrame, mkF, argsToLocals, Value.category]; done) | rfl
def Q9 (Z : State) (ps : Addr) (ov : Int32) (h0 : Heap) (n0 : Nat) (v : Option Value) (h : Heap) (L : List Loc) : Prop := v = some (.int ov) ∧ Fr n0 L ∧ h = h0
theorem d9_0 : decode prog_44_method_3_code 0 = .ok (.aload_n 0, 1) := by decide +kernel
theorem d9_1 : decode prog_44_method_3_code 1 = .ok (.getfield 50, 3) := by decide +kernel
theorem d9_4 : decode prog_44_method_3_code 4 = .ok (.ireturn, 1) := by decide +kernel
set_option maxRecDepth 65536 in
set_option maxHeartbeats 40000000 in
theorem rm9 (l : Launch) (Z : State) (a0 : Array Value) (hw : ∀ d ∈ tables_1, d.before a0 Z = true) (ws : List Jvm.Cond) (ps : Addr) (ov : Int32) (h0 : Heap) (n0 : Nat) (Z0 : n0 ≤ h0.size) (F : Fld Z h0 ps "com/example/clearingd/clearingd/store/PositionSet" "overflowed" "Z" (.int ov)) (hov : nar .boolean ov = ov) :
    MetFree l (⟨"com/example/clearingd/clearingd/store/PositionSet", "overflowed", "()Z"⟩ : MethodName) (head1 (Jvm.Cond.code (⟨"com/example/clearingd/clearingd/store/PositionSet", "overflowed", "()Z"⟩ : MethodName) prog_44_method_3_code 1 (some .boolean) :: ws) ({ frames := 0, cells := 0, slots := 0, locals := 0 } : Room)) (fun a U => a = #[(.ref ps)] ∧ Z.Warmed39 U.vm ∧ U.heap = h0) (fun _ _ _ _ _ => True) (fun _ U o U' => ∃ v L, o = .returned v ∧ Q9 Z ps ov h0 n0 v U'.heap L ∧ FrameEnd U o U' L ({ frames := 0, cells := 0, slots := 0, locals := 0 } : Room).cells ({ frames := 0, cells := 0, slots := 0, locals := 0 } : Room).slots) := by
  refine MetFree.of_bodySF (plainFor_of_name pn_4) hisR ?_
  intro p e s m args below meth c s₁ Bd hml0 hP hK
  obtain ⟨rfl, hZ, hh⟩ := hP
  have hx := Bd.exec
  have hby := Bd.bytes
  have hml : c.maxLocals = 1 := hml0
  have hown : s.vm.findClass "com/example/clearingd/clearingd/store/PositionSet" = some m.cls := findClass_of_methodNamed Bd.named
  have hnm := (name_of_methodNamed Bd.named Bd.method).1
  have hlk : meth.locks = false := BodyLoose.notSynchronized Bd
  have X0 : Stand p l e ({ frames := 0, cells := 0, slots := 0, locals := 0 } : Room) s m #[(.ref ps)] below meth c s₁ [] 0 0 := Stand.of_body Bd
  have e0 : s₁.heap = h0 := by rw [← hh, Bd.state]; rfl
  have N0 := Fr.nil n0
  show OEnds p.tables e below (OGoal (Q9 Z ps ov h0 n0) s 0 0) (s₁.setTop (entryFrame m #[(.ref ps)] 1))
  refine OEnds.st (fun t k => castTop (ef_9 m ps) k) ?_
  generalize hG : OGoal (Q9 Z ps ov h0 n0) s 0 0 = G
  have KK0 : Keep h0 h0 [] := Keep.refl h0 []
  show OEnds p.tables e below G (s₁.setTop (mkF m 0 #[.val (.ref ps)] []))
  refine OEnds.st (fun _ k => XS.aloadN X0.here hx rfl (hb hby d9_0) rfl rfl k) ?_
  show OEnds p.tables e below G (s₁.setTop (mkF m 1 #[.val (.ref ps)] [(.ref ps)]))
  obtain ⟨T1001, X1001, e1001, st1001⟩ := getF X0 hx hZ hown (host := "") (Or.inl (hw _ (List.mem_of_getElem? (i := 47) rfl))) Via.refl e0 F (g := (mkF m 1 #[.val (.ref ps)] [(.ref ps)])) rfl rfl (hb hby d9_1)
  refine OEnds.st st1001 ?_
  clear st1001
  show OEnds p.tables e below G (T1001.setTop (mkF m 4 #[.val (.ref ps)] [(.int ov)]))
  rw [← hG]
  refine OEnds.retZ X1001 hx hlk Bd.returns (hov) (hb hby d9_4) (by decide) (by decide) ?_
  rw [e1001]
  exact ⟨rfl, N0, rfl⟩
theorem pn_5 : plainName "java/util/DualPivotQuicksort" = true := by first | (simp [plainName, overriddenIn]; done) | decide +kernel
theorem ef_is0 (m : MethodId) (a1 : Addr) : entryFrame m #[(.ref a1), (.int (0 : Int32)), (.int (0 : Int32))] 7 = mkF m 0 #[.val (.ref a1), .val (.int (0 : Int32)), .val (.int (0 : Int32)), .unset, .unset, .unset, .unset] [] := by first | (simp [entryFrame, mkF, argsToLocals, Value.category]; done) | rfl
def Qis0 (Z : State) (a1 : Addr) (k : ClassId) (h0 : Heap) (n0 : Nat) (v : Option Value) (h : Heap) (L : List Loc) : Prop := v = none ∧ Fr n0 L ∧ Keep h0 h [a1] ∧ Arv Z h a1 k .long (0 : Int32) [] (.long (0 : Int64))
theorem d14_0 : decode jdk_2529_method_15_code 0 = .ok (.iload_n 1, 1) := by decide +kernel
theorem d14_1 : decode jdk_2529_method_15_code 1 = .ok (.istore 4, 2) := by decide +kernel
theorem d14_3 : decode jdk_2529_method_15_code 3 = .ok (.iinc 4 1, 3) := by decide +kernel
theorem d14_6 : decode jdk_2529_method_15_code 6 = .ok (.iload 4, 2) := by decide +kernel
theorem d14_8 : decode jdk_2529_method_15_code 8 = .ok (.iload_n 2, 1) := by decide +kernel
theorem d14_9 : decode jdk_2529_method_15_code 9 = .ok (.if_icmp .ge 60, 3) := by decide +kernel
theorem d14_69 : decode jdk_2529_method_15_code 69 = .ok (.return_, 1) := by decide +kernel
set_option maxRecDepth 65536 in
set_option maxHeartbeats 40000000 in
theorem rmis0 (l : Launch) (Z : State) (a0 : Array Value) (hw : ∀ d ∈ tables_1, d.before a0 Z = true) (ws : List Jvm.Cond) (a1 : Addr) (k : ClassId) (h0 : Heap) (n0 : Nat) (Z0 : n0 ≤ h0.size) (V : Arv Z h0 a1 k .long (0 : Int32) [] (.long (0 : Int64))) (g_a1 : n0 ≤ a1) :
    MetFree l (⟨"java/util/DualPivotQuicksort", "insertionSort", "([JII)V"⟩ : MethodName) (head1 (Jvm.Cond.code (⟨"java/util/DualPivotQuicksort", "insertionSort", "([JII)V"⟩ : MethodName) jdk_2529_method_15_code 7 none :: ws) ({ frames := 0, cells := 0, slots := 0, locals := 0 } : Room)) (fun a U => a = #[(.ref a1), (.int (0 : Int32)), (.int (0 : Int32))] ∧ Z.Warmed39 U.vm ∧ U.heap = h0) (fun _ _ _ _ _ => True) (fun _ U o U' => ∃ v L, o = .returned v ∧ Qis0 Z a1 k h0 n0 v U'.heap L ∧ FrameEnd U o U' L ({ frames := 0, cells := 0, slots := 0, locals := 0 } : Room).cells ({ frames := 0, cells := 0, slots := 0, locals := 0 } : Room).slots) := by
  refine MetFree.of_bodySF (plainFor_of_name pn_5) hisR ?_
  intro p e s m args below meth c s₁ Bd hml0 hP hK
  obtain ⟨rfl, hZ, hh⟩ := hP
  have hx := Bd.exec
  have hby := Bd.bytes
  have hml : c.maxLocals = 7 := hml0
  have hown : s.vm.findClass "java/util/DualPivotQuicksort" = some m.cls := findClass_of_methodNamed Bd.named
  have hnm := (name_of_methodNamed Bd.named Bd.method).1
  have hlk : meth.locks = false := BodyLoose.notSynchronized Bd
  have X0 : Stand p l e ({ frames := 0, cells := 0, slots := 0, locals := 0 } : Room) s m #[(.ref a1), (.int (0 : Int32)), (.int (0 : Int32))] below meth c s₁ [] 0 0 := Stand.of_body Bd
  have e0 : s₁.heap = h0 := by rw [← hh, Bd.state]; rfl
  have N0 := Fr.nil n0
  show OEnds p.tables e below (OGoal (Qis0 Z a1 k h0 n0) s 0 0) (s₁.setTop (entryFrame m #[(.ref a1), (.int (0 : Int32)), (.int (0 : Int32))] 7))
  refine OEnds.st (fun t k => castTop (ef_is0 m a1) k) ?_
  generalize hG : OGoal (Qis0 Z a1 k h0 n0) s 0 0 = G
  have KK0 : Keep h0 h0 [a1] := Keep.refl h0 [a1]
  show OEnds p.tables e below G (s₁.setTop (mkF m 0 #[.val (.ref a1), .val (.int (0 : Int32)), .val (.int (0 : Int32)), .unset, .unset, .unset, .unset] []))
  refine OEnds.st (fun _ k => XS.iloadN X0.here hx rfl (hb hby d14_0) rfl k) ?_
  show OEnds p.tables e below G (s₁.setTop (mkF m 1 #[.val (.ref a1), .val (.int (0 : Int32)), .val (.int (0 : Int32)), .unset, .unset, .unset, .unset] [(.int (0 : Int32))]))
  refine OEnds.st (fun _ k => XS.istore X0.here hx rfl (hb hby d14_1) rfl (l' := #[.val (.ref a1), .val (.int (0 : Int32)), .val (.int (0 : Int32)), .unset, .val (.int (0 : Int32)), .unset, .unset]) rfl k) ?_
  show OEnds p.tables e below G (s₁.setTop (mkF m 3 #[.val (.ref a1), .val (.int (0 : Int32)), .val (.int (0 : Int32)), .unset, .val (.int (0 : Int32)), .unset, .unset] []))
  refine OEnds.st (fun _ k => XS.iinc X0.here hx rfl (hb hby d14_3) rfl (l' := #[.val (.ref a1), .val (.int (0 : Int32)), .val (.int (0 : Int32)), .unset, .val (.int ((0 : Int32) + (1 : Int32))), .unset, .unset]) rfl k) ?_
  show OEnds p.tables e below G (s₁.setTop (mkF m 6 #[.val (.ref a1), .val (.int (0 : Int32)), .val (.int (0 : Int32)), .unset, .val (.int ((0 : Int32) + (1 : Int32))), .unset, .unset] []))
  rw [show ((0 : Int32) + (1 : Int32)) = (1 : Int32) from by decide]
  show OEnds p.tables e below G (s₁.setTop (mkF m 6 #[.val (.ref a1), .val (.int (0 : Int32)), .val (.int (0 : Int32)), .unset, .val (.int (1 : Int32)), .unset, .unset] []))
  refine OEnds.st (fun _ k => XS.iload X0.here hx rfl (hb hby d14_6) rfl k) ?_
  show OEnds p.tables e below G (s₁.setTop (mkF m 8 #[.val (.ref a1), .val (.int (0 : Int32)), .val (.int (0 : Int32)), .unset, .val (.int (1 : Int32)), .unset, .unset] [(.int (1 : Int32))]))
  refine OEnds.st (fun _ k => XS.iloadN X0.here hx rfl (hb hby d14_8) rfl k) ?_
  show OEnds p.tables e below G (s₁.setTop (mkF m 9 #[.val (.ref a1), .val (.int (0 : Int32)), .val (.int (0 : Int32)), .unset, .val (.int (1 : Int32)), .unset, .unset] [(.int (0 : Int32)), (.int (1 : Int32))]))
  refine OEnds.st (fun _ k => XS.icmpYes X0.here hx rfl (pc0 := 9) (pc' := 69) rfl (hb hby d14_9) rfl (flt (by decide : ¬ ((1 : Int32) < (0 : Int32)))).2.1 (by decide) (by decide) k) ?_
  show OEnds p.tables e below G (s₁.setTop (mkF m 69 #[.val (.ref a1), .val (.int (0 : Int32)), .val (.int (0 : Int32)), .unset, .val (.int (1 : Int32)), .unset, .unset] []))
  rw [← hG]
  refine OEnds.retV X0 hx hlk Bd.returns (hb hby d14_69) (by decide) (by decide) ?_
  rw [e0]
  exact ⟨rfl, N0, KK0, V⟩
theorem ef_sq0 (m : MethodId) (a1 : Addr) : entryFrame m #[.null, (.ref a1), (.int (0 : Int32)), (.int (0 : Int32)), (.int (0 : Int32))] 25 = mkF m 0 #[.val .null, .val (.ref a1), .val (.int (0 : Int32)), .val (.int (0 : Int32)), .val (.int (0 : Int32)), .unset, .unset, .unset, .unset, .unset, .unset, .unset, .unset, .unset, .unset, .unset, .unset, .unset, .unset, .unset, .unset, .unset, .unset, .unset, .unset] [] := by first | (simp [entryFrame, mkF, argsToLocals, Value.category]; done) | rfl
def Qsq0 (Z : State) (a1 : Addr) (k : ClassId) (h0 : Heap) (n0 : Nat) (v : Option Value) (h : Heap) (L : List Loc) : Prop := v = none ∧ Fr n0 L ∧ Keep h0 h [a1] ∧ Arv Z h a1 k .long (0 : Int32) [] (.long (0 : Int64))
theorem pd_4 : parseMethodDescriptor "([JII)V" = some ⟨[(.array .long), .int, .int], none⟩ := by decide +kernel
theorem d13_0 : decode jdk_2529_method_13_code 0 = .ok (.iload 4, 2) := by decide +kernel
theorem d13_2 : decode jdk_2529_method_13_code 2 = .ok (.iconst 1, 1) := by decide +kernel
theorem d13_3 : decode jdk_2529_method_13_code 3 = .ok (.isub, 1) := by decide +kernel
theorem d13_4 : decode jdk_2529_method_13_code 4 = .ok (.istore 5, 2) := by decide +kernel
theorem d13_6 : decode jdk_2529_method_13_code 6 = .ok (.iload 4, 2) := by decide +kernel
theorem d13_8 : decode jdk_2529_method_13_code 8 = .ok (.iload_n 3, 1) := by decide +kernel
theorem d13_9 : decode jdk_2529_method_13_code 9 = .ok (.isub, 1) := by decide +kernel
theorem d13_10 : decode jdk_2529_method_13_code 10 = .ok (.istore 6, 2) := by decide +kernel
theorem d13_12 : decode jdk_2529_method_13_code 12 = .ok (.iload 6, 2) := by decide +kernel
theorem d13_14 : decode jdk_2529_method_13_code 14 = .ok (.bipush 65, 2) := by decide +kernel
theorem d13_16 : decode jdk_2529_method_13_code 16 = .ok (.iload_n 2, 1) := by decide +kernel
theorem d13_17 : decode jdk_2529_method_13_code 17 = .ok (.iadd, 1) := by decide +kernel
theorem d13_18 : decode jdk_2529_method_13_code 18 = .ok (.if_icmp .ge 28, 3) := by decide +kernel
theorem d13_21 : decode jdk_2529_method_13_code 21 = .ok (.iload_n 2, 1) := by decide +kernel
theorem d13_22 : decode jdk_2529_method_13_code 22 = .ok (.iconst 1, 1) := by decide +kernel
theorem d13_23 : decode jdk_2529_method_13_code 23 = .ok (.iand, 1) := by decide +kernel
theorem d13_24 : decode jdk_2529_method_13_code 24 = .ok (.ifCond .le 22, 3) := by decide +kernel
theorem d13_46 : decode jdk_2529_method_13_code 46 = .ok (.iload 6, 2) := by decide +kernel
theorem d13_48 : decode jdk_2529_method_13_code 48 = .ok (.bipush 44, 2) := by decide +kernel
theorem d13_50 : decode jdk_2529_method_13_code 50 = .ok (.if_icmp .ge 11, 3) := by decide +kernel
theorem d13_53 : decode jdk_2529_method_13_code 53 = .ok (.aload_n 1, 1) := by decide +kernel
theorem d13_54 : decode jdk_2529_method_13_code 54 = .ok (.iload_n 3, 1) := by decide +kernel
theorem d13_55 : decode jdk_2529_method_13_code 55 = .ok (.iload 4, 2) := by decide +kernel
theorem d13_57 : decode jdk_2529_method_13_code 57 = .ok (.invokestatic 105, 3) := by decide +kernel
theorem d13_60 : decode jdk_2529_method_13_code 60 = .ok (.return_, 1) := by decide +kernel
set_option maxRecDepth 65536 in
set_option maxHeartbeats 40000000 in
theorem rmsq0 (l : Launch) (Z : State) (a0 : Array Value) (hw : ∀ d ∈ tables_1, d.before a0 Z = true) (ws : List Jvm.Cond) (a1 : Addr) (k : ClassId) (h0 : Heap) (n0 : Nat) (Z0 : n0 ≤ h0.size) (V : Arv Z h0 a1 k .long (0 : Int32) [] (.long (0 : Int64))) (g_a1 : n0 ≤ a1) :
    MetFree l (⟨"java/util/DualPivotQuicksort", "sort", "(Ljava/util/DualPivotQuicksort$Sorter;[JIII)V"⟩ : MethodName) (head1 (Jvm.Cond.code (⟨"java/util/DualPivotQuicksort", "sort", "(Ljava/util/DualPivotQuicksort$Sorter;[JIII)V"⟩ : MethodName) jdk_2529_method_13_code 25 none :: ws) ({ frames := 1, cells := 0, slots := 0, locals := 18 } : Room)) (fun a U => a = #[.null, (.ref a1), (.int (0 : Int32)), (.int (0 : Int32)), (.int (0 : Int32))] ∧ Z.Warmed39 U.vm ∧ U.heap = h0) (fun _ _ _ _ _ => True) (fun _ U o U' => ∃ v L, o = .returned v ∧ Qsq0 Z a1 k h0 n0 v U'.heap L ∧ FrameEnd U o U' L ({ frames := 1, cells := 0, slots := 0, locals := 18 } : Room).cells ({ frames := 1, cells := 0, slots := 0, locals := 18 } : Room).slots) := by
  refine MetFree.of_bodySF (plainFor_of_name pn_5) hisR ?_
  intro p e s m args below meth c s₁ Bd hml0 hP hK
  obtain ⟨rfl, hZ, hh⟩ := hP
  have hx := Bd.exec
  have hby := Bd.bytes
  have hml : c.maxLocals = 25 := hml0
  have hown : s.vm.findClass "java/util/DualPivotQuicksort" = some m.cls := findClass_of_methodNamed Bd.named
  have hnm := (name_of_methodNamed Bd.named Bd.method).1
  have hlk : meth.locks = false := BodyLoose.notSynchronized Bd
  have X0 : Stand p l e ({ frames := 1, cells := 0, slots := 0, locals := 18 } : Room) s m #[.null, (.ref a1), (.int (0 : Int32)), (.int (0 : Int32)), (.int (0 : Int32))] below meth c s₁ [] 0 0 := Stand.of_body Bd
  have e0 : s₁.heap = h0 := by rw [← hh, Bd.state]; rfl
  have N0 := Fr.nil n0
  show OEnds p.tables e below (OGoal (Qsq0 Z a1 k h0 n0) s 0 0) (s₁.setTop (entryFrame m #[.null, (.ref a1), (.int (0 : Int32)), (.int (0 : Int32)), (.int (0 : Int32))] 25))
  refine OEnds.st (fun t k => castTop (ef_sq0 m a1) k) ?_
  generalize hG : OGoal (Qsq0 Z a1 k h0 n0) s 0 0 = G
  have KK0 : Keep h0 h0 [a1] := Keep.refl h0 [a1]
  show OEnds p.tables e below G (s₁.setTop (mkF m 0 #[.val .null, .val (.ref a1), .val (.int (0 : Int32)), .val (.int (0 : Int32)), .val (.int (0 : Int32)), .unset, .unset, .unset, .unset, .unset, .unset, .unset, .unset, .unset, .unset, .unset, .unset, .unset, .unset, .unset, .unset, .unset, .unset, .unset, .unset] []))
  refine OEnds.st (fun _ k => XS.iload X0.here hx rfl (hb hby d13_0) rfl k) ?_
  show OEnds p.tables e below G (s₁.setTop (mkF m 2 #[.val .null, .val (.ref a1), .val (.int (0 : Int32)), .val (.int (0 : Int32)), .val (.int (0 : Int32)), .unset, .unset, .unset, .unset, .unset, .unset, .unset, .unset, .unset, .unset, .unset, .unset, .unset, .unset, .unset, .unset, .unset, .unset, .unset, .unset] [(.int (0 : Int32))]))
  refine OEnds.st (fun _ k => XS.iconst X0.here hx rfl (hb hby d13_2) k) ?_
  show OEnds p.tables e below G (s₁.setTop (mkF m 3 #[.val .null, .val (.ref a1), .val (.int (0 : Int32)), .val (.int (0 : Int32)), .val (.int (0 : Int32)), .unset, .unset, .unset, .unset, .unset, .unset, .unset, .unset, .unset, .unset, .unset, .unset, .unset, .unset, .unset, .unset, .unset, .unset, .unset, .unset] [(.int (1 : Int32)), (.int (0 : Int32))]))
  refine OEnds.st (fun _ k => XS.isub X0.here hx rfl (hb hby d13_3) rfl k) ?_
  show OEnds p.tables e below G (s₁.setTop (mkF m 4 #[.val .null, .val (.ref a1), .val (.int (0 : Int32)), .val (.int (0 : Int32)), .val (.int (0 : Int32)), .unset, .unset, .unset, .unset, .unset, .unset, .unset, .unset, .unset, .unset, .unset, .unset, .unset, .unset, .unset, .unset, .unset, .unset, .unset, .unset] [(.int ((0 : Int32) - (1 : Int32)))]))
  rw [show ((0 : Int32) - (1 : Int32)) = (-1 : Int32) from by decide]
  show OEnds p.tables e below G (s₁.setTop (mkF m 4 #[.val .null, .val (.ref a1), .val (.int (0 : Int32)), .val (.int (0 : Int32)), .val (.int (0 : Int32)), .unset, .unset, .unset, .unset, .unset, .unset, .unset, .unset, .unset, .unset, .unset, .unset, .unset, .unset, .unset, .unset, .unset, .unset, .unset, .unset] [(.int (-1 : Int32))]))
  refine OEnds.st (fun _ k => XS.istore X0.here hx rfl (hb hby d13_4) rfl (l' := #[.val .null, .val (.ref a1), .val (.int (0 : Int32)), .val (.int (0 : Int32)), .val (.int (0 : Int32)), .val (.int (-1 : Int32)), .unset, .unset, .unset, .unset, .unset, .unset, .unset, .unset, .unset, .unset, .unset, .unset, .unset, .unset, .unset, .unset, .unset, .unset, .unset]) rfl k) ?_
  show OEnds p.tables e below G (s₁.setTop (mkF m 6 #[.val .null, .val (.ref a1), .val (.int (0 : Int32)), .val (.int (0 : Int32)), .val (.int (0 : Int32)), .val (.int (-1 : Int32)), .unset, .unset, .unset, .unset, .unset, .unset, .unset, .unset, .unset, .unset, .unset, .unset, .unset, .unset, .unset, .unset, .unset, .unset, .unset] []))
  refine OEnds.st (fun _ k => XS.iload X0.here hx rfl (hb hby d13_6) rfl k) ?_
  show OEnds p.tables e below G (s₁.setTop (mkF m 8 #[.val .null, .val (.ref a1), .val (.int (0 : Int32)), .val (.int (0 : Int32)), .val (.int (0 : Int32)), .val (.int (-1 : Int32)), .unset, .unset, .unset, .unset, .unset, .unset, .unset, .unset, .unset, .unset, .unset, .unset, .unset, .unset, .unset, .unset, .unset, .unset, .unset] [(.int (0 : Int32))]))
  refine OEnds.st (fun _ k => XS.iloadN X0.here hx rfl (hb hby d13_8) rfl k) ?_
  show OEnds p.tables e below G (s₁.setTop (mkF m 9 #[.val .null, .val (.ref a1), .val (.int (0 : Int32)), .val (.int (0 : Int32)), .val (.int (0 : Int32)), .val (.int (-1 : Int32)), .unset, .unset, .unset, .unset, .unset, .unset, .unset, .unset, .unset, .unset, .unset, .unset, .unset, .unset, .unset, .unset, .unset, .unset, .unset] [(.int (0 : Int32)), (.int (0 : Int32))]))
  refine OEnds.st (fun _ k => XS.isub X0.here hx rfl (hb hby d13_9) rfl k) ?_
  show OEnds p.tables e below G (s₁.setTop (mkF m 10 #[.val .null, .val (.ref a1), .val (.int (0 : Int32)), .val (.int (0 : Int32)), .val (.int (0 : Int32)), .val (.int (-1 : Int32)), .unset, .unset, .unset, .unset, .unset, .unset, .unset, .unset, .unset, .unset, .unset, .unset, .unset, .unset, .unset, .unset, .unset, .unset, .unset] [(.int ((0 : Int32) - (0 : Int32)))]))
  rw [show ((0 : Int32) - (0 : Int32)) = (0 : Int32) from by decide]
  show OEnds p.tables e below G (s₁.setTop (mkF m 10 #[.val .null, .val (.ref a1), .val (.int (0 : Int32)), .val (.int (0 : Int32)), .val (.int (0 : Int32)), .val (.int (-1 : Int32)), .unset, .unset, .unset, .unset, .unset, .unset, .unset, .unset, .unset, .unset, .unset, .unset, .unset, .unset, .unset, .unset, .unset, .unset, .unset] [(.int (0 : Int32))]))
  refine OEnds.st (fun _ k => XS.istore X0.here hx rfl (hb hby d13_10) rfl (l' := #[.val .null, .val (.ref a1), .val (.int (0 : Int32)), .val (.int (0 : Int32)), .val (.int (0 : Int32)), .val (.int (-1 : Int32)), .val (.int (0 : Int32)), .unset, .unset, .unset, .unset, .unset, .unset, .unset, .unset, .unset, .unset, .unset, .unset, .unset, .unset, .unset, .unset, .unset, .unset]) rfl k) ?_
  show OEnds p.tables e below G (s₁.setTop (mkF m 12 #[.val .null, .val (.ref a1), .val (.int (0 : Int32)), .val (.int (0 : Int32)), .val (.int (0 : Int32)), .val (.int (-1 : Int32)), .val (.int (0 : Int32)), .unset, .unset, .unset, .unset, .unset, .unset, .unset, .unset, .unset, .unset, .unset, .unset, .unset, .unset, .unset, .unset, .unset, .unset] []))
  refine OEnds.st (fun _ k => XS.iload X0.here hx rfl (hb hby d13_12) rfl k) ?_
  show OEnds p.tables e below G (s₁.setTop (mkF m 14 #[.val .null, .val (.ref a1), .val (.int (0 : Int32)), .val (.int (0 : Int32)), .val (.int (0 : Int32)), .val (.int (-1 : Int32)), .val (.int (0 : Int32)), .unset, .unset, .unset, .unset, .unset, .unset, .unset, .unset, .unset, .unset, .unset, .unset, .unset, .unset, .unset, .unset, .unset, .unset] [(.int (0 : Int32))]))
  refine OEnds.st (fun _ k => XS.bipush X0.here hx rfl (hb hby d13_14) k) ?_
  show OEnds p.tables e below G (s₁.setTop (mkF m 16 #[.val .null, .val (.ref a1), .val (.int (0 : Int32)), .val (.int (0 : Int32)), .val (.int (0 : Int32)), .val (.int (-1 : Int32)), .val (.int (0 : Int32)), .unset, .unset, .unset, .unset, .unset, .unset, .unset, .unset, .unset, .unset, .unset, .unset, .unset, .unset, .unset, .unset, .unset, .unset] [(.int (65 : Int32)), (.int (0 : Int32))]))
  refine OEnds.st (fun _ k => XS.iloadN X0.here hx rfl (hb hby d13_16) rfl k) ?_
  show OEnds p.tables e below G (s₁.setTop (mkF m 17 #[.val .null, .val (.ref a1), .val (.int (0 : Int32)), .val (.int (0 : Int32)), .val (.int (0 : Int32)), .val (.int (-1 : Int32)), .val (.int (0 : Int32)), .unset, .unset, .unset, .unset, .unset, .unset, .unset, .unset, .unset, .unset, .unset, .unset, .unset, .unset, .unset, .unset, .unset, .unset] [(.int (0 : Int32)), (.int (65 : Int32)), (.int (0 : Int32))]))
  refine OEnds.st (fun _ k => XS.iadd X0.here hx rfl (hb hby d13_17) rfl k) ?_
  show OEnds p.tables e below G (s₁.setTop (mkF m 18 #[.val .null, .val (.ref a1), .val (.int (0 : Int32)), .val (.int (0 : Int32)), .val (.int (0 : Int32)), .val (.int (-1 : Int32)), .val (.int (0 : Int32)), .unset, .unset, .unset, .unset, .unset, .unset, .unset, .unset, .unset, .unset, .unset, .unset, .unset, .unset, .unset, .unset, .unset, .unset] [(.int ((65 : Int32) + (0 : Int32))), (.int (0 : Int32))]))
  rw [show ((65 : Int32) + (0 : Int32)) = (65 : Int32) from by decide]
  show OEnds p.tables e below G (s₁.setTop (mkF m 18 #[.val .null, .val (.ref a1), .val (.int (0 : Int32)), .val (.int (0 : Int32)), .val (.int (0 : Int32)), .val (.int (-1 : Int32)), .val (.int (0 : Int32)), .unset, .unset, .unset, .unset, .unset, .unset, .unset, .unset, .unset, .unset, .unset, .unset, .unset, .unset, .unset, .unset, .unset, .unset] [(.int (65 : Int32)), (.int (0 : Int32))]))
  refine OEnds.st (fun _ k => XS.icmpNo X0.here hx rfl (hb hby d13_18) rfl (tlt (by decide : (0 : Int32) < (65 : Int32))).2.1 k) ?_
  show OEnds p.tables e below G (s₁.setTop (mkF m 21 #[.val .null, .val (.ref a1), .val (.int (0 : Int32)), .val (.int (0 : Int32)), .val (.int (0 : Int32)), .val (.int (-1 : Int32)), .val (.int (0 : Int32)), .unset, .unset, .unset, .unset, .unset, .unset, .unset, .unset, .unset, .unset, .unset, .unset, .unset, .unset, .unset, .unset, .unset, .unset] []))
  refine OEnds.st (fun _ k => XS.iloadN X0.here hx rfl (hb hby d13_21) rfl k) ?_
  show OEnds p.tables e below G (s₁.setTop (mkF m 22 #[.val .null, .val (.ref a1), .val (.int (0 : Int32)), .val (.int (0 : Int32)), .val (.int (0 : Int32)), .val (.int (-1 : Int32)), .val (.int (0 : Int32)), .unset, .unset, .unset, .unset, .unset, .unset, .unset, .unset, .unset, .unset, .unset, .unset, .unset, .unset, .unset, .unset, .unset, .unset] [(.int (0 : Int32))]))
  refine OEnds.st (fun _ k => XS.iconst X0.here hx rfl (hb hby d13_22) k) ?_
  show OEnds p.tables e below G (s₁.setTop (mkF m 23 #[.val .null, .val (.ref a1), .val (.int (0 : Int32)), .val (.int (0 : Int32)), .val (.int (0 : Int32)), .val (.int (-1 : Int32)), .val (.int (0 : Int32)), .unset, .unset, .unset, .unset, .unset, .unset, .unset, .unset, .unset, .unset, .unset, .unset, .unset, .unset, .unset, .unset, .unset, .unset] [(.int (1 : Int32)), (.int (0 : Int32))]))
  refine OEnds.st (fun _ k => XS.iand X0.here hx rfl (hb hby d13_23) rfl k) ?_
  show OEnds p.tables e below G (s₁.setTop (mkF m 24 #[.val .null, .val (.ref a1), .val (.int (0 : Int32)), .val (.int (0 : Int32)), .val (.int (0 : Int32)), .val (.int (-1 : Int32)), .val (.int (0 : Int32)), .unset, .unset, .unset, .unset, .unset, .unset, .unset, .unset, .unset, .unset, .unset, .unset, .unset, .unset, .unset, .unset, .unset, .unset] [(.int ((0 : Int32) &&& (1 : Int32)))]))
  rw [show ((0 : Int32) &&& (1 : Int32)) = (0 : Int32) from by decide]
  show OEnds p.tables e below G (s₁.setTop (mkF m 24 #[.val .null, .val (.ref a1), .val (.int (0 : Int32)), .val (.int (0 : Int32)), .val (.int (0 : Int32)), .val (.int (-1 : Int32)), .val (.int (0 : Int32)), .unset, .unset, .unset, .unset, .unset, .unset, .unset, .unset, .unset, .unset, .unset, .unset, .unset, .unset, .unset, .unset, .unset, .unset] [(.int (0 : Int32))]))
  refine OEnds.st (fun _ k => XS.ifYes X0.here hx rfl (pc0 := 24) (pc' := 46) rfl (hb hby d13_24) rfl ((if0 _ _).trans (flt (by decide : ¬ ((0 : Int32) < (0 : Int32)))).2.2.2) (by decide) (by decide) k) ?_
  show OEnds p.tables e below G (s₁.setTop (mkF m 46 #[.val .null, .val (.ref a1), .val (.int (0 : Int32)), .val (.int (0 : Int32)), .val (.int (0 : Int32)), .val (.int (-1 : Int32)), .val (.int (0 : Int32)), .unset, .unset, .unset, .unset, .unset, .unset, .unset, .unset, .unset, .unset, .unset, .unset, .unset, .unset, .unset, .unset, .unset, .unset] []))
  refine OEnds.st (fun _ k => XS.iload X0.here hx rfl (hb hby d13_46) rfl k) ?_
  show OEnds p.tables e below G (s₁.setTop (mkF m 48 #[.val .null, .val (.ref a1), .val (.int (0 : Int32)), .val (.int (0 : Int32)), .val (.int (0 : Int32)), .val (.int (-1 : Int32)), .val (.int (0 : Int32)), .unset, .unset, .unset, .unset, .unset, .unset, .unset, .unset, .unset, .unset, .unset, .unset, .unset, .unset, .unset, .unset, .unset, .unset] [(.int (0 : Int32))]))
  refine OEnds.st (fun _ k => XS.bipush X0.here hx rfl (hb hby d13_48) k) ?_
  show OEnds p.tables e below G (s₁.setTop (mkF m 50 #[.val .null, .val (.ref a1), .val (.int (0 : Int32)), .val (.int (0 : Int32)), .val (.int (0 : Int32)), .val (.int (-1 : Int32)), .val (.int (0 : Int32)), .unset, .unset, .unset, .unset, .unset, .unset, .unset, .unset, .unset, .unset, .unset, .unset, .unset, .unset, .unset, .unset, .unset, .unset] [(.int (44 : Int32)), (.int (0 : Int32))]))
  refine OEnds.st (fun _ k => XS.icmpNo X0.here hx rfl (hb hby d13_50) rfl (tlt (by decide : (0 : Int32) < (44 : Int32))).2.1 k) ?_
  show OEnds p.tables e below G (s₁.setTop (mkF m 53 #[.val .null, .val (.ref a1), .val (.int (0 : Int32)), .val (.int (0 : Int32)), .val (.int (0 : Int32)), .val (.int (-1 : Int32)), .val (.int (0 : Int32)), .unset, .unset, .unset, .unset, .unset, .unset, .unset, .unset, .unset, .unset, .unset, .unset, .unset, .unset, .unset, .unset, .unset, .unset] []))
  refine OEnds.st (fun _ k => XS.aloadN X0.here hx rfl (hb hby d13_53) rfl rfl k) ?_
  show OEnds p.tables e below G (s₁.setTop (mkF m 54 #[.val .null, .val (.ref a1), .val (.int (0 : Int32)), .val (.int (0 : Int32)), .val (.int (0 : Int32)), .val (.int (-1 : Int32)), .val (.int (0 : Int32)), .unset, .unset, .unset, .unset, .unset, .unset, .unset, .unset, .unset, .unset, .unset, .unset, .unset, .unset, .unset, .unset, .unset, .unset] [(.ref a1)]))
  refine OEnds.st (fun _ k => XS.iloadN X0.here hx rfl (hb hby d13_54) rfl k) ?_
  show OEnds p.tables e below G (s₁.setTop (mkF m 55 #[.val .null, .val (.ref a1), .val (.int (0 : Int32)), .val (.int (0 : Int32)), .val (.int (0 : Int32)), .val (.int (-1 : Int32)), .val (.int (0 : Int32)), .unset, .unset, .unset, .unset, .unset, .unset, .unset, .unset, .unset, .unset, .unset, .unset, .unset, .unset, .unset, .unset, .unset, .unset] [(.int (0 : Int32)), (.ref a1)]))
  refine OEnds.st (fun _ k => XS.iload X0.here hx rfl (hb hby d13_55) rfl k) ?_
  show OEnds p.tables e below G (s₁.setTop (mkF m 57 #[.val .null, .val (.ref a1), .val (.int (0 : Int32)), .val (.int (0 : Int32)), .val (.int (0 : Int32)), .val (.int (-1 : Int32)), .val (.int (0 : Int32)), .unset, .unset, .unset, .unset, .unset, .unset, .unset, .unset, .unset, .unset, .unset, .unset, .unset, .unset, .unset, .unset, .unset, .unset] [(.int (0 : Int32)), (.int (0 : Int32)), (.ref a1)]))
  obtain ⟨_, _, ⟨T1001, L1001, k1001c, n1001c⟩, -, X1001, ⟨Lc1001, hQ1001, l1001, y1001, z1001⟩, st1001⟩ := Jvm.LawKit.callS X0 hx (y := (⟨"java/util/DualPivotQuicksort", "insertionSort", "([JII)V"⟩ : MethodName)) hown (mvT hZ (hw _ (List.mem_of_getElem? (i := 69) rfl))) (mvT hZ (hw _ (List.mem_of_getElem? (i := 70) rfl))) (mvT hZ (hw _ (List.mem_of_getElem? (i := 64) rfl))) (mvT hZ (hw _ (List.mem_of_getElem? (i := 71) rfl))) (by decide) (backOf (W := 0) (rmis0 l Z a0 hw [] a1 k h0 n0 Z0 V g_a1) hZ (hw _ (List.mem_of_getElem? (i := 71) rfl)) (hw _ (List.mem_of_getElem? (i := 64) rfl)) (by decide) (by decide)) (g := (mkF m 57 #[.val .null, .val (.ref a1), .val (.int (0 : Int32)), .val (.int (0 : Int32)), .val (.int (0 : Int32)), .val (.int (-1 : Int32)), .val (.int (0 : Int32)), .unset, .unset, .unset, .unset, .unset, .unset, .unset, .unset, .unset, .unset, .unset, .unset, .unset, .unset, .unset, .unset, .unset, .unset] [(.int (0 : Int32)), (.int (0 : Int32)), (.ref a1)])) rfl (by rw [hml]; rfl) (argsL := [(.ref a1), (.int (0 : Int32)), (.int (0 : Int32))]) (rest := []) (lenOf pd_4 rfl) rfl (by show 2 * 0 + _ ≤ _; exact Nat.le_of_eq rfl) (hb hby d13_57) (fun _ _ => ⟨rfl, e0, (by decide : 0 + 0 ≤ _), (by decide : 0 + 0 ≤ _)⟩)
  dsimp only [Pt.U, Pt.locs, Pt.cells, Pt.slots] at X1001 l1001 y1001 z1001 st1001 hQ1001
  subst l1001 y1001 z1001
  obtain ⟨rfl, N1001q, p1002, p1003⟩ := hQ1001
  have N1001 := Fr.app N0 N1001q
  refine OEnds.st st1001 ?_
  clear st1001
  have KK1001 : Keep h0 T1001.heap [a1] := KK0.trans p1002 (fun x hx => by cases List.mem_singleton.mp hx; exact Or.inl (List.mem_of_getElem? (i := 0) rfl))
  have Z1001 := Nat.le_trans Z0 p1002.1
  show OEnds p.tables e below G (T1001.setTop (mkF m 60 #[.val .null, .val (.ref a1), .val (.int (0 : Int32)), .val (.int (0 : Int32)), .val (.int (0 : Int32)), .val (.int (-1 : Int32)), .val (.int (0 : Int32)), .unset, .unset, .unset, .unset, .unset, .unset, .unset, .unset, .unset, .unset, .unset, .unset, .unset, .unset, .unset, .unset, .unset, .unset] []))
  rw [← hG]
  refine OEnds.retV X1001 hx hlk Bd.returns (hb hby d13_60) (by decide) (by decide) ?_
  show _
  exact ⟨rfl, N1001, KK1001, p1003⟩
theorem ef_sp0 (m : MethodId) (a1 : Addr) : entryFrame m #[(.ref a1), (.int (0 : Int32)), (.int (0 : Int32)), (.int (0 : Int32))] 7 = mkF m 0 #[.val (.ref a1), .val (.int (0 : Int32)), .val (.int (0 : Int32)), .val (.int (0 : Int32)), .unset, .unset, .unset] [] := by first | (simp [entryFrame, mkF, argsToLocals, Value.category]; done) | rfl
def Qsp0 (Z : State) (a1 : Addr) (k : ClassId) (h0 : Heap) (n0 : Nat) (v : Option Value) (h : Heap) (L : List Loc) : Prop := v = none ∧ Fr n0 L ∧ Keep h0 h [a1] ∧ Arv Z h a1 k .long (0 : Int32) [] (.long (0 : Int64))
theorem pd_5 : parseMethodDescriptor "(Ljava/util/DualPivotQuicksort$Sorter;[JIII)V" = some ⟨[(.object "java/util/DualPivotQuicksort$Sorter"), (.array .long), .int, .int, .int], none⟩ := by decide +kernel
theorem d12_0 : decode jdk_2529_method_12_code 0 = .ok (.iload_n 3, 1) := by decide +kernel
theorem d12_1 : decode jdk_2529_method_12_code 1 = .ok (.iload_n 2, 1) := by decide +kernel
theorem d12_2 : decode jdk_2529_method_12_code 2 = .ok (.isub, 1) := by decide +kernel
theorem d12_3 : decode jdk_2529_method_12_code 3 = .ok (.istore 4, 2) := by decide +kernel
theorem d12_5 : decode jdk_2529_method_12_code 5 = .ok (.iload_n 1, 1) := by decide +kernel
theorem d12_6 : decode jdk_2529_method_12_code 6 = .ok (.iconst 1, 1) := by decide +kernel
theorem d12_7 : decode jdk_2529_method_12_code 7 = .ok (.if_icmp .le 61, 3) := by decide +kernel
theorem d12_68 : decode jdk_2529_method_12_code 68 = .ok (.aconst_null, 1) := by decide +kernel
theorem d12_69 : decode jdk_2529_method_12_code 69 = .ok (.aload_n 0, 1) := by decide +kernel
theorem d12_70 : decode jdk_2529_method_12_code 70 = .ok (.iconst 0, 1) := by decide +kernel
theorem d12_71 : decode jdk_2529_method_12_code 71 = .ok (.iload_n 2, 1) := by decide +kernel
theorem d12_72 : decode jdk_2529_method_12_code 72 = .ok (.iload_n 3, 1) := by decide +kernel
theorem d12_73 : decode jdk_2529_method_12_code 73 = .ok (.invokestatic 99, 3) := by decide +kernel
theorem d12_76 : decode jdk_2529_method_12_code 76 = .ok (.return_, 1) := by decide +kernel
set_option maxRecDepth 65536 in
set_option maxHeartbeats 40000000 in
theorem rmsp0 (l : Launch) (Z : State) (a0 : Array Value) (hw : ∀ d ∈ tables_1, d.before a0 Z = true) (ws : List Jvm.Cond) (a1 : Addr) (k : ClassId) (h0 : Heap) (n0 : Nat) (Z0 : n0 ≤ h0.size) (V : Arv Z h0 a1 k .long (0 : Int32) [] (.long (0 : Int64))) (g_a1 : n0 ≤ a1) :
    MetFree l (⟨"java/util/DualPivotQuicksort", "sort", "([JIII)V"⟩ : MethodName) (head1 (Jvm.Cond.code (⟨"java/util/DualPivotQuicksort", "sort", "([JIII)V"⟩ : MethodName) jdk_2529_method_12_code 7 none :: ws) ({ frames := 2, cells := 0, slots := 0, locals := 54 } : Room)) (fun a U => a = #[(.ref a1), (.int (0 : Int32)), (.int (0 : Int32)), (.int (0 : Int32))] ∧ Z.Warmed39 U.vm ∧ U.heap = h0) (fun _ _ _ _ _ => True) (fun _ U o U' => ∃ v L, o = .returned v ∧ Qsp0 Z a1 k h0 n0 v U'.heap L ∧ FrameEnd U o U' L ({ frames := 2, cells := 0, slots := 0, locals := 54 } : Room).cells ({ frames := 2, cells := 0, slots := 0, locals := 54 } : Room).slots) := by
  refine MetFree.of_bodySF (plainFor_of_name pn_5) hisR ?_
  intro p e s m args below meth c s₁ Bd hml0 hP hK
  obtain ⟨rfl, hZ, hh⟩ := hP
  have hx := Bd.exec
  have hby := Bd.bytes
  have hml : c.maxLocals = 7 := hml0
  have hown : s.vm.findClass "java/util/DualPivotQuicksort" = some m.cls := findClass_of_methodNamed Bd.named
  have hnm := (name_of_methodNamed Bd.named Bd.method).1
  have hlk : meth.locks = false := BodyLoose.notSynchronized Bd
  have X0 : Stand p l e ({ frames := 2, cells := 0, slots := 0, locals := 54 } : Room) s m #[(.ref a1), (.int (0 : Int32)), (.int (0 : Int32)), (.int (0 : Int32))] below meth c s₁ [] 0 0 := Stand.of_body Bd
  have e0 : s₁.heap = h0 := by rw [← hh, Bd.state]; rfl
  have N0 := Fr.nil n0
  show OEnds p.tables e below (OGoal (Qsp0 Z a1 k h0 n0) s 0 0) (s₁.setTop (entryFrame m #[(.ref a1), (.int (0 : Int32)), (.int (0 : Int32)), (.int (0 : Int32))] 7))
  refine OEnds.st (fun t k => castTop (ef_sp0 m a1) k) ?_
  generalize hG : OGoal (Qsp0 Z a1 k h0 n0) s 0 0 = G
  have KK0 : Keep h0 h0 [a1] := Keep.refl h0 [a1]
  show OEnds p.tables e below G (s₁.setTop (mkF m 0 #[.val (.ref a1), .val (.int (0 : Int32)), .val (.int (0 : Int32)), .val (.int (0 : Int32)), .unset, .unset, .unset] []))
  refine OEnds.st (fun _ k => XS.iloadN X0.here hx rfl (hb hby d12_0) rfl k) ?_
  show OEnds p.tables e below G (s₁.setTop (mkF m 1 #[.val (.ref a1), .val (.int (0 : Int32)), .val (.int (0 : Int32)), .val (.int (0 : Int32)), .unset, .unset, .unset] [(.int (0 : Int32))]))
  refine OEnds.st (fun _ k => XS.iloadN X0.here hx rfl (hb hby d12_1) rfl k) ?_
  show OEnds p.tables e below G (s₁.setTop (mkF m 2 #[.val (.ref a1), .val (.int (0 : Int32)), .val (.int (0 : Int32)), .val (.int (0 : Int32)), .unset, .unset, .unset] [(.int (0 : Int32)), (.int (0 : Int32))]))
  refine OEnds.st (fun _ k => XS.isub X0.here hx rfl (hb hby d12_2) rfl k) ?_
  show OEnds p.tables e below G (s₁.setTop (mkF m 3 #[.val (.ref a1), .val (.int (0 : Int32)), .val (.int (0 : Int32)), .val (.int (0 : Int32)), .unset, .unset, .unset] [(.int ((0 : Int32) - (0 : Int32)))]))
  rw [show ((0 : Int32) - (0 : Int32)) = (0 : Int32) from by decide]
  show OEnds p.tables e below G (s₁.setTop (mkF m 3 #[.val (.ref a1), .val (.int (0 : Int32)), .val (.int (0 : Int32)), .val (.int (0 : Int32)), .unset, .unset, .unset] [(.int (0 : Int32))]))
  refine OEnds.st (fun _ k => XS.istore X0.here hx rfl (hb hby d12_3) rfl (l' := #[.val (.ref a1), .val (.int (0 : Int32)), .val (.int (0 : Int32)), .val (.int (0 : Int32)), .val (.int (0 : Int32)), .unset, .unset]) rfl k) ?_
  show OEnds p.tables e below G (s₁.setTop (mkF m 5 #[.val (.ref a1), .val (.int (0 : Int32)), .val (.int (0 : Int32)), .val (.int (0 : Int32)), .val (.int (0 : Int32)), .unset, .unset] []))
  refine OEnds.st (fun _ k => XS.iloadN X0.here hx rfl (hb hby d12_5) rfl k) ?_
  show OEnds p.tables e below G (s₁.setTop (mkF m 6 #[.val (.ref a1), .val (.int (0 : Int32)), .val (.int (0 : Int32)), .val (.int (0 : Int32)), .val (.int (0 : Int32)), .unset, .unset] [(.int (0 : Int32))]))
  refine OEnds.st (fun _ k => XS.iconst X0.here hx rfl (hb hby d12_6) k) ?_
  show OEnds p.tables e below G (s₁.setTop (mkF m 7 #[.val (.ref a1), .val (.int (0 : Int32)), .val (.int (0 : Int32)), .val (.int (0 : Int32)), .val (.int (0 : Int32)), .unset, .unset] [(.int (1 : Int32)), (.int (0 : Int32))]))
  refine OEnds.st (fun _ k => XS.icmpYes X0.here hx rfl (pc0 := 7) (pc' := 68) rfl (hb hby d12_7) rfl (flt (by decide : ¬ ((1 : Int32) < (0 : Int32)))).2.2.2 (by decide) (by decide) k) ?_
  show OEnds p.tables e below G (s₁.setTop (mkF m 68 #[.val (.ref a1), .val (.int (0 : Int32)), .val (.int (0 : Int32)), .val (.int (0 : Int32)), .val (.int (0 : Int32)), .unset, .unset] []))
  refine OEnds.st (fun _ k => XS.aconstNull X0.here hx rfl (hb hby d12_68) k) ?_
  show OEnds p.tables e below G (s₁.setTop (mkF m 69 #[.val (.ref a1), .val (.int (0 : Int32)), .val (.int (0 : Int32)), .val (.int (0 : Int32)), .val (.int (0 : Int32)), .unset, .unset] [.null]))
  refine OEnds.st (fun _ k => XS.aloadN X0.here hx rfl (hb hby d12_69) rfl rfl k) ?_
  show OEnds p.tables e below G (s₁.setTop (mkF m 70 #[.val (.ref a1), .val (.int (0 : Int32)), .val (.int (0 : Int32)), .val (.int (0 : Int32)), .val (.int (0 : Int32)), .unset, .unset] [(.ref a1), .null]))
  refine OEnds.st (fun _ k => XS.iconst X0.here hx rfl (hb hby d12_70) k) ?_
  show OEnds p.tables e below G (s₁.setTop (mkF m 71 #[.val (.ref a1), .val (.int (0 : Int32)), .val (.int (0 : Int32)), .val (.int (0 : Int32)), .val (.int (0 : Int32)), .unset, .unset] [(.int (0 : Int32)), (.ref a1), .null]))
  refine OEnds.st (fun _ k => XS.iloadN X0.here hx rfl (hb hby d12_71) rfl k) ?_
  show OEnds p.tables e below G (s₁.setTop (mkF m 72 #[.val (.ref a1), .val (.int (0 : Int32)), .val (.int (0 : Int32)), .val (.int (0 : Int32)), .val (.int (0 : Int32)), .unset, .unset] [(.int (0 : Int32)), (.int (0 : Int32)), (.ref a1), .null]))
  refine OEnds.st (fun _ k => XS.iloadN X0.here hx rfl (hb hby d12_72) rfl k) ?_
  show OEnds p.tables e below G (s₁.setTop (mkF m 73 #[.val (.ref a1), .val (.int (0 : Int32)), .val (.int (0 : Int32)), .val (.int (0 : Int32)), .val (.int (0 : Int32)), .unset, .unset] [(.int (0 : Int32)), (.int (0 : Int32)), (.int (0 : Int32)), (.ref a1), .null]))
  obtain ⟨_, _, ⟨T1001, L1001, k1001c, n1001c⟩, -, X1001, ⟨Lc1001, hQ1001, l1001, y1001, z1001⟩, st1001⟩ := Jvm.LawKit.callS X0 hx (y := (⟨"java/util/DualPivotQuicksort", "sort", "(Ljava/util/DualPivotQuicksort$Sorter;[JIII)V"⟩ : MethodName)) hown (mvT hZ (hw _ (List.mem_of_getElem? (i := 66) rfl))) (mvT hZ (hw _ (List.mem_of_getElem? (i := 67) rfl))) (mvT hZ (hw _ (List.mem_of_getElem? (i := 64) rfl))) (mvT hZ (hw _ (List.mem_of_getElem? (i := 68) rfl))) (by decide) (backOf (W := 0) (rmsq0 l Z a0 hw [] a1 k h0 n0 Z0 V g_a1) hZ (hw _ (List.mem_of_getElem? (i := 68) rfl)) (hw _ (List.mem_of_getElem? (i := 64) rfl)) (by decide) (by decide)) (g := (mkF m 73 #[.val (.ref a1), .val (.int (0 : Int32)), .val (.int (0 : Int32)), .val (.int (0 : Int32)), .val (.int (0 : Int32)), .unset, .unset] [(.int (0 : Int32)), (.int (0 : Int32)), (.int (0 : Int32)), (.ref a1), .null])) rfl (by rw [hml]; rfl) (argsL := [.null, (.ref a1), (.int (0 : Int32)), (.int (0 : Int32)), (.int (0 : Int32))]) (rest := []) (lenOf pd_5 rfl) rfl (by show 2 * 0 + _ ≤ _; exact Nat.le_of_eq rfl) (hb hby d12_73) (fun _ _ => ⟨rfl, e0, (by decide : 0 + 0 ≤ _), (by decide : 0 + 0 ≤ _)⟩)
  dsimp only [Pt.U, Pt.locs, Pt.cells, Pt.slots] at X1001 l1001 y1001 z1001 st1001 hQ1001
  subst l1001 y1001 z1001
  obtain ⟨rfl, N1001q, p1002, p1003⟩ := hQ1001
  have N1001 := Fr.app N0 N1001q
  refine OEnds.st st1001 ?_
  clear st1001
  have KK1001 : Keep h0 T1001.heap [a1] := KK0.trans p1002 (fun x hx => by cases List.mem_singleton.mp hx; exact Or.inl (List.mem_of_getElem? (i := 0) rfl))
  have Z1001 := Nat.le_trans Z0 p1002.1
  show OEnds p.tables e below G (T1001.setTop (mkF m 76 #[.val (.ref a1), .val (.int (0 : Int32)), .val (.int (0 : Int32)), .val (.int (0 : Int32)), .val (.int (0 : Int32)), .unset, .unset] []))
  rw [← hG]
  refine OEnds.retV X1001 hx hlk Bd.returns (hb hby d12_76) (by decide) (by decide) ?_
  show _
  exact ⟨rfl, N1001, KK1001, p1003⟩
theorem ef_so0 (m : MethodId) (a1 : Addr) : entryFrame m #[(.ref a1)] 1 = mkF m 0 #[.val (.ref a1)] [] := by first | (simp [entryFrame, mkF, argsToLocals, Value.category]; done) | rfl
def Qso0 (Z : State) (a1 : Addr) (k : ClassId) (h0 : Heap) (n0 : Nat) (v : Option Value) (h : Heap) (L : List Loc) : Prop := v = none ∧ Fr n0 L ∧ Keep h0 h [a1] ∧ Arv Z h a1 k .long (0 : Int32) [] (.long (0 : Int64))
theorem pd_6 : parseMethodDescriptor "([JIII)V" = some ⟨[(.array .long), .int, .int, .int], none⟩ := by decide +kernel
theorem d11_0 : decode jdk_65_method_4_code 0 = .ok (.aload_n 0, 1) := by decide +kernel
theorem d11_1 : decode jdk_65_method_4_code 1 = .ok (.iconst 0, 1) := by decide +kernel
theorem d11_2 : decode jdk_65_method_4_code 2 = .ok (.iconst 0, 1) := by decide +kernel
theorem d11_3 : decode jdk_65_method_4_code 3 = .ok (.aload_n 0, 1) := by decide +kernel
theorem d11_4 : decode jdk_65_method_4_code 4 = .ok (.arraylength, 1) := by decide +kernel
theorem d11_5 : decode jdk_65_method_4_code 5 = .ok (.invokestatic 19, 3) := by decide +kernel
theorem d11_8 : decode jdk_65_method_4_code 8 = .ok (.return_, 1) := by decide +kernel
set_option maxRecDepth 65536 in
set_option maxHeartbeats 40000000 in
theorem rmso0 (l : Launch) (Z : State) (a0 : Array Value) (hw : ∀ d ∈ tables_1, d.before a0 Z = true) (ws : List Jvm.Cond) (a1 : Addr) (k : ClassId) (h0 : Heap) (n0 : Nat) (Z0 : n0 ≤ h0.size) (V : Arv Z h0 a1 k .long (0 : Int32) [] (.long (0 : Int64))) (g_a1 : n0 ≤ a1) :
    MetFree l (⟨"java/util/Arrays", "sort", "([J)V"⟩ : MethodName) (head1 (Jvm.Cond.code (⟨"java/util/Arrays", "sort", "([J)V"⟩ : MethodName) jdk_65_method_4_code 1 none :: ws) ({ frames := 3, cells := 0, slots := 0, locals := 72 } : Room)) (fun a U => a = #[(.ref a1)] ∧ Z.Warmed39 U.vm ∧ U.heap = h0) (fun _ _ _ _ _ => True) (fun _ U o U' => ∃ v L, o = .returned v ∧ Qso0 Z a1 k h0 n0 v U'.heap L ∧ FrameEnd U o U' L ({ frames := 3, cells := 0, slots := 0, locals := 72 } : Room).cells ({ frames := 3, cells := 0, slots := 0, locals := 72 } : Room).slots) := by
  refine MetFree.of_bodySF (plainFor_of_name pn_3) hisR ?_
  intro p e s m args below meth c s₁ Bd hml0 hP hK
  obtain ⟨rfl, hZ, hh⟩ := hP
  have hx := Bd.exec
  have hby := Bd.bytes
  have hml : c.maxLocals = 1 := hml0
  have hown : s.vm.findClass "java/util/Arrays" = some m.cls := findClass_of_methodNamed Bd.named
  have hnm := (name_of_methodNamed Bd.named Bd.method).1
  have hlk : meth.locks = false := BodyLoose.notSynchronized Bd
  have X0 : Stand p l e ({ frames := 3, cells := 0, slots := 0, locals := 72 } : Room) s m #[(.ref a1)] below meth c s₁ [] 0 0 := Stand.of_body Bd
  have e0 : s₁.heap = h0 := by rw [← hh, Bd.state]; rfl
  have N0 := Fr.nil n0
  show OEnds p.tables e below (OGoal (Qso0 Z a1 k h0 n0) s 0 0) (s₁.setTop (entryFrame m #[(.ref a1)] 1))
  refine OEnds.st (fun t k => castTop (ef_so0 m a1) k) ?_
  generalize hG : OGoal (Qso0 Z a1 k h0 n0) s 0 0 = G
  have KK0 : Keep h0 h0 [a1] := Keep.refl h0 [a1]
  show OEnds p.tables e below G (s₁.setTop (mkF m 0 #[.val (.ref a1)] []))
  refine OEnds.st (fun _ k => XS.aloadN X0.here hx rfl (hb hby d11_0) rfl rfl k) ?_
  show OEnds p.tables e below G (s₁.setTop (mkF m 1 #[.val (.ref a1)] [(.ref a1)]))
  refine OEnds.st (fun _ k => XS.iconst X0.here hx rfl (hb hby d11_1) k) ?_
  show OEnds p.tables e below G (s₁.setTop (mkF m 2 #[.val (.ref a1)] [(.int (0 : Int32)), (.ref a1)]))
  refine OEnds.st (fun _ k => XS.iconst X0.here hx rfl (hb hby d11_2) k) ?_
  show OEnds p.tables e below G (s₁.setTop (mkF m 3 #[.val (.ref a1)] [(.int (0 : Int32)), (.int (0 : Int32)), (.ref a1)]))
  refine OEnds.st (fun _ k => XS.aloadN X0.here hx rfl (hb hby d11_3) rfl rfl k) ?_
  show OEnds p.tables e below G (s₁.setTop (mkF m 4 #[.val (.ref a1)] [(.ref a1), (.int (0 : Int32)), (.int (0 : Int32)), (.ref a1)]))
  obtain ⟨cl1001, Ar1001, -, S1001, N1001n, -, -⟩ := id V
  refine OEnds.st (X0.arraylength hx (by rw [e0]; exact Ar1001.1) (State.isArrayOf_alike hZ.alike Ar1001.2.1) (g := (mkF m 4 #[.val (.ref a1)] [(.ref a1), (.int (0 : Int32)), (.int (0 : Int32)), (.ref a1)])) rfl rfl (hb hby d11_4)) ?_
  rw [len_of S1001 N1001n]
  show OEnds p.tables e below G (s₁.setTop (mkF m 5 #[.val (.ref a1)] [(.int (0 : Int32)), (.int (0 : Int32)), (.int (0 : Int32)), (.ref a1)]))
  obtain ⟨_, _, ⟨T1002, L1002, k1002c, n1002c⟩, -, X1002, ⟨Lc1002, hQ1002, l1002, y1002, z1002⟩, st1002⟩ := Jvm.LawKit.callS X0 hx (y := (⟨"java/util/DualPivotQuicksort", "sort", "([JIII)V"⟩ : MethodName)) hown (mvT hZ (hw _ (List.mem_of_getElem? (i := 62) rfl))) (mvT hZ (hw _ (List.mem_of_getElem? (i := 63) rfl))) (mvT hZ (hw _ (List.mem_of_getElem? (i := 64) rfl))) (mvT hZ (hw _ (List.mem_of_getElem? (i := 65) rfl))) (by decide) (backOf (W := 0) (rmsp0 l Z a0 hw [] a1 k h0 n0 Z0 V g_a1) hZ (hw _ (List.mem_of_getElem? (i := 65) rfl)) (hw _ (List.mem_of_getElem? (i := 64) rfl)) (by decide) (by decide)) (g := (mkF m 5 #[.val (.ref a1)] [(.int (0 : Int32)), (.int (0 : Int32)), (.int (0 : Int32)), (.ref a1)])) rfl (by rw [hml]; rfl) (argsL := [(.ref a1), (.int (0 : Int32)), (.int (0 : Int32)), (.int (0 : Int32))]) (rest := []) (lenOf pd_6 rfl) rfl (by show 2 * 0 + _ ≤ _; exact Nat.le_of_eq rfl) (hb hby d11_5) (fun _ _ => ⟨rfl, e0, (by decide : 0 + 0 ≤ _), (by decide : 0 + 0 ≤ _)⟩)
  dsimp only [Pt.U, Pt.locs, Pt.cells, Pt.slots] at X1002 l1002 y1002 z1002 st1002 hQ1002
  subst l1002 y1002 z1002
  obtain ⟨rfl, N1002q, p1003, p1004⟩ := hQ1002
  have N1002 := Fr.app N0 N1002q
  refine OEnds.st st1002 ?_
  clear st1002
  have KK1002 : Keep h0 T1002.heap [a1] := KK0.trans p1003 (fun x hx => by cases List.mem_singleton.mp hx; exact Or.inl (List.mem_of_getElem? (i := 0) rfl))
  have Z1002 := Nat.le_trans Z0 p1003.1
  show OEnds p.tables e below G (T1002.setTop (mkF m 8 #[.val (.ref a1)] []))
  rw [← hG]
  refine OEnds.retV X1002 hx hlk Bd.returns (hb hby d11_8) (by decide) (by decide) ?_
  show _
  exact ⟨rfl, N1002, KK1002, p1004⟩
theorem ef_is1 (m : MethodId) (a1 : Addr) : entryFrame m #[(.ref a1), (.int (0 : Int32)), (.int (1 : Int32))] 7 = mkF m 0 #[.val (.ref a1), .val (.int (0 : Int32)), .val (.int (1 : Int32)), .unset, .unset, .unset, .unset] [] := by first | (simp [entryFrame, mkF, argsToLocals, Value.category]; done) | rfl
def Qis1 (Z : State) (a1 : Addr) (k : ClassId) (x0 : Int64) (h0 : Heap) (n0 : Nat) (v : Option Value) (h : Heap) (L : List Loc) : Prop := v = none ∧ Fr n0 L ∧ Keep h0 h [a1] ∧ Arv Z h a1 k .long (1 : Int32) [(.long x0)] (.long (0 : Int64))
set_option maxRecDepth 65536 in
set_option maxHeartbeats 40000000 in
theorem rmis1 (l : Launch) (Z : State) (a0 : Array Value) (hw : ∀ d ∈ tables_1, d.before a0 Z = true) (ws : List Jvm.Cond) (a1 : Addr) (k : ClassId) (x0 : Int64) (h0 : Heap) (n0 : Nat) (Z0 : n0 ≤ h0.size) (V : Arv Z h0 a1 k .long (1 : Int32) [(.long x0)] (.long (0 : Int64))) (g_a1 : n0 ≤ a1) :
    MetFree l (⟨"java/util/DualPivotQuicksort", "insertionSort", "([JII)V"⟩ : MethodName) (head1 (Jvm.Cond.code (⟨"java/util/DualPivotQuicksort", "insertionSort", "([JII)V"⟩ : MethodName) jdk_2529_method_15_code 7 none :: ws) ({ frames := 0, cells := 0, slots := 0, locals := 0 } : Room)) (fun a U => a = #[(.ref a1), (.int (0 : Int32)), (.int (1 : Int32))] ∧ Z.Warmed39 U.vm ∧ U.heap = h0) (fun _ _ _ _ _ => True) (fun _ U o U' => ∃ v L, o = .returned v ∧ Qis1 Z a1 k x0 h0 n0 v U'.heap L ∧ FrameEnd U o U' L ({ frames := 0, cells := 0, slots := 0, locals := 0 } : Room).cells ({ frames := 0, cells := 0, slots := 0, locals := 0 } : Room).slots) := by
  refine MetFree.of_bodySF (plainFor_of_name pn_5) hisR ?_
  intro p e s m args below meth c s₁ Bd hml0 hP hK
  obtain ⟨rfl, hZ, hh⟩ := hP
  have hx := Bd.exec
  have hby := Bd.bytes
  have hml : c.maxLocals = 7 := hml0
  have hown : s.vm.findClass "java/util/DualPivotQuicksort" = some m.cls := findClass_of_methodNamed Bd.named
  have hnm := (name_of_methodNamed Bd.named Bd.method).1
  have hlk : meth.locks = false := BodyLoose.notSynchronized Bd
  have X0 : Stand p l e ({ frames := 0, cells := 0, slots := 0, locals := 0 } : Room) s m #[(.ref a1), (.int (0 : Int32)), (.int (1 : Int32))] below meth c s₁ [] 0 0 := Stand.of_body Bd
  have e0 : s₁.heap = h0 := by rw [← hh, Bd.state]; rfl
  have N0 := Fr.nil n0
  show OEnds p.tables e below (OGoal (Qis1 Z a1 k x0 h0 n0) s 0 0) (s₁.setTop (entryFrame m #[(.ref a1), (.int (0 : Int32)), (.int (1 : Int32))] 7))
  refine OEnds.st (fun t k => castTop (ef_is1 m a1) k) ?_
  generalize hG : OGoal (Qis1 Z a1 k x0 h0 n0) s 0 0 = G
  have KK0 : Keep h0 h0 [a1] := Keep.refl h0 [a1]
  show OEnds p.tables e below G (s₁.setTop (mkF m 0 #[.val (.ref a1), .val (.int (0 : Int32)), .val (.int (1 : Int32)), .unset, .unset, .unset, .unset] []))
  refine OEnds.st (fun _ k => XS.iloadN X0.here hx rfl (hb hby d14_0) rfl k) ?_
  show OEnds p.tables e below G (s₁.setTop (mkF m 1 #[.val (.ref a1), .val (.int (0 : Int32)), .val (.int (1 : Int32)), .unset, .unset, .unset, .unset] [(.int (0 : Int32))]))
  refine OEnds.st (fun _ k => XS.istore X0.here hx rfl (hb hby d14_1) rfl (l' := #[.val (.ref a1), .val (.int (0 : Int32)), .val (.int (1 : Int32)), .unset, .val (.int (0 : Int32)), .unset, .unset]) rfl k) ?_
  show OEnds p.tables e below G (s₁.setTop (mkF m 3 #[.val (.ref a1), .val (.int (0 : Int32)), .val (.int (1 : Int32)), .unset, .val (.int (0 : Int32)), .unset, .unset] []))
  refine OEnds.st (fun _ k => XS.iinc X0.here hx rfl (hb hby d14_3) rfl (l' := #[.val (.ref a1), .val (.int (0 : Int32)), .val (.int (1 : Int32)), .unset, .val (.int ((0 : Int32) + (1 : Int32))), .unset, .unset]) rfl k) ?_
  show OEnds p.tables e below G (s₁.setTop (mkF m 6 #[.val (.ref a1), .val (.int (0 : Int32)), .val (.int (1 : Int32)), .unset, .val (.int ((0 : Int32) + (1 : Int32))), .unset, .unset] []))
  rw [show ((0 : Int32) + (1 : Int32)) = (1 : Int32) from by decide]
  show OEnds p.tables e below G (s₁.setTop (mkF m 6 #[.val (.ref a1), .val (.int (0 : Int32)), .val (.int (1 : Int32)), .unset, .val (.int (1 : Int32)), .unset, .unset] []))
  refine OEnds.st (fun _ k => XS.iload X0.here hx rfl (hb hby d14_6) rfl k) ?_
  show OEnds p.tables e below G (s₁.setTop (mkF m 8 #[.val (.ref a1), .val (.int (0 : Int32)), .val (.int (1 : Int32)), .unset, .val (.int (1 : Int32)), .unset, .unset] [(.int (1 : Int32))]))
  refine OEnds.st (fun _ k => XS.iloadN X0.here hx rfl (hb hby d14_8) rfl k) ?_
  show OEnds p.tables e below G (s₁.setTop (mkF m 9 #[.val (.ref a1), .val (.int (0 : Int32)), .val (.int (1 : Int32)), .unset, .val (.int (1 : Int32)), .unset, .unset] [(.int (1 : Int32)), (.int (1 : Int32))]))
  refine OEnds.st (fun _ k => XS.icmpYes X0.here hx rfl (pc0 := 9) (pc' := 69) rfl (hb hby d14_9) rfl (flt (by decide : ¬ ((1 : Int32) < (1 : Int32)))).2.1 (by decide) (by decide) k) ?_
  show OEnds p.tables e below G (s₁.setTop (mkF m 69 #[.val (.ref a1), .val (.int (0 : Int32)), .val (.int (1 : Int32)), .unset, .val (.int (1 : Int32)), .unset, .unset] []))
  rw [← hG]
  refine OEnds.retV X0 hx hlk Bd.returns (hb hby d14_69) (by decide) (by decide) ?_
  rw [e0]
  exact ⟨rfl, N0, KK0, V⟩
theorem ef_sq1 (m : MethodId) (a1 : Addr) : entryFrame m #[.null, (.ref a1), (.int (0 : Int32)), (.int (0 : Int32)), (.int (1 : Int32))] 25 = mkF m 0 #[.val .null, .val (.ref a1), .val (.int (0 : Int32)), .val (.int (0 : Int32)), .val (.int (1 : Int32)), .unset, .unset, .unset, .unset, .unset, .unset, .unset, .unset, .unset, .unset, .unset, .unset, .unset, .unset, .unset, .unset, .unset, .unset, .unset, .unset] [] := by first | (simp [entryFrame, mkF, argsToLocals, Value.category]; done) | rfl
def Qsq1 (Z : State) (a1 : Addr) (k : ClassId) (x0 : Int64) (h0 : Heap) (n0 : Nat) (v : Option Value) (h : Heap) (L : List Loc) : Prop := v = none ∧ Fr n0 L ∧ Keep h0 h [a1] ∧ Arv Z h a1 k .long (1 : Int32) [(.long x0)] (.long (0 : Int64))
set_option maxRecDepth 65536 in
set_option maxHeartbeats 40000000 in
theorem rmsq1 (l : Launch) (Z : State) (a0 : Array Value) (hw : ∀ d ∈ tables_1, d.before a0 Z = true) (ws : List Jvm.Cond) (a1 : Addr) (k : ClassId) (x0 : Int64) (h0 : Heap) (n0 : Nat) (Z0 : n0 ≤ h0.size) (V : Arv Z h0 a1 k .long (1 : Int32) [(.long x0)] (.long (0 : Int64))) (g_a1 : n0 ≤ a1) :
    MetFree l (⟨"java/util/DualPivotQuicksort", "sort", "(Ljava/util/DualPivotQuicksort$Sorter;[JIII)V"⟩ : MethodName) (head1 (Jvm.Cond.code (⟨"java/util/DualPivotQuicksort", "sort", "(Ljava/util/DualPivotQuicksort$Sorter;[JIII)V"⟩ : MethodName) jdk_2529_method_13_code 25 none :: ws) ({ frames := 1, cells := 0, slots := 0, locals := 18 } : Room)) (fun a U => a = #[.null, (.ref a1), (.int (0 : Int32)), (.int (0 : Int32)), (.int (1 : Int32))] ∧ Z.Warmed39 U.vm ∧ U.heap = h0) (fun _ _ _ _ _ => True) (fun _ U o U' => ∃ v L, o = .returned v ∧ Qsq1 Z a1 k x0 h0 n0 v U'.heap L ∧ FrameEnd U o U' L ({ frames := 1, cells := 0, slots := 0, locals := 18 } : Room).cells ({ frames := 1, cells := 0, slots := 0, locals := 18 } : Room).slots) := by
  refine MetFree.of_bodySF (plainFor_of_name pn_5) hisR ?_
  intro p e s m args below meth c s₁ Bd hml0 hP hK
  obtain ⟨rfl, hZ, hh⟩ := hP
  have hx := Bd.exec
  have hby := Bd.bytes
  have hml : c.maxLocals = 25 := hml0
  have hown : s.vm.findClass "java/util/DualPivotQuicksort" = some m.cls := findClass_of_methodNamed Bd.named
  have hnm := (name_of_methodNamed Bd.named Bd.method).1
  have hlk : meth.locks = false := BodyLoose.notSynchronized Bd
  have X0 : Stand p l e ({ frames := 1, cells := 0, slots := 0, locals := 18 } : Room) s m #[.null, (.ref a1), (.int (0 : Int32)), (.int (0 : Int32)), (.int (1 : Int32))] below meth c s₁ [] 0 0 := Stand.of_body Bd
  have e0 : s₁.heap = h0 := by rw [← hh, Bd.state]; rfl
  have N0 := Fr.nil n0
  show OEnds p.tables e below (OGoal (Qsq1 Z a1 k x0 h0 n0) s 0 0) (s₁.setTop (entryFrame m #[.null, (.ref a1), (.int (0 : Int32)), (.int (0 : Int32)), (.int (1 : Int32))] 25))
  refine OEnds.st (fun t k => castTop (ef_sq1 m a1) k) ?_
  generalize hG : OGoal (Qsq1 Z a1 k x0 h0 n0) s 0 0 = G
  have KK0 : Keep h0 h0 [a1] := Keep.refl h0 [a1]
  show OEnds p.tables e below G (s₁.setTop (mkF m 0 #[.val .null, .val (.ref a1), .val (.int (0 : Int32)), .val (.int (0 : Int32)), .val (.int (1 : Int32)), .unset, .unset, .unset, .unset, .unset, .unset, .unset, .unset, .unset, .unset, .unset, .unset, .unset, .unset, .unset, .unset, .unset, .unset, .unset, .unset] []))
  refine OEnds.st (fun _ k => XS.iload X0.here hx rfl (hb hby d13_0) rfl k) ?_
  show OEnds p.tables e below G (s₁.setTop (mkF m 2 #[.val .null, .val (.ref a1), .val (.int (0 : Int32)), .val (.int (0 : Int32)), .val (.int (1 : Int32)), .unset, .unset, .unset, .unset, .unset, .unset, .unset, .unset, .unset, .unset, .unset, .unset, .unset, .unset, .unset, .unset, .unset, .unset, .unset, .unset] [(.int (1 : Int32))]))
  refine OEnds.st (fun _ k => XS.iconst X0.here hx rfl (hb hby d13_2) k) ?_
  show OEnds p.tables e below G (s₁.setTop (mkF m 3 #[.val .null, .val (.ref a1), .val (.int (0 : Int32)), .val (.int (0 : Int32)), .val (.int (1 : Int32)), .unset, .unset, .unset, .unset, .unset, .unset, .unset, .unset, .unset, .unset, .unset, .unset, .unset, .unset, .unset, .unset, .unset, .unset, .unset, .unset] [(.int (1 : Int32)), (.int (1 : Int32))]))
  refine OEnds.st (fun _ k => XS.isub X0.here hx rfl (hb hby d13_3) rfl k) ?_
  show OEnds p.tables e below G (s₁.setTop (mkF m 4 #[.val .null, .val (.ref a1), .val (.int (0 : Int32)), .val (.int (0 : Int32)), .val (.int (1 : Int32)), .unset, .unset, .unset, .unset, .unset, .unset, .unset, .unset, .unset, .unset, .unset, .unset, .unset, .unset, .unset, .unset, .unset, .unset, .unset, .unset] [(.int ((1 : Int32) - (1 : Int32)))]))
  rw [show ((1 : Int32) - (1 : Int32)) = (0 : Int32) from by decide]
  show OEnds p.tables e below G (s₁.setTop (mkF m 4 #[.val .null, .val (.ref a1), .val (.int (0 : Int32)), .val (.int (0 : Int32)), .val (.int (1 : Int32)), .unset, .unset, .unset, .unset, .unset, .unset, .unset, .unset, .unset, .unset, .unset, .unset, .unset, .unset, .unset, .unset, .unset, .unset, .unset, .unset] [(.int (0 : Int32))]))
  refine OEnds.st (fun _ k => XS.istore X0.here hx rfl (hb hby d13_4) rfl (l' := #[.val .null, .val (.ref a1), .val (.int (0 : Int32)), .val (.int (0 : Int32)), .val (.int (1 : Int32)), .val (.int (0 : Int32)), .unset, .unset, .unset, .unset, .unset, .unset, .unset, .unset, .unset, .unset, .unset, .unset, .unset, .unset, .unset, .unset, .unset, .unset, .unset]) rfl k) ?_
  show OEnds p.tables e below G (s₁.setTop (mkF m 6 #[.val .null, .val (.ref a1), .val (.int (0 : Int32)), .val (.int (0 : Int32)), .val (.int (1 : Int32)), .val (.int (0 : Int32)), .unset, .unset, .unset, .unset, .unset, .unset, .unset, .unset, .unset, .unset, .unset, .unset, .unset, .unset, .unset, .unset, .unset, .unset, .unset] []))
  refine OEnds.st (fun _ k => XS.iload X0.here hx rfl (hb hby d13_6) rfl k) ?_
  show OEnds p.tables e below G (s₁.setTop (mkF m 8 #[.val .null, .val (.ref a1), .val (.int (0 : Int32)), .val (.int (0 : Int32)), .val (.int (1 : Int32)), .val (.int (0 : Int32)), .unset, .unset, .unset, .unset, .unset, .unset, .unset, .unset, .unset, .unset, .unset, .unset, .unset, .unset, .unset, .unset, .unset, .unset, .unset] [(.int (1 : Int32))]))
  refine OEnds.st (fun _ k => XS.iloadN X0.here hx rfl (hb hby d13_8) rfl k) ?_
  show OEnds p.tables e below G (s₁.setTop (mkF m 9 #[.val .null, .val (.ref a1), .val (.int (0 : Int32)), .val (.int (0 : Int32)), .val (.int (1 : Int32)), .val (.int (0 : Int32)), .unset, .unset, .unset, .unset, .unset, .unset, .unset, .unset, .unset, .unset, .unset, .unset, .unset, .unset, .unset, .unset, .unset, .unset, .unset] [(.int (0 : Int32)), (.int (1 : Int32))]))
  refine OEnds.st (fun _ k => XS.isub X0.here hx rfl (hb hby d13_9) rfl k) ?_
  show OEnds p.tables e below G (s₁.setTop (mkF m 10 #[.val .null, .val (.ref a1), .val (.int (0 : Int32)), .val (.int (0 : Int32)), .val (.int (1 : Int32)), .val (.int (0 : Int32)), .unset, .unset, .unset, .unset, .unset, .unset, .unset, .unset, .unset, .unset, .unset, .unset, .unset, .unset, .unset, .unset, .unset, .unset, .unset] [(.int ((1 : Int32) - (0 : Int32)))]))
  rw [show ((1 : Int32) - (0 : Int32)) = (1 : Int32) from by decide]
  show OEnds p.tables e below G (s₁.setTop (mkF m 10 #[.val .null, .val (.ref a1), .val (.int (0 : Int32)), .val (.int (0 : Int32)), .val (.int (1 : Int32)), .val (.int (0 : Int32)), .unset, .unset, .unset, .unset, .unset, .unset, .unset, .unset, .unset, .unset, .unset, .unset, .unset, .unset, .unset, .unset, .unset, .unset, .unset] [(.int (1 : Int32))]))
  refine OEnds.st (fun _ k => XS.istore X0.here hx rfl (hb hby d13_10) rfl (l' := #[.val .null, .val (.ref a1), .val (.int (0 : Int32)), .val (.int (0 : Int32)), .val (.int (1 : Int32)), .val (.int (0 : Int32)), .val (.int (1 : Int32)), .unset, .unset, .unset, .unset, .unset, .unset, .unset, .unset, .unset, .unset, .unset, .unset, .unset, .unset, .unset, .unset, .unset, .unset]) rfl k) ?_
  show OEnds p.tables e below G (s₁.setTop (mkF m 12 #[.val .null, .val (.ref a1), .val (.int (0 : Int32)), .val (.int (0 : Int32)), .val (.int (1 : Int32)), .val (.int (0 : Int32)), .val (.int (1 : Int32)), .unset, .unset, .unset, .unset, .unset, .unset, .unset, .unset, .unset, .unset, .unset, .unset, .unset, .unset, .unset, .unset, .unset, .unset] []))
  refine OEnds.st (fun _ k => XS.iload X0.here hx rfl (hb hby d13_12) rfl k) ?_
  show OEnds p.tables e below G (s₁.setTop (mkF m 14 #[.val .null, .val (.ref a1), .val (.int (0 : Int32)), .val (.int (0 : Int32)), .val (.int (1 : Int32)), .val (.int (0 : Int32)), .val (.int (1 : Int32)), .unset, .unset, .unset, .unset, .unset, .unset, .unset, .unset, .unset, .unset, .unset, .unset, .unset, .unset, .unset, .unset, .unset, .unset] [(.int (1 : Int32))]))
  refine OEnds.st (fun _ k => XS.bipush X0.here hx rfl (hb hby d13_14) k) ?_
  show OEnds p.tables e below G (s₁.setTop (mkF m 16 #[.val .null, .val (.ref a1), .val (.int (0 : Int32)), .val (.int (0 : Int32)), .val (.int (1 : Int32)), .val (.int (0 : Int32)), .val (.int (1 : Int32)), .unset, .unset, .unset, .unset, .unset, .unset, .unset, .unset, .unset, .unset, .unset, .unset, .unset, .unset, .unset, .unset, .unset, .unset] [(.int (65 : Int32)), (.int (1 : Int32))]))
  refine OEnds.st (fun _ k => XS.iloadN X0.here hx rfl (hb hby d13_16) rfl k) ?_
  show OEnds p.tables e below G (s₁.setTop (mkF m 17 #[.val .null, .val (.ref a1), .val (.int (0 : Int32)), .val (.int (0 : Int32)), .val (.int (1 : Int32)), .val (.int (0 : Int32)), .val (.int (1 : Int32)), .unset, .unset, .unset, .unset, .unset, .unset, .unset, .unset, .unset, .unset, .unset, .unset, .unset, .unset, .unset, .unset, .unset, .unset] [(.int (0 : Int32)), (.int (65 : Int32)), (.int (1 : Int32))]))
  refine OEnds.st (fun _ k => XS.iadd X0.here hx rfl (hb hby d13_17) rfl k) ?_
  show OEnds p.tables e below G (s₁.setTop (mkF m 18 #[.val .null, .val (.ref a1), .val (.int (0 : Int32)), .val (.int (0 : Int32)), .val (.int (1 : Int32)), .val (.int (0 : Int32)), .val (.int (1 : Int32)), .unset, .unset, .unset, .unset, .unset, .unset, .unset, .unset, .unset, .unset, .unset, .unset, .unset, .unset, .unset, .unset, .unset, .unset] [(.int ((65 : Int32) + (0 : Int32))), (.int (1 : Int32))]))
  rw [show ((65 : Int32) + (0 : Int32)) = (65 : Int32) from by decide]
  show OEnds p.tables e below G (s₁.setTop (mkF m 18 #[.val .null, .val (.ref a1), .val (.int (0 : Int32)), .val (.int (0 : Int32)), .val (.int (1 : Int32)), .val (.int (0 : Int32)), .val (.int (1 : Int32)), .unset, .unset, .unset, .unset, .unset, .unset, .unset, .unset, .unset, .unset, .unset, .unset, .unset, .unset, .unset, .unset, .unset, .unset] [(.int (65 : Int32)), (.int (1 : Int32))]))
  refine OEnds.st (fun _ k => XS.icmpNo X0.here hx rfl (hb hby d13_18) rfl (tlt (by decide : (1 : Int32) < (65 : Int32))).2.1 k) ?_
  show OEnds p.tables e below G (s₁.setTop (mkF m 21 #[.val .null, .val (.ref a1), .val (.int (0 : Int32)), .val (.int (0 : Int32)), .val (.int (1 : Int32)), .val (.int (0 : Int32)), .val (.int (1 : Int32)), .unset, .unset, .unset, .unset, .unset, .unset, .unset, .unset, .unset, .unset, .unset, .unset, .unset, .unset, .unset, .unset, .unset, .unset] []))
  refine OEnds.st (fun _ k => XS.iloadN X0.here hx rfl (hb hby d13_21) rfl k) ?_
  show OEnds p.tables e below G (s₁.setTop (mkF m 22 #[.val .null, .val (.ref a1), .val (.int (0 : Int32)), .val (.int (0 : Int32)), .val (.int (1 : Int32)), .val (.int (0 : Int32)), .val (.int (1 : Int32)), .unset, .unset, .unset, .unset, .unset, .unset, .unset, .unset, .unset, .unset, .unset, .unset, .unset, .unset, .unset, .unset, .unset, .unset] [(.int (0 : Int32))]))
  refine OEnds.st (fun _ k => XS.iconst X0.here hx rfl (hb hby d13_22) k) ?_
  show OEnds p.tables e below G (s₁.setTop (mkF m 23 #[.val .null, .val (.ref a1), .val (.int (0 : Int32)), .val (.int (0 : Int32)), .val (.int (1 : Int32)), .val (.int (0 : Int32)), .val (.int (1 : Int32)), .unset, .unset, .unset, .unset, .unset, .unset, .unset, .unset, .unset, .unset, .unset, .unset, .unset, .unset, .unset, .unset, .unset, .unset] [(.int (1 : Int32)), (.int (0 : Int32))]))
  refine OEnds.st (fun _ k => XS.iand X0.here hx rfl (hb hby d13_23) rfl k) ?_
  show OEnds p.tables e below G (s₁.setTop (mkF m 24 #[.val .null, .val (.ref a1), .val (.int (0 : Int32)), .val (.int (0 : Int32)), .val (.int (1 : Int32)), .val (.int (0 : Int32)), .val (.int (1 : Int32)), .unset, .unset, .unset, .unset, .unset, .unset, .unset, .unset, .unset, .unset, .unset, .unset, .unset, .unset, .unset, .unset, .unset, .unset] [(.int ((0 : Int32) &&& (1 : Int32)))]))
  rw [show ((0 : Int32) &&& (1 : Int32)) = (0 : Int32) from by decide]
  show OEnds p.tables e below G (s₁.setTop (mkF m 24 #[.val .null, .val (.ref a1), .val (.int (0 : Int32)), .val (.int (0 : Int32)), .val (.int (1 : Int32)), .val (.int (0 : Int32)), .val (.int (1 : Int32)), .unset, .unset, .unset, .unset, .unset, .unset, .unset, .unset, .unset, .unset, .unset, .unset, .unset, .unset, .unset, .unset, .unset, .unset] [(.int (0 : Int32))]))
  refine OEnds.st (fun _ k => XS.ifYes X0.here hx rfl (pc0 := 24) (pc' := 46) rfl (hb hby d13_24) rfl ((if0 _ _).trans (flt (by decide : ¬ ((0 : Int32) < (0 : Int32)))).2.2.2) (by decide) (by decide) k) ?_
  show OEnds p.tables e below G (s₁.setTop (mkF m 46 #[.val .null, .val (.ref a1), .val (.int (0 : Int32)), .val (.int (0 : Int32)), .val (.int (1 : Int32)), .val (.int (0 : Int32)), .val (.int (1 : Int32)), .unset, .unset, .unset, .unset, .unset, .unset, .unset, .unset, .unset, .unset, .unset, .unset, .unset, .unset, .unset, .unset, .unset, .unset] []))
  refine OEnds.st (fun _ k => XS.iload X0.here hx rfl (hb hby d13_46) rfl k) ?_
  show OEnds p.tables e below G (s₁.setTop (mkF m 48 #[.val .null, .val (.ref a1), .val (.int (0 : Int32)), .val (.int (0 : Int32)), .val (.int (1 : Int32)), .val (.int (0 : Int32)), .val (.int (1 : Int32)), .unset, .unset, .unset, .unset, .unset, .unset, .unset, .unset, .unset, .unset, .unset, .unset, .unset, .unset, .unset, .unset, .unset, .unset] [(.int (1 : Int32))]))
  refine OEnds.st (fun _ k => XS.bipush X0.here hx rfl (hb hby d13_48) k) ?_
  show OEnds p.tables e below G (s₁.setTop (mkF m 50 #[.val .null, .val (.ref a1), .val (.int (0 : Int32)), .val (.int (0 : Int32)), .val (.int (1 : Int32)), .val (.int (0 : Int32)), .val (.int (1 : Int32)), .unset, .unset, .unset, .unset, .unset, .unset, .unset, .unset, .unset, .unset, .unset, .unset, .unset, .unset, .unset, .unset, .unset, .unset] [(.int (44 : Int32)), (.int (1 : Int32))]))
  refine OEnds.st (fun _ k => XS.icmpNo X0.here hx rfl (hb hby d13_50) rfl (tlt (by decide : (1 : Int32) < (44 : Int32))).2.1 k) ?_
  show OEnds p.tables e below G (s₁.setTop (mkF m 53 #[.val .null, .val (.ref a1), .val (.int (0 : Int32)), .val (.int (0 : Int32)), .val (.int (1 : Int32)), .val (.int (0 : Int32)), .val (.int (1 : Int32)), .unset, .unset, .unset, .unset, .unset, .unset, .unset, .unset, .unset, .unset, .unset, .unset, .unset, .unset, .unset, .unset, .unset, .unset] []))
  refine OEnds.st (fun _ k => XS.aloadN X0.here hx rfl (hb hby d13_53) rfl rfl k) ?_
  show OEnds p.tables e below G (s₁.setTop (mkF m 54 #[.val .null, .val (.ref a1), .val (.int (0 : Int32)), .val (.int (0 : Int32)), .val (.int (1 : Int32)), .val (.int (0 : Int32)), .val (.int (1 : Int32)), .unset, .unset, .unset, .unset, .unset, .unset, .unset, .unset, .unset, .unset, .unset, .unset, .unset, .unset, .unset, .unset, .unset, .unset] [(.ref a1)]))
  refine OEnds.st (fun _ k => XS.iloadN X0.here hx rfl (hb hby d13_54) rfl k) ?_
  show OEnds p.tables e below G (s₁.setTop (mkF m 55 #[.val .null, .val (.ref a1), .val (.int (0 : Int32)), .val (.int (0 : Int32)), .val (.int (1 : Int32)), .val (.int (0 : Int32)), .val (.int (1 : Int32)), .unset, .unset, .unset, .unset, .unset, .unset, .unset, .unset, .unset, .unset, .unset, .unset, .unset, .unset, .unset, .unset, .unset, .unset] [(.int (0 : Int32)), (.ref a1)]))
  refine OEnds.st (fun _ k => XS.iload X0.here hx rfl (hb hby d13_55) rfl k) ?_
  show OEnds p.tables e below G (s₁.setTop (mkF m 57 #[.val .null, .val (.ref a1), .val (.int (0 : Int32)), .val (.int (0 : Int32)), .val (.int (1 : Int32)), .val (.int (0 : Int32)), .val (.int (1 : Int32)), .unset, .unset, .unset, .unset, .unset, .unset, .unset, .unset, .unset, .unset, .unset, .unset, .unset, .unset, .unset, .unset, .unset, .unset] [(.int (1 : Int32)), (.int (0 : Int32)), (.ref a1)]))
  obtain ⟨_, _, ⟨T1001, L1001, k1001c, n1001c⟩, -, X1001, ⟨Lc1001, hQ1001, l1001, y1001, z1001⟩, st1001⟩ := Jvm.LawKit.callS X0 hx (y := (⟨"java/util/DualPivotQuicksort", "insertionSort", "([JII)V"⟩ : MethodName)) hown (mvT hZ (hw _ (List.mem_of_getElem? (i := 69) rfl))) (mvT hZ (hw _ (List.mem_of_getElem? (i := 70) rfl))) (mvT hZ (hw _ (List.mem_of_getElem? (i := 64) rfl))) (mvT hZ (hw _ (List.mem_of_getElem? (i := 71) rfl))) (by decide) (backOf (W := 0) (rmis1 l Z a0 hw [] a1 k x0 h0 n0 Z0 V g_a1) hZ (hw _ (List.mem_of_getElem? (i := 71) rfl)) (hw _ (List.mem_of_getElem? (i := 64) rfl)) (by decide) (by decide)) (g := (mkF m 57 #[.val .null, .val (.ref a1), .val (.int (0 : Int32)), .val (.int (0 : Int32)), .val (.int (1 : Int32)), .val (.int (0 : Int32)), .val (.int (1 : Int32)), .unset, .unset, .unset, .unset, .unset, .unset, .unset, .unset, .unset, .unset, .unset, .unset, .unset, .unset, .unset, .unset, .unset, .unset] [(.int (1 : Int32)), (.int (0 : Int32)), (.ref a1)])) rfl (by rw [hml]; rfl) (argsL := [(.ref a1), (.int (0 : Int32)), (.int (1 : Int32))]) (rest := []) (lenOf pd_4 rfl) rfl (by show 2 * 0 + _ ≤ _; exact Nat.le_of_eq rfl) (hb hby d13_57) (fun _ _ => ⟨rfl, e0, (by decide : 0 + 0 ≤ _), (by decide : 0 + 0 ≤ _)⟩)
  dsimp only [Pt.U, Pt.locs, Pt.cells, Pt.slots] at X1001 l1001 y1001 z1001 st1001 hQ1001
  subst l1001 y1001 z1001
  obtain ⟨rfl, N1001q, p1002, p1003⟩ := hQ1001
  have N1001 := Fr.app N0 N1001q
  refine OEnds.st st1001 ?_
  clear st1001
  have KK1001 : Keep h0 T1001.heap [a1] := KK0.trans p1002 (fun x hx => by cases List.mem_singleton.mp hx; exact Or.inl (List.mem_of_getElem? (i := 0) rfl))
  have Z1001 := Nat.le_trans Z0 p1002.1
  show OEnds p.tables e below G (T1001.setTop (mkF m 60 #[.val .null, .val (.ref a1), .val (.int (0 : Int32)), .val (.int (0 : Int32)), .val (.int (1 : Int32)), .val (.int (0 : Int32)), .val (.int (1 : Int32)), .unset, .unset, .unset, .unset, .unset, .unset, .unset, .unset, .unset, .unset, .unset, .unset, .unset, .unset, .unset, .unset, .unset, .unset] []))
  rw [← hG]
  refine OEnds.retV X1001 hx hlk Bd.returns (hb hby d13_60) (by decide) (by decide) ?_
  show _
  exact ⟨rfl, N1001, KK1001, p1003⟩
theorem ef_sp1 (m : MethodId) (a1 : Addr) : entryFrame m #[(.ref a1), (.int (0 : Int32)), (.int (0 : Int32)), (.int (1 : Int32))] 7 = mkF m 0 #[.val (.ref a1), .val (.int (0 : Int32)), .val (.int (0 : Int32)), .val (.int (1 : Int32)), .unset, .unset, .unset] [] := by first | (simp [entryFrame, mkF, argsToLocals, Value.category]; done) | rfl
def Qsp1 (Z : State) (a1 : Addr) (k : ClassId) (x0 : Int64) (h0 : Heap) (n0 : Nat) (v : Option Value) (h : Heap) (L : List Loc) : Prop := v = none ∧ Fr n0 L ∧ Keep h0 h [a1] ∧ Arv Z h a1 k .long (1 : Int32) [(.long x0)] (.long (0 : Int64))
set_option maxRecDepth 65536 in
set_option maxHeartbeats 40000000 in
theorem rmsp1 (l : Launch) (Z : State) (a0 : Array Value) (hw : ∀ d ∈ tables_1, d.before a0 Z = true) (ws : List Jvm.Cond) (a1 : Addr) (k : ClassId) (x0 : Int64) (h0 : Heap) (n0 : Nat) (Z0 : n0 ≤ h0.size) (V : Arv Z h0 a1 k .long (1 : Int32) [(.long x0)] (.long (0 : Int64))) (g_a1 : n0 ≤ a1) :
    MetFree l (⟨"java/util/DualPivotQuicksort", "sort", "([JIII)V"⟩ : MethodName) (head1 (Jvm.Cond.code (⟨"java/util/DualPivotQuicksort", "sort", "([JIII)V"⟩ : MethodName) jdk_2529_method_12_code 7 none :: ws) ({ frames := 2, cells := 0, slots := 0, locals := 54 } : Room)) (fun a U => a = #[(.ref a1), (.int (0 : Int32)), (.int (0 : Int32)), (.int (1 : Int32))] ∧ Z.Warmed39 U.vm ∧ U.heap = h0) (fun _ _ _ _ _ => True) (fun _ U o U' => ∃ v L, o = .returned v ∧ Qsp1 Z a1 k x0 h0 n0 v U'.heap L ∧ FrameEnd U o U' L ({ frames := 2, cells := 0, slots := 0, locals := 54 } : Room).cells ({ frames := 2, cells := 0, slots := 0, locals := 54 } : Room).slots) := by
  refine MetFree.of_bodySF (plainFor_of_name pn_5) hisR ?_
  intro p e s m args below meth c s₁ Bd hml0 hP hK
  obtain ⟨rfl, hZ, hh⟩ := hP
  have hx := Bd.exec
  have hby := Bd.bytes
  have hml : c.maxLocals = 7 := hml0
  have hown : s.vm.findClass "java/util/DualPivotQuicksort" = some m.cls := findClass_of_methodNamed Bd.named
  have hnm := (name_of_methodNamed Bd.named Bd.method).1
  have hlk : meth.locks = false := BodyLoose.notSynchronized Bd
  have X0 : Stand p l e ({ frames := 2, cells := 0, slots := 0, locals := 54 } : Room) s m #[(.ref a1), (.int (0 : Int32)), (.int (0 : Int32)), (.int (1 : Int32))] below meth c s₁ [] 0 0 := Stand.of_body Bd
  have e0 : s₁.heap = h0 := by rw [← hh, Bd.state]; rfl
  have N0 := Fr.nil n0
  show OEnds p.tables e below (OGoal (Qsp1 Z a1 k x0 h0 n0) s 0 0) (s₁.setTop (entryFrame m #[(.ref a1), (.int (0 : Int32)), (.int (0 : Int32)), (.int (1 : Int32))] 7))
  refine OEnds.st (fun t k => castTop (ef_sp1 m a1) k) ?_
  generalize hG : OGoal (Qsp1 Z a1 k x0 h0 n0) s 0 0 = G
  have KK0 : Keep h0 h0 [a1] := Keep.refl h0 [a1]
  show OEnds p.tables e below G (s₁.setTop (mkF m 0 #[.val (.ref a1), .val (.int (0 : Int32)), .val (.int (0 : Int32)), .val (.int (1 : Int32)), .unset, .unset, .unset] []))
  refine OEnds.st (fun _ k => XS.iloadN X0.here hx rfl (hb hby d12_0) rfl k) ?_
  show OEnds p.tables e below G (s₁.setTop (mkF m 1 #[.val (.ref a1), .val (.int (0 : Int32)), .val (.int (0 : Int32)), .val (.int (1 : Int32)), .unset, .unset, .unset] [(.int (1 : Int32))]))
  refine OEnds.st (fun _ k => XS.iloadN X0.here hx rfl (hb hby d12_1) rfl k) ?_
  show OEnds p.tables e below G (s₁.setTop (mkF m 2 #[.val (.ref a1), .val (.int (0 : Int32)), .val (.int (0 : Int32)), .val (.int (1 : Int32)), .unset, .unset, .unset] [(.int (0 : Int32)), (.int (1 : Int32))]))
  refine OEnds.st (fun _ k => XS.isub X0.here hx rfl (hb hby d12_2) rfl k) ?_
  show OEnds p.tables e below G (s₁.setTop (mkF m 3 #[.val (.ref a1), .val (.int (0 : Int32)), .val (.int (0 : Int32)), .val (.int (1 : Int32)), .unset, .unset, .unset] [(.int ((1 : Int32) - (0 : Int32)))]))
  rw [show ((1 : Int32) - (0 : Int32)) = (1 : Int32) from by decide]
  show OEnds p.tables e below G (s₁.setTop (mkF m 3 #[.val (.ref a1), .val (.int (0 : Int32)), .val (.int (0 : Int32)), .val (.int (1 : Int32)), .unset, .unset, .unset] [(.int (1 : Int32))]))
  refine OEnds.st (fun _ k => XS.istore X0.here hx rfl (hb hby d12_3) rfl (l' := #[.val (.ref a1), .val (.int (0 : Int32)), .val (.int (0 : Int32)), .val (.int (1 : Int32)), .val (.int (1 : Int32)), .unset, .unset]) rfl k) ?_
  show OEnds p.tables e below G (s₁.setTop (mkF m 5 #[.val (.ref a1), .val (.int (0 : Int32)), .val (.int (0 : Int32)), .val (.int (1 : Int32)), .val (.int (1 : Int32)), .unset, .unset] []))
  refine OEnds.st (fun _ k => XS.iloadN X0.here hx rfl (hb hby d12_5) rfl k) ?_
  show OEnds p.tables e below G (s₁.setTop (mkF m 6 #[.val (.ref a1), .val (.int (0 : Int32)), .val (.int (0 : Int32)), .val (.int (1 : Int32)), .val (.int (1 : Int32)), .unset, .unset] [(.int (0 : Int32))]))
  refine OEnds.st (fun _ k => XS.iconst X0.here hx rfl (hb hby d12_6) k) ?_
  show OEnds p.tables e below G (s₁.setTop (mkF m 7 #[.val (.ref a1), .val (.int (0 : Int32)), .val (.int (0 : Int32)), .val (.int (1 : Int32)), .val (.int (1 : Int32)), .unset, .unset] [(.int (1 : Int32)), (.int (0 : Int32))]))
  refine OEnds.st (fun _ k => XS.icmpYes X0.here hx rfl (pc0 := 7) (pc' := 68) rfl (hb hby d12_7) rfl (flt (by decide : ¬ ((1 : Int32) < (0 : Int32)))).2.2.2 (by decide) (by decide) k) ?_
  show OEnds p.tables e below G (s₁.setTop (mkF m 68 #[.val (.ref a1), .val (.int (0 : Int32)), .val (.int (0 : Int32)), .val (.int (1 : Int32)), .val (.int (1 : Int32)), .unset, .unset] []))
  refine OEnds.st (fun _ k => XS.aconstNull X0.here hx rfl (hb hby d12_68) k) ?_
  show OEnds p.tables e below G (s₁.setTop (mkF m 69 #[.val (.ref a1), .val (.int (0 : Int32)), .val (.int (0 : Int32)), .val (.int (1 : Int32)), .val (.int (1 : Int32)), .unset, .unset] [.null]))
  refine OEnds.st (fun _ k => XS.aloadN X0.here hx rfl (hb hby d12_69) rfl rfl k) ?_
  show OEnds p.tables e below G (s₁.setTop (mkF m 70 #[.val (.ref a1), .val (.int (0 : Int32)), .val (.int (0 : Int32)), .val (.int (1 : Int32)), .val (.int (1 : Int32)), .unset, .unset] [(.ref a1), .null]))
  refine OEnds.st (fun _ k => XS.iconst X0.here hx rfl (hb hby d12_70) k) ?_
  show OEnds p.tables e below G (s₁.setTop (mkF m 71 #[.val (.ref a1), .val (.int (0 : Int32)), .val (.int (0 : Int32)), .val (.int (1 : Int32)), .val (.int (1 : Int32)), .unset, .unset] [(.int (0 : Int32)), (.ref a1), .null]))
  refine OEnds.st (fun _ k => XS.iloadN X0.here hx rfl (hb hby d12_71) rfl k) ?_
  show OEnds p.tables e below G (s₁.setTop (mkF m 72 #[.val (.ref a1), .val (.int (0 : Int32)), .val (.int (0 : Int32)), .val (.int (1 : Int32)), .val (.int (1 : Int32)), .unset, .unset] [(.int (0 : Int32)), (.int (0 : Int32)), (.ref a1), .null]))
  refine OEnds.st (fun _ k => XS.iloadN X0.here hx rfl (hb hby d12_72) rfl k) ?_
  show OEnds p.tables e below G (s₁.setTop (mkF m 73 #[.val (.ref a1), .val (.int (0 : Int32)), .val (.int (0 : Int32)), .val (.int (1 : Int32)), .val (.int (1 : Int32)), .unset, .unset] [(.int (1 : Int32)), (.int (0 : Int32)), (.int (0 : Int32)), (.ref a1), .null]))
  obtain ⟨_, _, ⟨T1001, L1001, k1001c, n1001c⟩, -, X1001, ⟨Lc1001, hQ1001, l1001, y1001, z1001⟩, st1001⟩ := Jvm.LawKit.callS X0 hx (y := (⟨"java/util/DualPivotQuicksort", "sort", "(Ljava/util/DualPivotQuicksort$Sorter;[JIII)V"⟩ : MethodName)) hown (mvT hZ (hw _ (List.mem_of_getElem? (i := 66) rfl))) (mvT hZ (hw _ (List.mem_of_getElem? (i := 67) rfl))) (mvT hZ (hw _ (List.mem_of_getElem? (i := 64) rfl))) (mvT hZ (hw _ (List.mem_of_getElem? (i := 68) rfl))) (by decide) (backOf (W := 0) (rmsq1 l Z a0 hw [] a1 k x0 h0 n0 Z0 V g_a1) hZ (hw _ (List.mem_of_getElem? (i := 68) rfl)) (hw _ (List.mem_of_getElem? (i := 64) rfl)) (by decide) (by decide)) (g := (mkF m 73 #[.val (.ref a1), .val (.int (0 : Int32)), .val (.int (0 : Int32)), .val (.int (1 : Int32)), .val (.int (1 : Int32)), .unset, .unset] [(.int (1 : Int32)), (.int (0 : Int32)), (.int (0 : Int32)), (.ref a1), .null])) rfl (by rw [hml]; rfl) (argsL := [.null, (.ref a1), (.int (0 : Int32)), (.int (0 : Int32)), (.int (1 : Int32))]) (rest := []) (lenOf pd_5 rfl) rfl (by show 2 * 0 + _ ≤ _; exact Nat.le_of_eq rfl) (hb hby d12_73) (fun _ _ => ⟨rfl, e0, (by decide : 0 + 0 ≤ _), (by decide : 0 + 0 ≤ _)⟩)
  dsimp only [Pt.U, Pt.locs, Pt.cells, Pt.slots] at X1001 l1001 y1001 z1001 st1001 hQ1001
  subst l1001 y1001 z1001
  obtain ⟨rfl, N1001q, p1002, p1003⟩ := hQ1001
  have N1001 := Fr.app N0 N1001q
  refine OEnds.st st1001 ?_
  clear st1001
  have KK1001 : Keep h0 T1001.heap [a1] := KK0.trans p1002 (fun x hx => by cases List.mem_singleton.mp hx; exact Or.inl (List.mem_of_getElem? (i := 0) rfl))
  have Z1001 := Nat.le_trans Z0 p1002.1
  show OEnds p.tables e below G (T1001.setTop (mkF m 76 #[.val (.ref a1), .val (.int (0 : Int32)), .val (.int (0 : Int32)), .val (.int (1 : Int32)), .val (.int (1 : Int32)), .unset, .unset] []))
  rw [← hG]
  refine OEnds.retV X1001 hx hlk Bd.returns (hb hby d12_76) (by decide) (by decide) ?_
  show _
  exact ⟨rfl, N1001, KK1001, p1003⟩
theorem ef_so1 (m : MethodId) (a1 : Addr) : entryFrame m #[(.ref a1)] 1 = mkF m 0 #[.val (.ref a1)] [] := by first | (simp [entryFrame, mkF, argsToLocals, Value.category]; done) | rfl
def Qso1 (Z : State) (a1 : Addr) (k : ClassId) (x0 : Int64) (h0 : Heap) (n0 : Nat) (v : Option Value) (h : Heap) (L : List Loc) : Prop := v = none ∧ Fr n0 L ∧ Keep h0 h [a1] ∧ Arv Z h a1 k .long (1 : Int32) [(.long x0)] (.long (0 : Int64))
set_option maxRecDepth 65536 in
set_option maxHeartbeats 40000000 in
theorem rmso1 (l : Launch) (Z : State) (a0 : Array Value) (hw : ∀ d ∈ tables_1, d.before a0 Z = true) (ws : List Jvm.Cond) (a1 : Addr) (k : ClassId) (x0 : Int64) (h0 : Heap) (n0 : Nat) (Z0 : n0 ≤ h0.size) (V : Arv Z h0 a1 k .long (1 : Int32) [(.long x0)] (.long (0 : Int64))) (g_a1 : n0 ≤ a1) :
    MetFree l (⟨"java/util/Arrays", "sort", "([J)V"⟩ : MethodName) (head1 (Jvm.Cond.code (⟨"java/util/Arrays", "sort", "([J)V"⟩ : MethodName) jdk_65_method_4_code 1 none :: ws) ({ frames := 3, cells := 0, slots := 0, locals := 72 } : Room)) (fun a U => a = #[(.ref a1)] ∧ Z.Warmed39 U.vm ∧ U.heap = h0) (fun _ _ _ _ _ => True) (fun _ U o U' => ∃ v L, o = .returned v ∧ Qso1 Z a1 k x0 h0 n0 v U'.heap L ∧ FrameEnd U o U' L ({ frames := 3, cells := 0, slots := 0, locals := 72 } : Room).cells ({ frames := 3, cells := 0, slots := 0, locals := 72 } : Room).slots) := by
  refine MetFree.of_bodySF (plainFor_of_name pn_3) hisR ?_
  intro p e s m args below meth c s₁ Bd hml0 hP hK
  obtain ⟨rfl, hZ, hh⟩ := hP
  have hx := Bd.exec
  have hby := Bd.bytes
  have hml : c.maxLocals = 1 := hml0
  have hown : s.vm.findClass "java/util/Arrays" = some m.cls := findClass_of_methodNamed Bd.named
  have hnm := (name_of_methodNamed Bd.named Bd.method).1
  have hlk : meth.locks = false := BodyLoose.notSynchronized Bd
  have X0 : Stand p l e ({ frames := 3, cells := 0, slots := 0, locals := 72 } : Room) s m #[(.ref a1)] below meth c s₁ [] 0 0 := Stand.of_body Bd
  have e0 : s₁.heap = h0 := by rw [← hh, Bd.state]; rfl
  have N0 := Fr.nil n0
  show OEnds p.tables e below (OGoal (Qso1 Z a1 k x0 h0 n0) s 0 0) (s₁.setTop (entryFrame m #[(.ref a1)] 1))
  refine OEnds.st (fun t k => castTop (ef_so1 m a1) k) ?_
  generalize hG : OGoal (Qso1 Z a1 k x0 h0 n0) s 0 0 = G
  have KK0 : Keep h0 h0 [a1] := Keep.refl h0 [a1]
  show OEnds p.tables e below G (s₁.setTop (mkF m 0 #[.val (.ref a1)] []))
  refine OEnds.st (fun _ k => XS.aloadN X0.here hx rfl (hb hby d11_0) rfl rfl k) ?_
  show OEnds p.tables e below G (s₁.setTop (mkF m 1 #[.val (.ref a1)] [(.ref a1)]))
  refine OEnds.st (fun _ k => XS.iconst X0.here hx rfl (hb hby d11_1) k) ?_
  show OEnds p.tables e below G (s₁.setTop (mkF m 2 #[.val (.ref a1)] [(.int (0 : Int32)), (.ref a1)]))
  refine OEnds.st (fun _ k => XS.iconst X0.here hx rfl (hb hby d11_2) k) ?_
  show OEnds p.tables e below G (s₁.setTop (mkF m 3 #[.val (.ref a1)] [(.int (0 : Int32)), (.int (0 : Int32)), (.ref a1)]))
  refine OEnds.st (fun _ k => XS.aloadN X0.here hx rfl (hb hby d11_3) rfl rfl k) ?_
  show OEnds p.tables e below G (s₁.setTop (mkF m 4 #[.val (.ref a1)] [(.ref a1), (.int (0 : Int32)), (.int (0 : Int32)), (.ref a1)]))
  obtain ⟨cl1001, Ar1001, -, S1001, N1001n, -, -⟩ := id V
  refine OEnds.st (X0.arraylength hx (by rw [e0]; exact Ar1001.1) (State.isArrayOf_alike hZ.alike Ar1001.2.1) (g := (mkF m 4 #[.val (.ref a1)] [(.ref a1), (.int (0 : Int32)), (.int (0 : Int32)), (.ref a1)])) rfl rfl (hb hby d11_4)) ?_
  rw [len_of S1001 N1001n]
  show OEnds p.tables e below G (s₁.setTop (mkF m 5 #[.val (.ref a1)] [(.int (1 : Int32)), (.int (0 : Int32)), (.int (0 : Int32)), (.ref a1)]))
  obtain ⟨_, _, ⟨T1002, L1002, k1002c, n1002c⟩, -, X1002, ⟨Lc1002, hQ1002, l1002, y1002, z1002⟩, st1002⟩ := Jvm.LawKit.callS X0 hx (y := (⟨"java/util/DualPivotQuicksort", "sort", "([JIII)V"⟩ : MethodName)) hown (mvT hZ (hw _ (List.mem_of_getElem? (i := 62) rfl))) (mvT hZ (hw _ (List.mem_of_getElem? (i := 63) rfl))) (mvT hZ (hw _ (List.mem_of_getElem? (i := 64) rfl))) (mvT hZ (hw _ (List.mem_of_getElem? (i := 65) rfl))) (by decide) (backOf (W := 0) (rmsp1 l Z a0 hw [] a1 k x0 h0 n0 Z0 V g_a1) hZ (hw _ (List.mem_of_getElem? (i := 65) rfl)) (hw _ (List.mem_of_getElem? (i := 64) rfl)) (by decide) (by decide)) (g := (mkF m 5 #[.val (.ref a1)] [(.int (1 : Int32)), (.int (0 : Int32)), (.int (0 : Int32)), (.ref a1)])) rfl (by rw [hml]; rfl) (argsL := [(.ref a1), (.int (0 : Int32)), (.int (0 : Int32)), (.int (1 : Int32))]) (rest := []) (lenOf pd_6 rfl) rfl (by show 2 * 0 + _ ≤ _; exact Nat.le_of_eq rfl) (hb hby d11_5) (fun _ _ => ⟨rfl, e0, (by decide : 0 + 0 ≤ _), (by decide : 0 + 0 ≤ _)⟩)
  dsimp only [Pt.U, Pt.locs, Pt.cells, Pt.slots] at X1002 l1002 y1002 z1002 st1002 hQ1002
  subst l1002 y1002 z1002
  obtain ⟨rfl, N1002q, p1003, p1004⟩ := hQ1002
  have N1002 := Fr.app N0 N1002q
  refine OEnds.st st1002 ?_
  clear st1002
  have KK1002 : Keep h0 T1002.heap [a1] := KK0.trans p1003 (fun x hx => by cases List.mem_singleton.mp hx; exact Or.inl (List.mem_of_getElem? (i := 0) rfl))
  have Z1002 := Nat.le_trans Z0 p1003.1
  show OEnds p.tables e below G (T1002.setTop (mkF m 8 #[.val (.ref a1)] []))
  rw [← hG]
  refine OEnds.retV X1002 hx hlk Bd.returns (hb hby d11_8) (by decide) (by decide) ?_
  show _
  exact ⟨rfl, N1002, KK1002, p1004⟩
theorem own_max2 {x y : Int64} (h : ¬ y < x) : own_max x y = y := by
  unfold own_max
  by_cases q : x < y
  · rw [if_pos q]
  · rw [if_neg q]
    rw [Int64.lt_iff_toInt_lt] at h q
    exact Int64.toInt_inj.mp (by omega)
theorem ef_is2 (m : MethodId) (a1 : Addr) : entryFrame m #[(.ref a1), (.int (0 : Int32)), (.int (2 : Int32))] 7 = mkF m 0 #[.val (.ref a1), .val (.int (0 : Int32)), .val (.int (2 : Int32)), .unset, .unset, .unset, .unset] [] := by first | (simp [entryFrame, mkF, argsToLocals, Value.category]; done) | rfl
def Qis2 (Z : State) (a1 : Addr) (k : ClassId) (x0 : Int64) (x1 : Int64) (h0 : Heap) (n0 : Nat) (v : Option Value) (h : Heap) (L : List Loc) : Prop := v = none ∧ Fr n0 L ∧ Keep h0 h [a1] ∧ Arv Z h a1 k .long (2 : Int32) [(.long (own_min x0 x1)), (.long (own_max x0 x1))] (.long (0 : Int64))
theorem d14_12 : decode jdk_2529_method_15_code 12 = .ok (.aload_n 0, 1) := by decide +kernel
theorem d14_13 : decode jdk_2529_method_15_code 13 = .ok (.iload 4, 2) := by decide +kernel
theorem d14_15 : decode jdk_2529_method_15_code 15 = .ok (.dup, 1) := by decide +kernel
theorem d14_16 : decode jdk_2529_method_15_code 16 = .ok (.istore_n 3, 1) := by decide +kernel
theorem d14_17 : decode jdk_2529_method_15_code 17 = .ok (.laload, 1) := by decide +kernel
theorem d14_18 : decode jdk_2529_method_15_code 18 = .ok (.lstore 5, 2) := by decide +kernel
theorem d14_20 : decode jdk_2529_method_15_code 20 = .ok (.lload 5, 2) := by decide +kernel
theorem d14_22 : decode jdk_2529_method_15_code 22 = .ok (.aload_n 0, 1) := by decide +kernel
theorem d14_23 : decode jdk_2529_method_15_code 23 = .ok (.iload_n 3, 1) := by decide +kernel
theorem d14_24 : decode jdk_2529_method_15_code 24 = .ok (.iconst 1, 1) := by decide +kernel
theorem d14_25 : decode jdk_2529_method_15_code 25 = .ok (.isub, 1) := by decide +kernel
theorem d14_26 : decode jdk_2529_method_15_code 26 = .ok (.laload, 1) := by decide +kernel
theorem d14_27 : decode jdk_2529_method_15_code 27 = .ok (.lcmp, 1) := by decide +kernel
theorem d14_28 : decode jdk_2529_method_15_code 28 = .ok (.ifCond .ge 38, 3) := by decide +kernel
theorem d14_31 : decode jdk_2529_method_15_code 31 = .ok (.iinc 3 (-1), 3) := by decide +kernel
theorem d14_34 : decode jdk_2529_method_15_code 34 = .ok (.iload_n 3, 1) := by decide +kernel
theorem d14_35 : decode jdk_2529_method_15_code 35 = .ok (.iload_n 1, 1) := by decide +kernel
theorem d14_36 : decode jdk_2529_method_15_code 36 = .ok (.if_icmp .lt 23, 3) := by decide +kernel
theorem d14_39 : decode jdk_2529_method_15_code 39 = .ok (.lload 5, 2) := by decide +kernel
theorem d14_41 : decode jdk_2529_method_15_code 41 = .ok (.aload_n 0, 1) := by decide +kernel
theorem d14_42 : decode jdk_2529_method_15_code 42 = .ok (.iload_n 3, 1) := by decide +kernel
theorem d14_43 : decode jdk_2529_method_15_code 43 = .ok (.laload, 1) := by decide +kernel
theorem d14_44 : decode jdk_2529_method_15_code 44 = .ok (.lcmp, 1) := by decide +kernel
theorem d14_45 : decode jdk_2529_method_15_code 45 = .ok (.ifCond .ge 14, 3) := by decide +kernel
theorem d14_48 : decode jdk_2529_method_15_code 48 = .ok (.aload_n 0, 1) := by decide +kernel
theorem d14_49 : decode jdk_2529_method_15_code 49 = .ok (.iload_n 3, 1) := by decide +kernel
theorem d14_50 : decode jdk_2529_method_15_code 50 = .ok (.iconst 1, 1) := by decide +kernel
theorem d14_51 : decode jdk_2529_method_15_code 51 = .ok (.iadd, 1) := by decide +kernel
theorem d14_52 : decode jdk_2529_method_15_code 52 = .ok (.aload_n 0, 1) := by decide +kernel
theorem d14_53 : decode jdk_2529_method_15_code 53 = .ok (.iload_n 3, 1) := by decide +kernel
theorem d14_54 : decode jdk_2529_method_15_code 54 = .ok (.laload, 1) := by decide +kernel
theorem d14_55 : decode jdk_2529_method_15_code 55 = .ok (.lastore, 1) := by decide +kernel
theorem d14_56 : decode jdk_2529_method_15_code 56 = .ok (.goto (-25), 3) := by decide +kernel
theorem d14_59 : decode jdk_2529_method_15_code 59 = .ok (.aload_n 0, 1) := by decide +kernel
theorem d14_60 : decode jdk_2529_method_15_code 60 = .ok (.iload_n 3, 1) := by decide +kernel
theorem d14_61 : decode jdk_2529_method_15_code 61 = .ok (.iconst 1, 1) := by decide +kernel
theorem d14_62 : decode jdk_2529_method_15_code 62 = .ok (.iadd, 1) := by decide +kernel
theorem d14_63 : decode jdk_2529_method_15_code 63 = .ok (.lload 5, 2) := by decide +kernel
theorem d14_65 : decode jdk_2529_method_15_code 65 = .ok (.lastore, 1) := by decide +kernel
theorem d14_66 : decode jdk_2529_method_15_code 66 = .ok (.goto (-63), 3) := by decide +kernel
set_option maxRecDepth 65536 in
set_option maxHeartbeats 40000000 in
theorem rmis2 (l : Launch) (Z : State) (a0 : Array Value) (hw : ∀ d ∈ tables_1, d.before a0 Z = true) (ws : List Jvm.Cond) (a1 : Addr) (k : ClassId) (x0 : Int64) (x1 : Int64) (h0 : Heap) (n0 : Nat) (Z0 : n0 ≤ h0.size) (V : Arv Z h0 a1 k .long (2 : Int32) [(.long x0), (.long x1)] (.long (0 : Int64))) (g_a1 : n0 ≤ a1) :
    MetFree l (⟨"java/util/DualPivotQuicksort", "insertionSort", "([JII)V"⟩ : MethodName) (head1 (Jvm.Cond.code (⟨"java/util/DualPivotQuicksort", "insertionSort", "([JII)V"⟩ : MethodName) jdk_2529_method_15_code 7 none :: ws) ({ frames := 0, cells := 0, slots := 0, locals := 0 } : Room)) (fun a U => a = #[(.ref a1), (.int (0 : Int32)), (.int (2 : Int32))] ∧ Z.Warmed39 U.vm ∧ U.heap = h0) (fun _ _ _ _ _ => True) (fun _ U o U' => ∃ v L, o = .returned v ∧ Qis2 Z a1 k x0 x1 h0 n0 v U'.heap L ∧ FrameEnd U o U' L ({ frames := 0, cells := 0, slots := 0, locals := 0 } : Room).cells ({ frames := 0, cells := 0, slots := 0, locals := 0 } : Room).slots) := by
  refine MetFree.of_bodySF (plainFor_of_name pn_5) hisR ?_
  intro p e s m args below meth c s₁ Bd hml0 hP hK
  obtain ⟨rfl, hZ, hh⟩ := hP
  have hx := Bd.exec
  have hby := Bd.bytes
  have hml : c.maxLocals = 7 := hml0
  have hown : s.vm.findClass "java/util/DualPivotQuicksort" = some m.cls := findClass_of_methodNamed Bd.named
  have hnm := (name_of_methodNamed Bd.named Bd.method).1
  have hlk : meth.locks = false := BodyLoose.notSynchronized Bd
  have X0 : Stand p l e ({ frames := 0, cells := 0, slots := 0, locals := 0 } : Room) s m #[(.ref a1), (.int (0 : Int32)), (.int (2 : Int32))] below meth c s₁ [] 0 0 := Stand.of_body Bd
  have e0 : s₁.heap = h0 := by rw [← hh, Bd.state]; rfl
  have N0 := Fr.nil n0
  show OEnds p.tables e below (OGoal (Qis2 Z a1 k x0 x1 h0 n0) s 0 0) (s₁.setTop (entryFrame m #[(.ref a1), (.int (0 : Int32)), (.int (2 : Int32))] 7))
  refine OEnds.st (fun t k => castTop (ef_is2 m a1) k) ?_
  generalize hG : OGoal (Qis2 Z a1 k x0 x1 h0 n0) s 0 0 = G
  have KK0 : Keep h0 h0 [a1] := Keep.refl h0 [a1]
  show OEnds p.tables e below G (s₁.setTop (mkF m 0 #[.val (.ref a1), .val (.int (0 : Int32)), .val (.int (2 : Int32)), .unset, .unset, .unset, .unset] []))
  refine OEnds.st (fun _ k => XS.iloadN X0.here hx rfl (hb hby d14_0) rfl k) ?_
  show OEnds p.tables e below G (s₁.setTop (mkF m 1 #[.val (.ref a1), .val (.int (0 : Int32)), .val (.int (2 : Int32)), .unset, .unset, .unset, .unset] [(.int (0 : Int32))]))
  refine OEnds.st (fun _ k => XS.istore X0.here hx rfl (hb hby d14_1) rfl (l' := #[.val (.ref a1), .val (.int (0 : Int32)), .val (.int (2 : Int32)), .unset, .val (.int (0 : Int32)), .unset, .unset]) rfl k) ?_
  show OEnds p.tables e below G (s₁.setTop (mkF m 3 #[.val (.ref a1), .val (.int (0 : Int32)), .val (.int (2 : Int32)), .unset, .val (.int (0 : Int32)), .unset, .unset] []))
  refine OEnds.st (fun _ k => XS.iinc X0.here hx rfl (hb hby d14_3) rfl (l' := #[.val (.ref a1), .val (.int (0 : Int32)), .val (.int (2 : Int32)), .unset, .val (.int ((0 : Int32) + (1 : Int32))), .unset, .unset]) rfl k) ?_
  show OEnds p.tables e below G (s₁.setTop (mkF m 6 #[.val (.ref a1), .val (.int (0 : Int32)), .val (.int (2 : Int32)), .unset, .val (.int ((0 : Int32) + (1 : Int32))), .unset, .unset] []))
  rw [show ((0 : Int32) + (1 : Int32)) = (1 : Int32) from by decide]
  show OEnds p.tables e below G (s₁.setTop (mkF m 6 #[.val (.ref a1), .val (.int (0 : Int32)), .val (.int (2 : Int32)), .unset, .val (.int (1 : Int32)), .unset, .unset] []))
  refine OEnds.st (fun _ k => XS.iload X0.here hx rfl (hb hby d14_6) rfl k) ?_
  show OEnds p.tables e below G (s₁.setTop (mkF m 8 #[.val (.ref a1), .val (.int (0 : Int32)), .val (.int (2 : Int32)), .unset, .val (.int (1 : Int32)), .unset, .unset] [(.int (1 : Int32))]))
  refine OEnds.st (fun _ k => XS.iloadN X0.here hx rfl (hb hby d14_8) rfl k) ?_
  show OEnds p.tables e below G (s₁.setTop (mkF m 9 #[.val (.ref a1), .val (.int (0 : Int32)), .val (.int (2 : Int32)), .unset, .val (.int (1 : Int32)), .unset, .unset] [(.int (2 : Int32)), (.int (1 : Int32))]))
  refine OEnds.st (fun _ k => XS.icmpNo X0.here hx rfl (hb hby d14_9) rfl (tlt (by decide : (1 : Int32) < (2 : Int32))).2.1 k) ?_
  show OEnds p.tables e below G (s₁.setTop (mkF m 12 #[.val (.ref a1), .val (.int (0 : Int32)), .val (.int (2 : Int32)), .unset, .val (.int (1 : Int32)), .unset, .unset] []))
  refine OEnds.st (fun _ k => XS.aloadN X0.here hx rfl (hb hby d14_12) rfl rfl k) ?_
  show OEnds p.tables e below G (s₁.setTop (mkF m 13 #[.val (.ref a1), .val (.int (0 : Int32)), .val (.int (2 : Int32)), .unset, .val (.int (1 : Int32)), .unset, .unset] [(.ref a1)]))
  refine OEnds.st (fun _ k => XS.iload X0.here hx rfl (hb hby d14_13) rfl k) ?_
  show OEnds p.tables e below G (s₁.setTop (mkF m 15 #[.val (.ref a1), .val (.int (0 : Int32)), .val (.int (2 : Int32)), .unset, .val (.int (1 : Int32)), .unset, .unset] [(.int (1 : Int32)), (.ref a1)]))
  refine OEnds.st (fun _ k => XS.dup X0.here hx rfl (hb hby d14_15) rfl rfl k) ?_
  show OEnds p.tables e below G (s₁.setTop (mkF m 16 #[.val (.ref a1), .val (.int (0 : Int32)), .val (.int (2 : Int32)), .unset, .val (.int (1 : Int32)), .unset, .unset] [(.int (1 : Int32)), (.int (1 : Int32)), (.ref a1)]))
  refine OEnds.st (fun _ k => XS.istoreN X0.here hx rfl (hb hby d14_16) rfl (l' := #[.val (.ref a1), .val (.int (0 : Int32)), .val (.int (2 : Int32)), .val (.int (1 : Int32)), .val (.int (1 : Int32)), .unset, .unset]) rfl k) ?_
  show OEnds p.tables e below G (s₁.setTop (mkF m 17 #[.val (.ref a1), .val (.int (0 : Int32)), .val (.int (2 : Int32)), .val (.int (1 : Int32)), .val (.int (1 : Int32)), .unset, .unset] [(.int (1 : Int32)), (.ref a1)]))
  obtain ⟨cl1001, Ar1001, q1001, S1001, N1001n, H1001, G1001⟩ := id V
  have hin1001 : ¬ ((1 : Int32) < 0 ∨ cl1001.slots.size ≤ ((1 : Int32)).toNatClampNeg) := inb_of S1001 ⟨by decide, by decide⟩
  have hat1001 : cl1001.slots[((1 : Int32)).toNatClampNeg]? = some (.long x1) := H1001.at hin1001 rfl
  refine OEnds.st (X0.laload hx (j := (1 : Int32)) (v := (.long x1)) (by rw [e0]; exact Ar1001.1) (State.isArrayOf_alike hZ.alike Ar1001.2.1) Ar1001.2.2 hin1001 hat1001 (g := (mkF m 17 #[.val (.ref a1), .val (.int (0 : Int32)), .val (.int (2 : Int32)), .val (.int (1 : Int32)), .val (.int (1 : Int32)), .unset, .unset] [(.int (1 : Int32)), (.ref a1)])) rfl rfl (hb hby d14_17)) ?_
  show OEnds p.tables e below G (s₁.setTop (mkF m 18 #[.val (.ref a1), .val (.int (0 : Int32)), .val (.int (2 : Int32)), .val (.int (1 : Int32)), .val (.int (1 : Int32)), .unset, .unset] [(.long x1)]))
  refine OEnds.st (fun _ k => XS.lstore X0.here hx rfl (hb hby d14_18) rfl (l' := #[.val (.ref a1), .val (.int (0 : Int32)), .val (.int (2 : Int32)), .val (.int (1 : Int32)), .val (.int (1 : Int32)), .val (.long x1), .second]) rfl k) ?_
  show OEnds p.tables e below G (s₁.setTop (mkF m 20 #[.val (.ref a1), .val (.int (0 : Int32)), .val (.int (2 : Int32)), .val (.int (1 : Int32)), .val (.int (1 : Int32)), .val (.long x1), .second] []))
  refine OEnds.st (fun _ k => XS.lload X0.here hx rfl (hb hby d14_20) rfl k) ?_
  show OEnds p.tables e below G (s₁.setTop (mkF m 22 #[.val (.ref a1), .val (.int (0 : Int32)), .val (.int (2 : Int32)), .val (.int (1 : Int32)), .val (.int (1 : Int32)), .val (.long x1), .second] [(.long x1)]))
  refine OEnds.st (fun _ k => XS.aloadN X0.here hx rfl (hb hby d14_22) rfl rfl k) ?_
  show OEnds p.tables e below G (s₁.setTop (mkF m 23 #[.val (.ref a1), .val (.int (0 : Int32)), .val (.int (2 : Int32)), .val (.int (1 : Int32)), .val (.int (1 : Int32)), .val (.long x1), .second] [(.ref a1), (.long x1)]))
  refine OEnds.st (fun _ k => XS.iloadN X0.here hx rfl (hb hby d14_23) rfl k) ?_
  show OEnds p.tables e below G (s₁.setTop (mkF m 24 #[.val (.ref a1), .val (.int (0 : Int32)), .val (.int (2 : Int32)), .val (.int (1 : Int32)), .val (.int (1 : Int32)), .val (.long x1), .second] [(.int (1 : Int32)), (.ref a1), (.long x1)]))
  refine OEnds.st (fun _ k => XS.iconst X0.here hx rfl (hb hby d14_24) k) ?_
  show OEnds p.tables e below G (s₁.setTop (mkF m 25 #[.val (.ref a1), .val (.int (0 : Int32)), .val (.int (2 : Int32)), .val (.int (1 : Int32)), .val (.int (1 : Int32)), .val (.long x1), .second] [(.int (1 : Int32)), (.int (1 : Int32)), (.ref a1), (.long x1)]))
  refine OEnds.st (fun _ k => XS.isub X0.here hx rfl (hb hby d14_25) rfl k) ?_
  show OEnds p.tables e below G (s₁.setTop (mkF m 26 #[.val (.ref a1), .val (.int (0 : Int32)), .val (.int (2 : Int32)), .val (.int (1 : Int32)), .val (.int (1 : Int32)), .val (.long x1), .second] [(.int ((1 : Int32) - (1 : Int32))), (.ref a1), (.long x1)]))
  rw [show ((1 : Int32) - (1 : Int32)) = (0 : Int32) from by decide]
  show OEnds p.tables e below G (s₁.setTop (mkF m 26 #[.val (.ref a1), .val (.int (0 : Int32)), .val (.int (2 : Int32)), .val (.int (1 : Int32)), .val (.int (1 : Int32)), .val (.long x1), .second] [(.int (0 : Int32)), (.ref a1), (.long x1)]))
  obtain ⟨cl1002, Ar1002, q1002, S1002, N1002n, H1002, G1002⟩ := id V
  have hin1002 : ¬ ((0 : Int32) < 0 ∨ cl1002.slots.size ≤ ((0 : Int32)).toNatClampNeg) := inb_of S1002 ⟨by decide, by decide⟩
  have hat1002 : cl1002.slots[((0 : Int32)).toNatClampNeg]? = some (.long x0) := H1002.at hin1002 rfl
  refine OEnds.st (X0.laload hx (j := (0 : Int32)) (v := (.long x0)) (by rw [e0]; exact Ar1002.1) (State.isArrayOf_alike hZ.alike Ar1002.2.1) Ar1002.2.2 hin1002 hat1002 (g := (mkF m 26 #[.val (.ref a1), .val (.int (0 : Int32)), .val (.int (2 : Int32)), .val (.int (1 : Int32)), .val (.int (1 : Int32)), .val (.long x1), .second] [(.int (0 : Int32)), (.ref a1), (.long x1)])) rfl rfl (hb hby d14_26)) ?_
  show OEnds p.tables e below G (s₁.setTop (mkF m 27 #[.val (.ref a1), .val (.int (0 : Int32)), .val (.int (2 : Int32)), .val (.int (1 : Int32)), .val (.int (1 : Int32)), .val (.long x1), .second] [(.long x0), (.long x1)]))
  refine OEnds.st (fun _ k => XS.lcmp X0.here hx rfl (hb hby d14_27) rfl k) ?_
  show OEnds p.tables e below G (s₁.setTop (mkF m 28 #[.val (.ref a1), .val (.int (0 : Int32)), .val (.int (2 : Int32)), .val (.int (1 : Int32)), .val (.int (1 : Int32)), .val (.long x1), .second] [(.int (lcmpW x1 x0))]))
  by_cases hc28_1003 : x1 < x0
  · -- pc 28: yes
    refine OEnds.st (fun _ k => XS.ifNo X0.here hx rfl (hb hby d14_28) rfl ((if0 _ _).trans (tlt ((lw_lt x1 x0).mpr hc28_1003)).2.1) k) ?_
    show OEnds p.tables e below G (s₁.setTop (mkF m 31 #[.val (.ref a1), .val (.int (0 : Int32)), .val (.int (2 : Int32)), .val (.int (1 : Int32)), .val (.int (1 : Int32)), .val (.long x1), .second] []))
    refine OEnds.st (fun _ k => XS.iinc X0.here hx rfl (hb hby d14_31) rfl (l' := #[.val (.ref a1), .val (.int (0 : Int32)), .val (.int (2 : Int32)), .val (.int ((1 : Int32) + (-1 : Int32))), .val (.int (1 : Int32)), .val (.long x1), .second]) rfl k) ?_
    show OEnds p.tables e below G (s₁.setTop (mkF m 34 #[.val (.ref a1), .val (.int (0 : Int32)), .val (.int (2 : Int32)), .val (.int ((1 : Int32) + (-1 : Int32))), .val (.int (1 : Int32)), .val (.long x1), .second] []))
    rw [show ((1 : Int32) + (-1 : Int32)) = (0 : Int32) from by decide]
    show OEnds p.tables e below G (s₁.setTop (mkF m 34 #[.val (.ref a1), .val (.int (0 : Int32)), .val (.int (2 : Int32)), .val (.int (0 : Int32)), .val (.int (1 : Int32)), .val (.long x1), .second] []))
    refine OEnds.st (fun _ k => XS.iloadN X0.here hx rfl (hb hby d14_34) rfl k) ?_
    show OEnds p.tables e below G (s₁.setTop (mkF m 35 #[.val (.ref a1), .val (.int (0 : Int32)), .val (.int (2 : Int32)), .val (.int (0 : Int32)), .val (.int (1 : Int32)), .val (.long x1), .second] [(.int (0 : Int32))]))
    refine OEnds.st (fun _ k => XS.iloadN X0.here hx rfl (hb hby d14_35) rfl k) ?_
    show OEnds p.tables e below G (s₁.setTop (mkF m 36 #[.val (.ref a1), .val (.int (0 : Int32)), .val (.int (2 : Int32)), .val (.int (0 : Int32)), .val (.int (1 : Int32)), .val (.long x1), .second] [(.int (0 : Int32)), (.int (0 : Int32))]))
    refine OEnds.st (fun _ k => XS.icmpNo X0.here hx rfl (hb hby d14_36) rfl (flt (by decide : ¬ ((0 : Int32) < (0 : Int32)))).1 k) ?_
    show OEnds p.tables e below G (s₁.setTop (mkF m 39 #[.val (.ref a1), .val (.int (0 : Int32)), .val (.int (2 : Int32)), .val (.int (0 : Int32)), .val (.int (1 : Int32)), .val (.long x1), .second] []))
    refine OEnds.st (fun _ k => XS.lload X0.here hx rfl (hb hby d14_39) rfl k) ?_
    show OEnds p.tables e below G (s₁.setTop (mkF m 41 #[.val (.ref a1), .val (.int (0 : Int32)), .val (.int (2 : Int32)), .val (.int (0 : Int32)), .val (.int (1 : Int32)), .val (.long x1), .second] [(.long x1)]))
    refine OEnds.st (fun _ k => XS.aloadN X0.here hx rfl (hb hby d14_41) rfl rfl k) ?_
    show OEnds p.tables e below G (s₁.setTop (mkF m 42 #[.val (.ref a1), .val (.int (0 : Int32)), .val (.int (2 : Int32)), .val (.int (0 : Int32)), .val (.int (1 : Int32)), .val (.long x1), .second] [(.ref a1), (.long x1)]))
    refine OEnds.st (fun _ k => XS.iloadN X0.here hx rfl (hb hby d14_42) rfl k) ?_
    show OEnds p.tables e below G (s₁.setTop (mkF m 43 #[.val (.ref a1), .val (.int (0 : Int32)), .val (.int (2 : Int32)), .val (.int (0 : Int32)), .val (.int (1 : Int32)), .val (.long x1), .second] [(.int (0 : Int32)), (.ref a1), (.long x1)]))
    obtain ⟨cl1004, Ar1004, q1004, S1004, N1004n, H1004, G1004⟩ := id V
    have hin1004 : ¬ ((0 : Int32) < 0 ∨ cl1004.slots.size ≤ ((0 : Int32)).toNatClampNeg) := inb_of S1004 ⟨by decide, by decide⟩
    have hat1004 : cl1004.slots[((0 : Int32)).toNatClampNeg]? = some (.long x0) := H1004.at hin1004 rfl
    refine OEnds.st (X0.laload hx (j := (0 : Int32)) (v := (.long x0)) (by rw [e0]; exact Ar1004.1) (State.isArrayOf_alike hZ.alike Ar1004.2.1) Ar1004.2.2 hin1004 hat1004 (g := (mkF m 43 #[.val (.ref a1), .val (.int (0 : Int32)), .val (.int (2 : Int32)), .val (.int (0 : Int32)), .val (.int (1 : Int32)), .val (.long x1), .second] [(.int (0 : Int32)), (.ref a1), (.long x1)])) rfl rfl (hb hby d14_43)) ?_
    show OEnds p.tables e below G (s₁.setTop (mkF m 44 #[.val (.ref a1), .val (.int (0 : Int32)), .val (.int (2 : Int32)), .val (.int (0 : Int32)), .val (.int (1 : Int32)), .val (.long x1), .second] [(.long x0), (.long x1)]))
    refine OEnds.st (fun _ k => XS.lcmp X0.here hx rfl (hb hby d14_44) rfl k) ?_
    show OEnds p.tables e below G (s₁.setTop (mkF m 45 #[.val (.ref a1), .val (.int (0 : Int32)), .val (.int (2 : Int32)), .val (.int (0 : Int32)), .val (.int (1 : Int32)), .val (.long x1), .second] [(.int (lcmpW x1 x0))]))
    refine OEnds.st (fun _ k => XS.ifNo X0.here hx rfl (hb hby d14_45) rfl ((if0 _ _).trans (tlt ((lw_lt x1 x0).mpr hc28_1003)).2.1) k) ?_
    show OEnds p.tables e below G (s₁.setTop (mkF m 48 #[.val (.ref a1), .val (.int (0 : Int32)), .val (.int (2 : Int32)), .val (.int (0 : Int32)), .val (.int (1 : Int32)), .val (.long x1), .second] []))
    refine OEnds.st (fun _ k => XS.aloadN X0.here hx rfl (hb hby d14_48) rfl rfl k) ?_
    show OEnds p.tables e below G (s₁.setTop (mkF m 49 #[.val (.ref a1), .val (.int (0 : Int32)), .val (.int (2 : Int32)), .val (.int (0 : Int32)), .val (.int (1 : Int32)), .val (.long x1), .second] [(.ref a1)]))
    refine OEnds.st (fun _ k => XS.iloadN X0.here hx rfl (hb hby d14_49) rfl k) ?_
    show OEnds p.tables e below G (s₁.setTop (mkF m 50 #[.val (.ref a1), .val (.int (0 : Int32)), .val (.int (2 : Int32)), .val (.int (0 : Int32)), .val (.int (1 : Int32)), .val (.long x1), .second] [(.int (0 : Int32)), (.ref a1)]))
    refine OEnds.st (fun _ k => XS.iconst X0.here hx rfl (hb hby d14_50) k) ?_
    show OEnds p.tables e below G (s₁.setTop (mkF m 51 #[.val (.ref a1), .val (.int (0 : Int32)), .val (.int (2 : Int32)), .val (.int (0 : Int32)), .val (.int (1 : Int32)), .val (.long x1), .second] [(.int (1 : Int32)), (.int (0 : Int32)), (.ref a1)]))
    refine OEnds.st (fun _ k => XS.iadd X0.here hx rfl (hb hby d14_51) rfl k) ?_
    show OEnds p.tables e below G (s₁.setTop (mkF m 52 #[.val (.ref a1), .val (.int (0 : Int32)), .val (.int (2 : Int32)), .val (.int (0 : Int32)), .val (.int (1 : Int32)), .val (.long x1), .second] [(.int ((0 : Int32) + (1 : Int32))), (.ref a1)]))
    rw [show ((0 : Int32) + (1 : Int32)) = (1 : Int32) from by decide]
    show OEnds p.tables e below G (s₁.setTop (mkF m 52 #[.val (.ref a1), .val (.int (0 : Int32)), .val (.int (2 : Int32)), .val (.int (0 : Int32)), .val (.int (1 : Int32)), .val (.long x1), .second] [(.int (1 : Int32)), (.ref a1)]))
    refine OEnds.st (fun _ k => XS.aloadN X0.here hx rfl (hb hby d14_52) rfl rfl k) ?_
    show OEnds p.tables e below G (s₁.setTop (mkF m 53 #[.val (.ref a1), .val (.int (0 : Int32)), .val (.int (2 : Int32)), .val (.int (0 : Int32)), .val (.int (1 : Int32)), .val (.long x1), .second] [(.ref a1), (.int (1 : Int32)), (.ref a1)]))
    refine OEnds.st (fun _ k => XS.iloadN X0.here hx rfl (hb hby d14_53) rfl k) ?_
    show OEnds p.tables e below G (s₁.setTop (mkF m 54 #[.val (.ref a1), .val (.int (0 : Int32)), .val (.int (2 : Int32)), .val (.int (0 : Int32)), .val (.int (1 : Int32)), .val (.long x1), .second] [(.int (0 : Int32)), (.ref a1), (.int (1 : Int32)), (.ref a1)]))
    obtain ⟨cl1005, Ar1005, q1005, S1005, N1005n, H1005, G1005⟩ := id V
    have hin1005 : ¬ ((0 : Int32) < 0 ∨ cl1005.slots.size ≤ ((0 : Int32)).toNatClampNeg) := inb_of S1005 ⟨by decide, by decide⟩
    have hat1005 : cl1005.slots[((0 : Int32)).toNatClampNeg]? = some (.long x0) := H1005.at hin1005 rfl
    refine OEnds.st (X0.laload hx (j := (0 : Int32)) (v := (.long x0)) (by rw [e0]; exact Ar1005.1) (State.isArrayOf_alike hZ.alike Ar1005.2.1) Ar1005.2.2 hin1005 hat1005 (g := (mkF m 54 #[.val (.ref a1), .val (.int (0 : Int32)), .val (.int (2 : Int32)), .val (.int (0 : Int32)), .val (.int (1 : Int32)), .val (.long x1), .second] [(.int (0 : Int32)), (.ref a1), (.int (1 : Int32)), (.ref a1)])) rfl rfl (hb hby d14_54)) ?_
    show OEnds p.tables e below G (s₁.setTop (mkF m 55 #[.val (.ref a1), .val (.int (0 : Int32)), .val (.int (2 : Int32)), .val (.int (0 : Int32)), .val (.int (1 : Int32)), .val (.long x1), .second] [(.long x0), (.int (1 : Int32)), (.ref a1)]))
    obtain ⟨cl1006, Ar1006, q1006, S1006, N1006n, H1006, G1006⟩ := id V
    have hin1006 : ¬ ((1 : Int32) < 0 ∨ cl1006.slots.size ≤ ((1 : Int32)).toNatClampNeg) := inb_of S1006 ⟨by decide, by decide⟩
    obtain ⟨T1006, h1006, X1006, e1006, W1006, st1006⟩ := stJ X0 hx hZ e0 Ar1006 (j := (1 : Int32)) hin1006 (g := (mkF m 55 #[.val (.ref a1), .val (.int (0 : Int32)), .val (.int (2 : Int32)), .val (.int (0 : Int32)), .val (.int (1 : Int32)), .val (.long x1), .second] [(.long x0), (.int (1 : Int32)), (.ref a1)])) rfl rfl (hb hby d14_55)
    refine OEnds.st st1006 ?_
    clear st1006
    have f1007 : Arv Z h1006 a1 k .long (2 : Int32) [(.long x0), (.long x0)] (.long (0 : Int64)) := Arv.set Ar1006 q1006 S1006 N1006n H1006 G1006 rfl W1006 1 rfl (Nat.le_of_ble_eq_true rfl)
    have N1006 := Fr.snoc X1006 N0 g_a1
    have KK1006 : Keep h0 h1006 [a1] := KK0.wr W1006 (Or.inl (List.mem_of_getElem? (i := 0) rfl))
    have Z1006 := Nat.le_trans Z0 (Keep.of_wr W1006).1
    show OEnds p.tables e below G (T1006.setTop (mkF m 56 #[.val (.ref a1), .val (.int (0 : Int32)), .val (.int (2 : Int32)), .val (.int (0 : Int32)), .val (.int (1 : Int32)), .val (.long x1), .second] []))
    refine OEnds.st (fun _ k => XS.goto X1006.here hx rfl (pc0 := 56) (pc' := 31) rfl (hb hby d14_56) (by decide) (by decide) k) ?_
    show OEnds p.tables e below G (T1006.setTop (mkF m 31 #[.val (.ref a1), .val (.int (0 : Int32)), .val (.int (2 : Int32)), .val (.int (0 : Int32)), .val (.int (1 : Int32)), .val (.long x1), .second] []))
    refine OEnds.st (fun _ k => XS.iinc X1006.here hx rfl (hb hby d14_31) rfl (l' := #[.val (.ref a1), .val (.int (0 : Int32)), .val (.int (2 : Int32)), .val (.int ((0 : Int32) + (-1 : Int32))), .val (.int (1 : Int32)), .val (.long x1), .second]) rfl k) ?_
    show OEnds p.tables e below G (T1006.setTop (mkF m 34 #[.val (.ref a1), .val (.int (0 : Int32)), .val (.int (2 : Int32)), .val (.int ((0 : Int32) + (-1 : Int32))), .val (.int (1 : Int32)), .val (.long x1), .second] []))
    rw [show ((0 : Int32) + (-1 : Int32)) = (-1 : Int32) from by decide]
    show OEnds p.tables e below G (T1006.setTop (mkF m 34 #[.val (.ref a1), .val (.int (0 : Int32)), .val (.int (2 : Int32)), .val (.int (-1 : Int32)), .val (.int (1 : Int32)), .val (.long x1), .second] []))
    refine OEnds.st (fun _ k => XS.iloadN X1006.here hx rfl (hb hby d14_34) rfl k) ?_
    show OEnds p.tables e below G (T1006.setTop (mkF m 35 #[.val (.ref a1), .val (.int (0 : Int32)), .val (.int (2 : Int32)), .val (.int (-1 : Int32)), .val (.int (1 : Int32)), .val (.long x1), .second] [(.int (-1 : Int32))]))
    refine OEnds.st (fun _ k => XS.iloadN X1006.here hx rfl (hb hby d14_35) rfl k) ?_
    show OEnds p.tables e below G (T1006.setTop (mkF m 36 #[.val (.ref a1), .val (.int (0 : Int32)), .val (.int (2 : Int32)), .val (.int (-1 : Int32)), .val (.int (1 : Int32)), .val (.long x1), .second] [(.int (0 : Int32)), (.int (-1 : Int32))]))
    refine OEnds.st (fun _ k => XS.icmpYes X1006.here hx rfl (pc0 := 36) (pc' := 59) rfl (hb hby d14_36) rfl (tlt (by decide : (-1 : Int32) < (0 : Int32))).1 (by decide) (by decide) k) ?_
    show OEnds p.tables e below G (T1006.setTop (mkF m 59 #[.val (.ref a1), .val (.int (0 : Int32)), .val (.int (2 : Int32)), .val (.int (-1 : Int32)), .val (.int (1 : Int32)), .val (.long x1), .second] []))
    refine OEnds.st (fun _ k => XS.aloadN X1006.here hx rfl (hb hby d14_59) rfl rfl k) ?_
    show OEnds p.tables e below G (T1006.setTop (mkF m 60 #[.val (.ref a1), .val (.int (0 : Int32)), .val (.int (2 : Int32)), .val (.int (-1 : Int32)), .val (.int (1 : Int32)), .val (.long x1), .second] [(.ref a1)]))
    refine OEnds.st (fun _ k => XS.iloadN X1006.here hx rfl (hb hby d14_60) rfl k) ?_
    show OEnds p.tables e below G (T1006.setTop (mkF m 61 #[.val (.ref a1), .val (.int (0 : Int32)), .val (.int (2 : Int32)), .val (.int (-1 : Int32)), .val (.int (1 : Int32)), .val (.long x1), .second] [(.int (-1 : Int32)), (.ref a1)]))
    refine OEnds.st (fun _ k => XS.iconst X1006.here hx rfl (hb hby d14_61) k) ?_
    show OEnds p.tables e below G (T1006.setTop (mkF m 62 #[.val (.ref a1), .val (.int (0 : Int32)), .val (.int (2 : Int32)), .val (.int (-1 : Int32)), .val (.int (1 : Int32)), .val (.long x1), .second] [(.int (1 : Int32)), (.int (-1 : Int32)), (.ref a1)]))
    refine OEnds.st (fun _ k => XS.iadd X1006.here hx rfl (hb hby d14_62) rfl k) ?_
    show OEnds p.tables e below G (T1006.setTop (mkF m 63 #[.val (.ref a1), .val (.int (0 : Int32)), .val (.int (2 : Int32)), .val (.int (-1 : Int32)), .val (.int (1 : Int32)), .val (.long x1), .second] [(.int ((-1 : Int32) + (1 : Int32))), (.ref a1)]))
    rw [show ((-1 : Int32) + (1 : Int32)) = (0 : Int32) from by decide]
    show OEnds p.tables e below G (T1006.setTop (mkF m 63 #[.val (.ref a1), .val (.int (0 : Int32)), .val (.int (2 : Int32)), .val (.int (-1 : Int32)), .val (.int (1 : Int32)), .val (.long x1), .second] [(.int (0 : Int32)), (.ref a1)]))
    refine OEnds.st (fun _ k => XS.lload X1006.here hx rfl (hb hby d14_63) rfl k) ?_
    show OEnds p.tables e below G (T1006.setTop (mkF m 65 #[.val (.ref a1), .val (.int (0 : Int32)), .val (.int (2 : Int32)), .val (.int (-1 : Int32)), .val (.int (1 : Int32)), .val (.long x1), .second] [(.long x1), (.int (0 : Int32)), (.ref a1)]))
    obtain ⟨cl1008, Ar1008, q1008, S1008, N1008n, H1008, G1008⟩ := id f1007
    have hin1008 : ¬ ((0 : Int32) < 0 ∨ cl1008.slots.size ≤ ((0 : Int32)).toNatClampNeg) := inb_of S1008 ⟨by decide, by decide⟩
    obtain ⟨T1008, h1008, X1008, e1008, W1008, st1008⟩ := stJ X1006 hx hZ e1006 Ar1008 (j := (0 : Int32)) hin1008 (g := (mkF m 65 #[.val (.ref a1), .val (.int (0 : Int32)), .val (.int (2 : Int32)), .val (.int (-1 : Int32)), .val (.int (1 : Int32)), .val (.long x1), .second] [(.long x1), (.int (0 : Int32)), (.ref a1)])) rfl rfl (hb hby d14_65)
    refine OEnds.st st1008 ?_
    clear st1008
    have f1009 : Arv Z h1008 a1 k .long (2 : Int32) [(.long x1), (.long x0)] (.long (0 : Int64)) := Arv.set Ar1008 q1008 S1008 N1008n H1008 G1008 rfl W1008 0 rfl (Nat.le_of_ble_eq_true rfl)
    have N1008 := Fr.snoc X1008 N1006 g_a1
    have KK1008 : Keep h0 h1008 [a1] := KK1006.wr W1008 (Or.inl (List.mem_of_getElem? (i := 0) rfl))
    have Z1008 := Nat.le_trans Z1006 (Keep.of_wr W1008).1
    show OEnds p.tables e below G (T1008.setTop (mkF m 66 #[.val (.ref a1), .val (.int (0 : Int32)), .val (.int (2 : Int32)), .val (.int (-1 : Int32)), .val (.int (1 : Int32)), .val (.long x1), .second] []))
    refine OEnds.st (fun _ k => XS.goto X1008.here hx rfl (pc0 := 66) (pc' := 3) rfl (hb hby d14_66) (by decide) (by decide) k) ?_
    show OEnds p.tables e below G (T1008.setTop (mkF m 3 #[.val (.ref a1), .val (.int (0 : Int32)), .val (.int (2 : Int32)), .val (.int (-1 : Int32)), .val (.int (1 : Int32)), .val (.long x1), .second] []))
    refine OEnds.st (fun _ k => XS.iinc X1008.here hx rfl (hb hby d14_3) rfl (l' := #[.val (.ref a1), .val (.int (0 : Int32)), .val (.int (2 : Int32)), .val (.int (-1 : Int32)), .val (.int ((1 : Int32) + (1 : Int32))), .val (.long x1), .second]) rfl k) ?_
    show OEnds p.tables e below G (T1008.setTop (mkF m 6 #[.val (.ref a1), .val (.int (0 : Int32)), .val (.int (2 : Int32)), .val (.int (-1 : Int32)), .val (.int ((1 : Int32) + (1 : Int32))), .val (.long x1), .second] []))
    rw [show ((1 : Int32) + (1 : Int32)) = (2 : Int32) from by decide]
    show OEnds p.tables e below G (T1008.setTop (mkF m 6 #[.val (.ref a1), .val (.int (0 : Int32)), .val (.int (2 : Int32)), .val (.int (-1 : Int32)), .val (.int (2 : Int32)), .val (.long x1), .second] []))
    refine OEnds.st (fun _ k => XS.iload X1008.here hx rfl (hb hby d14_6) rfl k) ?_
    show OEnds p.tables e below G (T1008.setTop (mkF m 8 #[.val (.ref a1), .val (.int (0 : Int32)), .val (.int (2 : Int32)), .val (.int (-1 : Int32)), .val (.int (2 : Int32)), .val (.long x1), .second] [(.int (2 : Int32))]))
    refine OEnds.st (fun _ k => XS.iloadN X1008.here hx rfl (hb hby d14_8) rfl k) ?_
    show OEnds p.tables e below G (T1008.setTop (mkF m 9 #[.val (.ref a1), .val (.int (0 : Int32)), .val (.int (2 : Int32)), .val (.int (-1 : Int32)), .val (.int (2 : Int32)), .val (.long x1), .second] [(.int (2 : Int32)), (.int (2 : Int32))]))
    refine OEnds.st (fun _ k => XS.icmpYes X1008.here hx rfl (pc0 := 9) (pc' := 69) rfl (hb hby d14_9) rfl (flt (by decide : ¬ ((2 : Int32) < (2 : Int32)))).2.1 (by decide) (by decide) k) ?_
    show OEnds p.tables e below G (T1008.setTop (mkF m 69 #[.val (.ref a1), .val (.int (0 : Int32)), .val (.int (2 : Int32)), .val (.int (-1 : Int32)), .val (.int (2 : Int32)), .val (.long x1), .second] []))
    rw [← hG]
    refine OEnds.retV X1008 hx hlk Bd.returns (hb hby d14_69) (by decide) (by decide) ?_
    rw [e1008]
    refine ⟨rfl, N1008, KK1008, ?_⟩
    rw [own_min_lt hc28_1003, own_max_ge (fun q => Int64.lt_irrefl (Int64.lt_trans q hc28_1003))]
    exact f1009
  · -- pc 28: no
    refine OEnds.st (fun _ k => XS.ifYes X0.here hx rfl (pc0 := 28) (pc' := 66) rfl (hb hby d14_28) rfl ((if0 _ _).trans (flt (fun q => hc28_1003 ((lw_lt x1 x0).mp q))).2.1) (by decide) (by decide) k) ?_
    show OEnds p.tables e below G (s₁.setTop (mkF m 66 #[.val (.ref a1), .val (.int (0 : Int32)), .val (.int (2 : Int32)), .val (.int (1 : Int32)), .val (.int (1 : Int32)), .val (.long x1), .second] []))
    refine OEnds.st (fun _ k => XS.goto X0.here hx rfl (pc0 := 66) (pc' := 3) rfl (hb hby d14_66) (by decide) (by decide) k) ?_
    show OEnds p.tables e below G (s₁.setTop (mkF m 3 #[.val (.ref a1), .val (.int (0 : Int32)), .val (.int (2 : Int32)), .val (.int (1 : Int32)), .val (.int (1 : Int32)), .val (.long x1), .second] []))
    refine OEnds.st (fun _ k => XS.iinc X0.here hx rfl (hb hby d14_3) rfl (l' := #[.val (.ref a1), .val (.int (0 : Int32)), .val (.int (2 : Int32)), .val (.int (1 : Int32)), .val (.int ((1 : Int32) + (1 : Int32))), .val (.long x1), .second]) rfl k) ?_
    show OEnds p.tables e below G (s₁.setTop (mkF m 6 #[.val (.ref a1), .val (.int (0 : Int32)), .val (.int (2 : Int32)), .val (.int (1 : Int32)), .val (.int ((1 : Int32) + (1 : Int32))), .val (.long x1), .second] []))
    rw [show ((1 : Int32) + (1 : Int32)) = (2 : Int32) from by decide]
    show OEnds p.tables e below G (s₁.setTop (mkF m 6 #[.val (.ref a1), .val (.int (0 : Int32)), .val (.int (2 : Int32)), .val (.int (1 : Int32)), .val (.int (2 : Int32)), .val (.long x1), .second] []))
    refine OEnds.st (fun _ k => XS.iload X0.here hx rfl (hb hby d14_6) rfl k) ?_
    show OEnds p.tables e below G (s₁.setTop (mkF m 8 #[.val (.ref a1), .val (.int (0 : Int32)), .val (.int (2 : Int32)), .val (.int (1 : Int32)), .val (.int (2 : Int32)), .val (.long x1), .second] [(.int (2 : Int32))]))
    refine OEnds.st (fun _ k => XS.iloadN X0.here hx rfl (hb hby d14_8) rfl k) ?_
    show OEnds p.tables e below G (s₁.setTop (mkF m 9 #[.val (.ref a1), .val (.int (0 : Int32)), .val (.int (2 : Int32)), .val (.int (1 : Int32)), .val (.int (2 : Int32)), .val (.long x1), .second] [(.int (2 : Int32)), (.int (2 : Int32))]))
    refine OEnds.st (fun _ k => XS.icmpYes X0.here hx rfl (pc0 := 9) (pc' := 69) rfl (hb hby d14_9) rfl (flt (by decide : ¬ ((2 : Int32) < (2 : Int32)))).2.1 (by decide) (by decide) k) ?_
    show OEnds p.tables e below G (s₁.setTop (mkF m 69 #[.val (.ref a1), .val (.int (0 : Int32)), .val (.int (2 : Int32)), .val (.int (1 : Int32)), .val (.int (2 : Int32)), .val (.long x1), .second] []))
    rw [← hG]
    refine OEnds.retV X0 hx hlk Bd.returns (hb hby d14_69) (by decide) (by decide) ?_
    rw [e0]
    refine ⟨rfl, N0, KK0, ?_⟩
    rw [own_min_ge hc28_1003, own_max2 hc28_1003]
    exact V
theorem ef_sq2 (m : MethodId) (a1 : Addr) : entryFrame m #[.null, (.ref a1), (.int (0 : Int32)), (.int (0 : Int32)), (.int (2 : Int32))] 25 = mkF m 0 #[.val .null, .val (.ref a1), .val (.int (0 : Int32)), .val (.int (0 : Int32)), .val (.int (2 : Int32)), .unset, .unset, .unset, .unset, .unset, .unset, .unset, .unset, .unset, .unset, .unset, .unset, .unset, .unset, .unset, .unset, .unset, .unset, .unset, .unset] [] := by first | (simp [entryFrame, mkF, argsToLocals, Value.category]; done) | rfl
def Qsq2 (Z : State) (a1 : Addr) (k : ClassId) (x0 : Int64) (x1 : Int64) (h0 : Heap) (n0 : Nat) (v : Option Value) (h : Heap) (L : List Loc) : Prop := v = none ∧ Fr n0 L ∧ Keep h0 h [a1] ∧ Arv Z h a1 k .long (2 : Int32) [(.long (own_min x0 x1)), (.long (own_max x0 x1))] (.long (0 : Int64))
set_option maxRecDepth 65536 in
set_option maxHeartbeats 40000000 in
theorem rmsq2 (l : Launch) (Z : State) (a0 : Array Value) (hw : ∀ d ∈ tables_1, d.before a0 Z = true) (ws : List Jvm.Cond) (a1 : Addr) (k : ClassId) (x0 : Int64) (x1 : Int64) (h0 : Heap) (n0 : Nat) (Z0 : n0 ≤ h0.size) (V : Arv Z h0 a1 k .long (2 : Int32) [(.long x0), (.long x1)] (.long (0 : Int64))) (g_a1 : n0 ≤ a1) :
    MetFree l (⟨"java/util/DualPivotQuicksort", "sort", "(Ljava/util/DualPivotQuicksort$Sorter;[JIII)V"⟩ : MethodName) (head1 (Jvm.Cond.code (⟨"java/util/DualPivotQuicksort", "sort", "(Ljava/util/DualPivotQuicksort$Sorter;[JIII)V"⟩ : MethodName) jdk_2529_method_13_code 25 none :: ws) ({ frames := 1, cells := 0, slots := 0, locals := 18 } : Room)) (fun a U => a = #[.null, (.ref a1), (.int (0 : Int32)), (.int (0 : Int32)), (.int (2 : Int32))] ∧ Z.Warmed39 U.vm ∧ U.heap = h0) (fun _ _ _ _ _ => True) (fun _ U o U' => ∃ v L, o = .returned v ∧ Qsq2 Z a1 k x0 x1 h0 n0 v U'.heap L ∧ FrameEnd U o U' L ({ frames := 1, cells := 0, slots := 0, locals := 18 } : Room).cells ({ frames := 1, cells := 0, slots := 0, locals := 18 } : Room).slots) := by
  refine MetFree.of_bodySF (plainFor_of_name pn_5) hisR ?_
  intro p e s m args below meth c s₁ Bd hml0 hP hK
  obtain ⟨rfl, hZ, hh⟩ := hP
  have hx := Bd.exec
  have hby := Bd.bytes
  have hml : c.maxLocals = 25 := hml0
  have hown : s.vm.findClass "java/util/DualPivotQuicksort" = some m.cls := findClass_of_methodNamed Bd.named
  have hnm := (name_of_methodNamed Bd.named Bd.method).1
  have hlk : meth.locks = false := BodyLoose.notSynchronized Bd
  have X0 : Stand p l e ({ frames := 1, cells := 0, slots := 0, locals := 18 } : Room) s m #[.null, (.ref a1), (.int (0 : Int32)), (.int (0 : Int32)), (.int (2 : Int32))] below meth c s₁ [] 0 0 := Stand.of_body Bd
  have e0 : s₁.heap = h0 := by rw [← hh, Bd.state]; rfl
  have N0 := Fr.nil n0
  show OEnds p.tables e below (OGoal (Qsq2 Z a1 k x0 x1 h0 n0) s 0 0) (s₁.setTop (entryFrame m #[.null, (.ref a1), (.int (0 : Int32)), (.int (0 : Int32)), (.int (2 : Int32))] 25))
  refine OEnds.st (fun t k => castTop (ef_sq2 m a1) k) ?_
  generalize hG : OGoal (Qsq2 Z a1 k x0 x1 h0 n0) s 0 0 = G
  have KK0 : Keep h0 h0 [a1] := Keep.refl h0 [a1]
  show OEnds p.tables e below G (s₁.setTop (mkF m 0 #[.val .null, .val (.ref a1), .val (.int (0 : Int32)), .val (.int (0 : Int32)), .val (.int (2 : Int32)), .unset, .unset, .unset, .unset, .unset, .unset, .unset, .unset, .unset, .unset, .unset, .unset, .unset, .unset, .unset, .unset, .unset, .unset, .unset, .unset] []))
  refine OEnds.st (fun _ k => XS.iload X0.here hx rfl (hb hby d13_0) rfl k) ?_
  show OEnds p.tables e below G (s₁.setTop (mkF m 2 #[.val .null, .val (.ref a1), .val (.int (0 : Int32)), .val (.int (0 : Int32)), .val (.int (2 : Int32)), .unset, .unset, .unset, .unset, .unset, .unset, .unset, .unset, .unset, .unset, .unset, .unset, .unset, .unset, .unset, .unset, .unset, .unset, .unset, .unset] [(.int (2 : Int32))]))
  refine OEnds.st (fun _ k => XS.iconst X0.here hx rfl (hb hby d13_2) k) ?_
  show OEnds p.tables e below G (s₁.setTop (mkF m 3 #[.val .null, .val (.ref a1), .val (.int (0 : Int32)), .val (.int (0 : Int32)), .val (.int (2 : Int32)), .unset, .unset, .unset, .unset, .unset, .unset, .unset, .unset, .unset, .unset, .unset, .unset, .unset, .unset, .unset, .unset, .unset, .unset, .unset, .unset] [(.int (1 : Int32)), (.int (2 : Int32))]))
  refine OEnds.st (fun _ k => XS.isub X0.here hx rfl (hb hby d13_3) rfl k) ?_
  show OEnds p.tables e below G (s₁.setTop (mkF m 4 #[.val .null, .val (.ref a1), .val (.int (0 : Int32)), .val (.int (0 : Int32)), .val (.int (2 : Int32)), .unset, .unset, .unset, .unset, .unset, .unset, .unset, .unset, .unset, .unset, .unset, .unset, .unset, .unset, .unset, .unset, .unset, .unset, .unset, .unset] [(.int ((2 : Int32) - (1 : Int32)))]))
  rw [show ((2 : Int32) - (1 : Int32)) = (1 : Int32) from by decide]
  show OEnds p.tables e below G (s₁.setTop (mkF m 4 #[.val .null, .val (.ref a1), .val (.int (0 : Int32)), .val (.int (0 : Int32)), .val (.int (2 : Int32)), .unset, .unset, .unset, .unset, .unset, .unset, .unset, .unset, .unset, .unset, .unset, .unset, .unset, .unset, .unset, .unset, .unset, .unset, .unset, .unset] [(.int (1 : Int32))]))
  refine OEnds.st (fun _ k => XS.istore X0.here hx rfl (hb hby d13_4) rfl (l' := #[.val .null, .val (.ref a1), .val (.int (0 : Int32)), .val (.int (0 : Int32)), .val (.int (2 : Int32)), .val (.int (1 : Int32)), .unset, .unset, .unset, .unset, .unset, .unset, .unset, .unset, .unset, .unset, .unset, .unset, .unset, .unset, .unset, .unset, .unset, .unset, .unset]) rfl k) ?_
  show OEnds p.tables e below G (s₁.setTop (mkF m 6 #[.val .null, .val (.ref a1), .val (.int (0 : Int32)), .val (.int (0 : Int32)), .val (.int (2 : Int32)), .val (.int (1 : Int32)), .unset, .unset, .unset, .unset, .unset, .unset, .unset, .unset, .unset, .unset, .unset, .unset, .unset, .unset, .unset, .unset, .unset, .unset, .unset] []))
  refine OEnds.st (fun _ k => XS.iload X0.here hx rfl (hb hby d13_6) rfl k) ?_
  show OEnds p.tables e below G (s₁.setTop (mkF m 8 #[.val .null, .val (.ref a1), .val (.int (0 : Int32)), .val (.int (0 : Int32)), .val (.int (2 : Int32)), .val (.int (1 : Int32)), .unset, .unset, .unset, .unset, .unset, .unset, .unset, .unset, .unset, .unset, .unset, .unset, .unset, .unset, .unset, .unset, .unset, .unset, .unset] [(.int (2 : Int32))]))
  refine OEnds.st (fun _ k => XS.iloadN X0.here hx rfl (hb hby d13_8) rfl k) ?_
  show OEnds p.tables e below G (s₁.setTop (mkF m 9 #[.val .null, .val (.ref a1), .val (.int (0 : Int32)), .val (.int (0 : Int32)), .val (.int (2 : Int32)), .val (.int (1 : Int32)), .unset, .unset, .unset, .unset, .unset, .unset, .unset, .unset, .unset, .unset, .unset, .unset, .unset, .unset, .unset, .unset, .unset, .unset, .unset] [(.int (0 : Int32)), (.int (2 : Int32))]))
  refine OEnds.st (fun _ k => XS.isub X0.here hx rfl (hb hby d13_9) rfl k) ?_
  show OEnds p.tables e below G (s₁.setTop (mkF m 10 #[.val .null, .val (.ref a1), .val (.int (0 : Int32)), .val (.int (0 : Int32)), .val (.int (2 : Int32)), .val (.int (1 : Int32)), .unset, .unset, .unset, .unset, .unset, .unset, .unset, .unset, .unset, .unset, .unset, .unset, .unset, .unset, .unset, .unset, .unset, .unset, .unset] [(.int ((2 : Int32) - (0 : Int32)))]))
  rw [show ((2 : Int32) - (0 : Int32)) = (2 : Int32) from by decide]
  show OEnds p.tables e below G (s₁.setTop (mkF m 10 #[.val .null, .val (.ref a1), .val (.int (0 : Int32)), .val (.int (0 : Int32)), .val (.int (2 : Int32)), .val (.int (1 : Int32)), .unset, .unset, .unset, .unset, .unset, .unset, .unset, .unset, .unset, .unset, .unset, .unset, .unset, .unset, .unset, .unset, .unset, .unset, .unset] [(.int (2 : Int32))]))
  refine OEnds.st (fun _ k => XS.istore X0.here hx rfl (hb hby d13_10) rfl (l' := #[.val .null, .val (.ref a1), .val (.int (0 : Int32)), .val (.int (0 : Int32)), .val (.int (2 : Int32)), .val (.int (1 : Int32)), .val (.int (2 : Int32)), .unset, .unset, .unset, .unset, .unset, .unset, .unset, .unset, .unset, .unset, .unset, .unset, .unset, .unset, .unset, .unset, .unset, .unset]) rfl k) ?_
  show OEnds p.tables e below G (s₁.setTop (mkF m 12 #[.val .null, .val (.ref a1), .val (.int (0 : Int32)), .val (.int (0 : Int32)), .val (.int (2 : Int32)), .val (.int (1 : Int32)), .val (.int (2 : Int32)), .unset, .unset, .unset, .unset, .unset, .unset, .unset, .unset, .unset, .unset, .unset, .unset, .unset, .unset, .unset, .unset, .unset, .unset] []))
  refine OEnds.st (fun _ k => XS.iload X0.here hx rfl (hb hby d13_12) rfl k) ?_
  show OEnds p.tables e below G (s₁.setTop (mkF m 14 #[.val .null, .val (.ref a1), .val (.int (0 : Int32)), .val (.int (0 : Int32)), .val (.int (2 : Int32)), .val (.int (1 : Int32)), .val (.int (2 : Int32)), .unset, .unset, .unset, .unset, .unset, .unset, .unset, .unset, .unset, .unset, .unset, .unset, .unset, .unset, .unset, .unset, .unset, .unset] [(.int (2 : Int32))]))
  refine OEnds.st (fun _ k => XS.bipush X0.here hx rfl (hb hby d13_14) k) ?_
  show OEnds p.tables e below G (s₁.setTop (mkF m 16 #[.val .null, .val (.ref a1), .val (.int (0 : Int32)), .val (.int (0 : Int32)), .val (.int (2 : Int32)), .val (.int (1 : Int32)), .val (.int (2 : Int32)), .unset, .unset, .unset, .unset, .unset, .unset, .unset, .unset, .unset, .unset, .unset, .unset, .unset, .unset, .unset, .unset, .unset, .unset] [(.int (65 : Int32)), (.int (2 : Int32))]))
  refine OEnds.st (fun _ k => XS.iloadN X0.here hx rfl (hb hby d13_16) rfl k) ?_
  show OEnds p.tables e below G (s₁.setTop (mkF m 17 #[.val .null, .val (.ref a1), .val (.int (0 : Int32)), .val (.int (0 : Int32)), .val (.int (2 : Int32)), .val (.int (1 : Int32)), .val (.int (2 : Int32)), .unset, .unset, .unset, .unset, .unset, .unset, .unset, .unset, .unset, .unset, .unset, .unset, .unset, .unset, .unset, .unset, .unset, .unset] [(.int (0 : Int32)), (.int (65 : Int32)), (.int (2 : Int32))]))
  refine OEnds.st (fun _ k => XS.iadd X0.here hx rfl (hb hby d13_17) rfl k) ?_
  show OEnds p.tables e below G (s₁.setTop (mkF m 18 #[.val .null, .val (.ref a1), .val (.int (0 : Int32)), .val (.int (0 : Int32)), .val (.int (2 : Int32)), .val (.int (1 : Int32)), .val (.int (2 : Int32)), .unset, .unset, .unset, .unset, .unset, .unset, .unset, .unset, .unset, .unset, .unset, .unset, .unset, .unset, .unset, .unset, .unset, .unset] [(.int ((65 : Int32) + (0 : Int32))), (.int (2 : Int32))]))
  rw [show ((65 : Int32) + (0 : Int32)) = (65 : Int32) from by decide]
  show OEnds p.tables e below G (s₁.setTop (mkF m 18 #[.val .null, .val (.ref a1), .val (.int (0 : Int32)), .val (.int (0 : Int32)), .val (.int (2 : Int32)), .val (.int (1 : Int32)), .val (.int (2 : Int32)), .unset, .unset, .unset, .unset, .unset, .unset, .unset, .unset, .unset, .unset, .unset, .unset, .unset, .unset, .unset, .unset, .unset, .unset] [(.int (65 : Int32)), (.int (2 : Int32))]))
  refine OEnds.st (fun _ k => XS.icmpNo X0.here hx rfl (hb hby d13_18) rfl (tlt (by decide : (2 : Int32) < (65 : Int32))).2.1 k) ?_
  show OEnds p.tables e below G (s₁.setTop (mkF m 21 #[.val .null, .val (.ref a1), .val (.int (0 : Int32)), .val (.int (0 : Int32)), .val (.int (2 : Int32)), .val (.int (1 : Int32)), .val (.int (2 : Int32)), .unset, .unset, .unset, .unset, .unset, .unset, .unset, .unset, .unset, .unset, .unset, .unset, .unset, .unset, .unset, .unset, .unset, .unset] []))
  refine OEnds.st (fun _ k => XS.iloadN X0.here hx rfl (hb hby d13_21) rfl k) ?_
  show OEnds p.tables e below G (s₁.setTop (mkF m 22 #[.val .null, .val (.ref a1), .val (.int (0 : Int32)), .val (.int (0 : Int32)), .val (.int (2 : Int32)), .val (.int (1 : Int32)), .val (.int (2 : Int32)), .unset, .unset, .unset, .unset, .unset, .unset, .unset, .unset, .unset, .unset, .unset, .unset, .unset, .unset, .unset, .unset, .unset, .unset] [(.int (0 : Int32))]))
  refine OEnds.st (fun _ k => XS.iconst X0.here hx rfl (hb hby d13_22) k) ?_
  show OEnds p.tables e below G (s₁.setTop (mkF m 23 #[.val .null, .val (.ref a1), .val (.int (0 : Int32)), .val (.int (0 : Int32)), .val (.int (2 : Int32)), .val (.int (1 : Int32)), .val (.int (2 : Int32)), .unset, .unset, .unset, .unset, .unset, .unset, .unset, .unset, .unset, .unset, .unset, .unset, .unset, .unset, .unset, .unset, .unset, .unset] [(.int (1 : Int32)), (.int (0 : Int32))]))
  refine OEnds.st (fun _ k => XS.iand X0.here hx rfl (hb hby d13_23) rfl k) ?_
  show OEnds p.tables e below G (s₁.setTop (mkF m 24 #[.val .null, .val (.ref a1), .val (.int (0 : Int32)), .val (.int (0 : Int32)), .val (.int (2 : Int32)), .val (.int (1 : Int32)), .val (.int (2 : Int32)), .unset, .unset, .unset, .unset, .unset, .unset, .unset, .unset, .unset, .unset, .unset, .unset, .unset, .unset, .unset, .unset, .unset, .unset] [(.int ((0 : Int32) &&& (1 : Int32)))]))
  rw [show ((0 : Int32) &&& (1 : Int32)) = (0 : Int32) from by decide]
  show OEnds p.tables e below G (s₁.setTop (mkF m 24 #[.val .null, .val (.ref a1), .val (.int (0 : Int32)), .val (.int (0 : Int32)), .val (.int (2 : Int32)), .val (.int (1 : Int32)), .val (.int (2 : Int32)), .unset, .unset, .unset, .unset, .unset, .unset, .unset, .unset, .unset, .unset, .unset, .unset, .unset, .unset, .unset, .unset, .unset, .unset] [(.int (0 : Int32))]))
  refine OEnds.st (fun _ k => XS.ifYes X0.here hx rfl (pc0 := 24) (pc' := 46) rfl (hb hby d13_24) rfl ((if0 _ _).trans (flt (by decide : ¬ ((0 : Int32) < (0 : Int32)))).2.2.2) (by decide) (by decide) k) ?_
  show OEnds p.tables e below G (s₁.setTop (mkF m 46 #[.val .null, .val (.ref a1), .val (.int (0 : Int32)), .val (.int (0 : Int32)), .val (.int (2 : Int32)), .val (.int (1 : Int32)), .val (.int (2 : Int32)), .unset, .unset, .unset, .unset, .unset, .unset, .unset, .unset, .unset, .unset, .unset, .unset, .unset, .unset, .unset, .unset, .unset, .unset] []))
  refine OEnds.st (fun _ k => XS.iload X0.here hx rfl (hb hby d13_46) rfl k) ?_
  show OEnds p.tables e below G (s₁.setTop (mkF m 48 #[.val .null, .val (.ref a1), .val (.int (0 : Int32)), .val (.int (0 : Int32)), .val (.int (2 : Int32)), .val (.int (1 : Int32)), .val (.int (2 : Int32)), .unset, .unset, .unset, .unset, .unset, .unset, .unset, .unset, .unset, .unset, .unset, .unset, .unset, .unset, .unset, .unset, .unset, .unset] [(.int (2 : Int32))]))
  refine OEnds.st (fun _ k => XS.bipush X0.here hx rfl (hb hby d13_48) k) ?_
  show OEnds p.tables e below G (s₁.setTop (mkF m 50 #[.val .null, .val (.ref a1), .val (.int (0 : Int32)), .val (.int (0 : Int32)), .val (.int (2 : Int32)), .val (.int (1 : Int32)), .val (.int (2 : Int32)), .unset, .unset, .unset, .unset, .unset, .unset, .unset, .unset, .unset, .unset, .unset, .unset, .unset, .unset, .unset, .unset, .unset, .unset] [(.int (44 : Int32)), (.int (2 : Int32))]))
  refine OEnds.st (fun _ k => XS.icmpNo X0.here hx rfl (hb hby d13_50) rfl (tlt (by decide : (2 : Int32) < (44 : Int32))).2.1 k) ?_
  show OEnds p.tables e below G (s₁.setTop (mkF m 53 #[.val .null, .val (.ref a1), .val (.int (0 : Int32)), .val (.int (0 : Int32)), .val (.int (2 : Int32)), .val (.int (1 : Int32)), .val (.int (2 : Int32)), .unset, .unset, .unset, .unset, .unset, .unset, .unset, .unset, .unset, .unset, .unset, .unset, .unset, .unset, .unset, .unset, .unset, .unset] []))
  refine OEnds.st (fun _ k => XS.aloadN X0.here hx rfl (hb hby d13_53) rfl rfl k) ?_
  show OEnds p.tables e below G (s₁.setTop (mkF m 54 #[.val .null, .val (.ref a1), .val (.int (0 : Int32)), .val (.int (0 : Int32)), .val (.int (2 : Int32)), .val (.int (1 : Int32)), .val (.int (2 : Int32)), .unset, .unset, .unset, .unset, .unset, .unset, .unset, .unset, .unset, .unset, .unset, .unset, .unset, .unset, .unset, .unset, .unset, .unset] [(.ref a1)]))
  refine OEnds.st (fun _ k => XS.iloadN X0.here hx rfl (hb hby d13_54) rfl k) ?_
  show OEnds p.tables e below G (s₁.setTop (mkF m 55 #[.val .null, .val (.ref a1), .val (.int (0 : Int32)), .val (.int (0 : Int32)), .val (.int (2 : Int32)), .val (.int (1 : Int32)), .val (.int (2 : Int32)), .unset, .unset, .unset, .unset, .unset, .unset, .unset, .unset, .unset, .unset, .unset, .unset, .unset, .unset, .unset, .unset, .unset, .unset] [(.int (0 : Int32)), (.ref a1)]))
  refine OEnds.st (fun _ k => XS.iload X0.here hx rfl (hb hby d13_55) rfl k) ?_
  show OEnds p.tables e below G (s₁.setTop (mkF m 57 #[.val .null, .val (.ref a1), .val (.int (0 : Int32)), .val (.int (0 : Int32)), .val (.int (2 : Int32)), .val (.int (1 : Int32)), .val (.int (2 : Int32)), .unset, .unset, .unset, .unset, .unset, .unset, .unset, .unset, .unset, .unset, .unset, .unset, .unset, .unset, .unset, .unset, .unset, .unset] [(.int (2 : Int32)), (.int (0 : Int32)), (.ref a1)]))
  obtain ⟨_, _, ⟨T1001, L1001, k1001c, n1001c⟩, -, X1001, ⟨Lc1001, hQ1001, l1001, y1001, z1001⟩, st1001⟩ := Jvm.LawKit.callS X0 hx (y := (⟨"java/util/DualPivotQuicksort", "insertionSort", "([JII)V"⟩ : MethodName)) hown (mvT hZ (hw _ (List.mem_of_getElem? (i := 69) rfl))) (mvT hZ (hw _ (List.mem_of_getElem? (i := 70) rfl))) (mvT hZ (hw _ (List.mem_of_getElem? (i := 64) rfl))) (mvT hZ (hw _ (List.mem_of_getElem? (i := 71) rfl))) (by decide) (backOf (W := 0) (rmis2 l Z a0 hw [] a1 k x0 x1 h0 n0 Z0 V g_a1) hZ (hw _ (List.mem_of_getElem? (i := 71) rfl)) (hw _ (List.mem_of_getElem? (i := 64) rfl)) (by decide) (by decide)) (g := (mkF m 57 #[.val .null, .val (.ref a1), .val (.int (0 : Int32)), .val (.int (0 : Int32)), .val (.int (2 : Int32)), .val (.int (1 : Int32)), .val (.int (2 : Int32)), .unset, .unset, .unset, .unset, .unset, .unset, .unset, .unset, .unset, .unset, .unset, .unset, .unset, .unset, .unset, .unset, .unset, .unset] [(.int (2 : Int32)), (.int (0 : Int32)), (.ref a1)])) rfl (by rw [hml]; rfl) (argsL := [(.ref a1), (.int (0 : Int32)), (.int (2 : Int32))]) (rest := []) (lenOf pd_4 rfl) rfl (by show 2 * 0 + _ ≤ _; exact Nat.le_of_eq rfl) (hb hby d13_57) (fun _ _ => ⟨rfl, e0, (by decide : 0 + 0 ≤ _), (by decide : 0 + 0 ≤ _)⟩)
  dsimp only [Pt.U, Pt.locs, Pt.cells, Pt.slots] at X1001 l1001 y1001 z1001 st1001 hQ1001
  subst l1001 y1001 z1001
  obtain ⟨rfl, N1001q, p1002, p1003⟩ := hQ1001
  have N1001 := Fr.app N0 N1001q
  refine OEnds.st st1001 ?_
  clear st1001
  have KK1001 : Keep h0 T1001.heap [a1] := KK0.trans p1002 (fun x hx => by cases List.mem_singleton.mp hx; exact Or.inl (List.mem_of_getElem? (i := 0) rfl))
  have Z1001 := Nat.le_trans Z0 p1002.1
  show OEnds p.tables e below G (T1001.setTop (mkF m 60 #[.val .null, .val (.ref a1), .val (.int (0 : Int32)), .val (.int (0 : Int32)), .val (.int (2 : Int32)), .val (.int (1 : Int32)), .val (.int (2 : Int32)), .unset, .unset, .unset, .unset, .unset, .unset, .unset, .unset, .unset, .unset, .unset, .unset, .unset, .unset, .unset, .unset, .unset, .unset] []))
  rw [← hG]
  refine OEnds.retV X1001 hx hlk Bd.returns (hb hby d13_60) (by decide) (by decide) ?_
  show _
  exact ⟨rfl, N1001, KK1001, p1003⟩
theorem ef_sp2 (m : MethodId) (a1 : Addr) : entryFrame m #[(.ref a1), (.int (0 : Int32)), (.int (0 : Int32)), (.int (2 : Int32))] 7 = mkF m 0 #[.val (.ref a1), .val (.int (0 : Int32)), .val (.int (0 : Int32)), .val (.int (2 : Int32)), .unset, .unset, .unset] [] := by first | (simp [entryFrame, mkF, argsToLocals, Value.category]; done) | rfl
def Qsp2 (Z : State) (a1 : Addr) (k : ClassId) (x0 : Int64) (x1 : Int64) (h0 : Heap) (n0 : Nat) (v : Option Value) (h : Heap) (L : List Loc) : Prop := v = none ∧ Fr n0 L ∧ Keep h0 h [a1] ∧ Arv Z h a1 k .long (2 : Int32) [(.long (own_min x0 x1)), (.long (own_max x0 x1))] (.long (0 : Int64))
set_option maxRecDepth 65536 in
set_option maxHeartbeats 40000000 in
theorem rmsp2 (l : Launch) (Z : State) (a0 : Array Value) (hw : ∀ d ∈ tables_1, d.before a0 Z = true) (ws : List Jvm.Cond) (a1 : Addr) (k : ClassId) (x0 : Int64) (x1 : Int64) (h0 : Heap) (n0 : Nat) (Z0 : n0 ≤ h0.size) (V : Arv Z h0 a1 k .long (2 : Int32) [(.long x0), (.long x1)] (.long (0 : Int64))) (g_a1 : n0 ≤ a1) :
    MetFree l (⟨"java/util/DualPivotQuicksort", "sort", "([JIII)V"⟩ : MethodName) (head1 (Jvm.Cond.code (⟨"java/util/DualPivotQuicksort", "sort", "([JIII)V"⟩ : MethodName) jdk_2529_method_12_code 7 none :: ws) ({ frames := 2, cells := 0, slots := 0, locals := 54 } : Room)) (fun a U => a = #[(.ref a1), (.int (0 : Int32)), (.int (0 : Int32)), (.int (2 : Int32))] ∧ Z.Warmed39 U.vm ∧ U.heap = h0) (fun _ _ _ _ _ => True) (fun _ U o U' => ∃ v L, o = .returned v ∧ Qsp2 Z a1 k x0 x1 h0 n0 v U'.heap L ∧ FrameEnd U o U' L ({ frames := 2, cells := 0, slots := 0, locals := 54 } : Room).cells ({ frames := 2, cells := 0, slots := 0, locals := 54 } : Room).slots) := by
  refine MetFree.of_bodySF (plainFor_of_name pn_5) hisR ?_
  intro p e s m args below meth c s₁ Bd hml0 hP hK
  obtain ⟨rfl, hZ, hh⟩ := hP
  have hx := Bd.exec
  have hby := Bd.bytes
  have hml : c.maxLocals = 7 := hml0
  have hown : s.vm.findClass "java/util/DualPivotQuicksort" = some m.cls := findClass_of_methodNamed Bd.named
  have hnm := (name_of_methodNamed Bd.named Bd.method).1
  have hlk : meth.locks = false := BodyLoose.notSynchronized Bd
  have X0 : Stand p l e ({ frames := 2, cells := 0, slots := 0, locals := 54 } : Room) s m #[(.ref a1), (.int (0 : Int32)), (.int (0 : Int32)), (.int (2 : Int32))] below meth c s₁ [] 0 0 := Stand.of_body Bd
  have e0 : s₁.heap = h0 := by rw [← hh, Bd.state]; rfl
  have N0 := Fr.nil n0
  show OEnds p.tables e below (OGoal (Qsp2 Z a1 k x0 x1 h0 n0) s 0 0) (s₁.setTop (entryFrame m #[(.ref a1), (.int (0 : Int32)), (.int (0 : Int32)), (.int (2 : Int32))] 7))
  refine OEnds.st (fun t k => castTop (ef_sp2 m a1) k) ?_
  generalize hG : OGoal (Qsp2 Z a1 k x0 x1 h0 n0) s 0 0 = G
  have KK0 : Keep h0 h0 [a1] := Keep.refl h0 [a1]
  show OEnds p.tables e below G (s₁.setTop (mkF m 0 #[.val (.ref a1), .val (.int (0 : Int32)), .val (.int (0 : Int32)), .val (.int (2 : Int32)), .unset, .unset, .unset] []))
  refine OEnds.st (fun _ k => XS.iloadN X0.here hx rfl (hb hby d12_0) rfl k) ?_
  show OEnds p.tables e below G (s₁.setTop (mkF m 1 #[.val (.ref a1), .val (.int (0 : Int32)), .val (.int (0 : Int32)), .val (.int (2 : Int32)), .unset, .unset, .unset] [(.int (2 : Int32))]))
  refine OEnds.st (fun _ k => XS.iloadN X0.here hx rfl (hb hby d12_1) rfl k) ?_
  show OEnds p.tables e below G (s₁.setTop (mkF m 2 #[.val (.ref a1), .val (.int (0 : Int32)), .val (.int (0 : Int32)), .val (.int (2 : Int32)), .unset, .unset, .unset] [(.int (0 : Int32)), (.int (2 : Int32))]))
  refine OEnds.st (fun _ k => XS.isub X0.here hx rfl (hb hby d12_2) rfl k) ?_
  show OEnds p.tables e below G (s₁.setTop (mkF m 3 #[.val (.ref a1), .val (.int (0 : Int32)), .val (.int (0 : Int32)), .val (.int (2 : Int32)), .unset, .unset, .unset] [(.int ((2 : Int32) - (0 : Int32)))]))
  rw [show ((2 : Int32) - (0 : Int32)) = (2 : Int32) from by decide]
  show OEnds p.tables e below G (s₁.setTop (mkF m 3 #[.val (.ref a1), .val (.int (0 : Int32)), .val (.int (0 : Int32)), .val (.int (2 : Int32)), .unset, .unset, .unset] [(.int (2 : Int32))]))
  refine OEnds.st (fun _ k => XS.istore X0.here hx rfl (hb hby d12_3) rfl (l' := #[.val (.ref a1), .val (.int (0 : Int32)), .val (.int (0 : Int32)), .val (.int (2 : Int32)), .val (.int (2 : Int32)), .unset, .unset]) rfl k) ?_
  show OEnds p.tables e below G (s₁.setTop (mkF m 5 #[.val (.ref a1), .val (.int (0 : Int32)), .val (.int (0 : Int32)), .val (.int (2 : Int32)), .val (.int (2 : Int32)), .unset, .unset] []))
  refine OEnds.st (fun _ k => XS.iloadN X0.here hx rfl (hb hby d12_5) rfl k) ?_
  show OEnds p.tables e below G (s₁.setTop (mkF m 6 #[.val (.ref a1), .val (.int (0 : Int32)), .val (.int (0 : Int32)), .val (.int (2 : Int32)), .val (.int (2 : Int32)), .unset, .unset] [(.int (0 : Int32))]))
  refine OEnds.st (fun _ k => XS.iconst X0.here hx rfl (hb hby d12_6) k) ?_
  show OEnds p.tables e below G (s₁.setTop (mkF m 7 #[.val (.ref a1), .val (.int (0 : Int32)), .val (.int (0 : Int32)), .val (.int (2 : Int32)), .val (.int (2 : Int32)), .unset, .unset] [(.int (1 : Int32)), (.int (0 : Int32))]))
  refine OEnds.st (fun _ k => XS.icmpYes X0.here hx rfl (pc0 := 7) (pc' := 68) rfl (hb hby d12_7) rfl (flt (by decide : ¬ ((1 : Int32) < (0 : Int32)))).2.2.2 (by decide) (by decide) k) ?_
  show OEnds p.tables e below G (s₁.setTop (mkF m 68 #[.val (.ref a1), .val (.int (0 : Int32)), .val (.int (0 : Int32)), .val (.int (2 : Int32)), .val (.int (2 : Int32)), .unset, .unset] []))
  refine OEnds.st (fun _ k => XS.aconstNull X0.here hx rfl (hb hby d12_68) k) ?_
  show OEnds p.tables e below G (s₁.setTop (mkF m 69 #[.val (.ref a1), .val (.int (0 : Int32)), .val (.int (0 : Int32)), .val (.int (2 : Int32)), .val (.int (2 : Int32)), .unset, .unset] [.null]))
  refine OEnds.st (fun _ k => XS.aloadN X0.here hx rfl (hb hby d12_69) rfl rfl k) ?_
  show OEnds p.tables e below G (s₁.setTop (mkF m 70 #[.val (.ref a1), .val (.int (0 : Int32)), .val (.int (0 : Int32)), .val (.int (2 : Int32)), .val (.int (2 : Int32)), .unset, .unset] [(.ref a1), .null]))
  refine OEnds.st (fun _ k => XS.iconst X0.here hx rfl (hb hby d12_70) k) ?_
  show OEnds p.tables e below G (s₁.setTop (mkF m 71 #[.val (.ref a1), .val (.int (0 : Int32)), .val (.int (0 : Int32)), .val (.int (2 : Int32)), .val (.int (2 : Int32)), .unset, .unset] [(.int (0 : Int32)), (.ref a1), .null]))
  refine OEnds.st (fun _ k => XS.iloadN X0.here hx rfl (hb hby d12_71) rfl k) ?_
  show OEnds p.tables e below G (s₁.setTop (mkF m 72 #[.val (.ref a1), .val (.int (0 : Int32)), .val (.int (0 : Int32)), .val (.int (2 : Int32)), .val (.int (2 : Int32)), .unset, .unset] [(.int (0 : Int32)), (.int (0 : Int32)), (.ref a1), .null]))
  refine OEnds.st (fun _ k => XS.iloadN X0.here hx rfl (hb hby d12_72) rfl k) ?_
  show OEnds p.tables e below G (s₁.setTop (mkF m 73 #[.val (.ref a1), .val (.int (0 : Int32)), .val (.int (0 : Int32)), .val (.int (2 : Int32)), .val (.int (2 : Int32)), .unset, .unset] [(.int (2 : Int32)), (.int (0 : Int32)), (.int (0 : Int32)), (.ref a1), .null]))
  obtain ⟨_, _, ⟨T1001, L1001, k1001c, n1001c⟩, -, X1001, ⟨Lc1001, hQ1001, l1001, y1001, z1001⟩, st1001⟩ := Jvm.LawKit.callS X0 hx (y := (⟨"java/util/DualPivotQuicksort", "sort", "(Ljava/util/DualPivotQuicksort$Sorter;[JIII)V"⟩ : MethodName)) hown (mvT hZ (hw _ (List.mem_of_getElem? (i := 66) rfl))) (mvT hZ (hw _ (List.mem_of_getElem? (i := 67) rfl))) (mvT hZ (hw _ (List.mem_of_getElem? (i := 64) rfl))) (mvT hZ (hw _ (List.mem_of_getElem? (i := 68) rfl))) (by decide) (backOf (W := 0) (rmsq2 l Z a0 hw [] a1 k x0 x1 h0 n0 Z0 V g_a1) hZ (hw _ (List.mem_of_getElem? (i := 68) rfl)) (hw _ (List.mem_of_getElem? (i := 64) rfl)) (by decide) (by decide)) (g := (mkF m 73 #[.val (.ref a1), .val (.int (0 : Int32)), .val (.int (0 : Int32)), .val (.int (2 : Int32)), .val (.int (2 : Int32)), .unset, .unset] [(.int (2 : Int32)), (.int (0 : Int32)), (.int (0 : Int32)), (.ref a1), .null])) rfl (by rw [hml]; rfl) (argsL := [.null, (.ref a1), (.int (0 : Int32)), (.int (0 : Int32)), (.int (2 : Int32))]) (rest := []) (lenOf pd_5 rfl) rfl (by show 2 * 0 + _ ≤ _; exact Nat.le_of_eq rfl) (hb hby d12_73) (fun _ _ => ⟨rfl, e0, (by decide : 0 + 0 ≤ _), (by decide : 0 + 0 ≤ _)⟩)
  dsimp only [Pt.U, Pt.locs, Pt.cells, Pt.slots] at X1001 l1001 y1001 z1001 st1001 hQ1001
  subst l1001 y1001 z1001
  obtain ⟨rfl, N1001q, p1002, p1003⟩ := hQ1001
  have N1001 := Fr.app N0 N1001q
  refine OEnds.st st1001 ?_
  clear st1001
  have KK1001 : Keep h0 T1001.heap [a1] := KK0.trans p1002 (fun x hx => by cases List.mem_singleton.mp hx; exact Or.inl (List.mem_of_getElem? (i := 0) rfl))
  have Z1001 := Nat.le_trans Z0 p1002.1
  show OEnds p.tables e below G (T1001.setTop (mkF m 76 #[.val (.ref a1), .val (.int (0 : Int32)), .val (.int (0 : Int32)), .val (.int (2 : Int32)), .val (.int (2 : Int32)), .unset, .unset] []))
  rw [← hG]
  refine OEnds.retV X1001 hx hlk Bd.returns (hb hby d12_76) (by decide) (by decide) ?_
  show _
  exact ⟨rfl, N1001, KK1001, p1003⟩
theorem ef_so2 (m : MethodId) (a1 : Addr) : entryFrame m #[(.ref a1)] 1 = mkF m 0 #[.val (.ref a1)] [] := by first | (simp [entryFrame, mkF, argsToLocals, Value.category]; done) | rfl
def Qso2 (Z : State) (a1 : Addr) (k : ClassId) (x0 : Int64) (x1 : Int64) (h0 : Heap) (n0 : Nat) (v : Option Value) (h : Heap) (L : List Loc) : Prop := v = none ∧ Fr n0 L ∧ Keep h0 h [a1] ∧ Arv Z h a1 k .long (2 : Int32) [(.long (own_min x0 x1)), (.long (own_max x0 x1))] (.long (0 : Int64))
set_option maxRecDepth 65536 in
set_option maxHeartbeats 40000000 in
theorem rmso2 (l : Launch) (Z : State) (a0 : Array Value) (hw : ∀ d ∈ tables_1, d.before a0 Z = true) (ws : List Jvm.Cond) (a1 : Addr) (k : ClassId) (x0 : Int64) (x1 : Int64) (h0 : Heap) (n0 : Nat) (Z0 : n0 ≤ h0.size) (V : Arv Z h0 a1 k .long (2 : Int32) [(.long x0), (.long x1)] (.long (0 : Int64))) (g_a1 : n0 ≤ a1) :
    MetFree l (⟨"java/util/Arrays", "sort", "([J)V"⟩ : MethodName) (head1 (Jvm.Cond.code (⟨"java/util/Arrays", "sort", "([J)V"⟩ : MethodName) jdk_65_method_4_code 1 none :: ws) ({ frames := 3, cells := 0, slots := 0, locals := 72 } : Room)) (fun a U => a = #[(.ref a1)] ∧ Z.Warmed39 U.vm ∧ U.heap = h0) (fun _ _ _ _ _ => True) (fun _ U o U' => ∃ v L, o = .returned v ∧ Qso2 Z a1 k x0 x1 h0 n0 v U'.heap L ∧ FrameEnd U o U' L ({ frames := 3, cells := 0, slots := 0, locals := 72 } : Room).cells ({ frames := 3, cells := 0, slots := 0, locals := 72 } : Room).slots) := by
  refine MetFree.of_bodySF (plainFor_of_name pn_3) hisR ?_
  intro p e s m args below meth c s₁ Bd hml0 hP hK
  obtain ⟨rfl, hZ, hh⟩ := hP
  have hx := Bd.exec
  have hby := Bd.bytes
  have hml : c.maxLocals = 1 := hml0
  have hown : s.vm.findClass "java/util/Arrays" = some m.cls := findClass_of_methodNamed Bd.named
  have hnm := (name_of_methodNamed Bd.named Bd.method).1
  have hlk : meth.locks = false := BodyLoose.notSynchronized Bd
  have X0 : Stand p l e ({ frames := 3, cells := 0, slots := 0, locals := 72 } : Room) s m #[(.ref a1)] below meth c s₁ [] 0 0 := Stand.of_body Bd
  have e0 : s₁.heap = h0 := by rw [← hh, Bd.state]; rfl
  have N0 := Fr.nil n0
  show OEnds p.tables e below (OGoal (Qso2 Z a1 k x0 x1 h0 n0) s 0 0) (s₁.setTop (entryFrame m #[(.ref a1)] 1))
  refine OEnds.st (fun t k => castTop (ef_so2 m a1) k) ?_
  generalize hG : OGoal (Qso2 Z a1 k x0 x1 h0 n0) s 0 0 = G
  have KK0 : Keep h0 h0 [a1] := Keep.refl h0 [a1]
  show OEnds p.tables e below G (s₁.setTop (mkF m 0 #[.val (.ref a1)] []))
  refine OEnds.st (fun _ k => XS.aloadN X0.here hx rfl (hb hby d11_0) rfl rfl k) ?_
  show OEnds p.tables e below G (s₁.setTop (mkF m 1 #[.val (.ref a1)] [(.ref a1)]))
  refine OEnds.st (fun _ k => XS.iconst X0.here hx rfl (hb hby d11_1) k) ?_
  show OEnds p.tables e below G (s₁.setTop (mkF m 2 #[.val (.ref a1)] [(.int (0 : Int32)), (.ref a1)]))
  refine OEnds.st (fun _ k => XS.iconst X0.here hx rfl (hb hby d11_2) k) ?_
  show OEnds p.tables e below G (s₁.setTop (mkF m 3 #[.val (.ref a1)] [(.int (0 : Int32)), (.int (0 : Int32)), (.ref a1)]))
  refine OEnds.st (fun _ k => XS.aloadN X0.here hx rfl (hb hby d11_3) rfl rfl k) ?_
  show OEnds p.tables e below G (s₁.setTop (mkF m 4 #[.val (.ref a1)] [(.ref a1), (.int (0 : Int32)), (.int (0 : Int32)), (.ref a1)]))
  obtain ⟨cl1001, Ar1001, -, S1001, N1001n, -, -⟩ := id V
  refine OEnds.st (X0.arraylength hx (by rw [e0]; exact Ar1001.1) (State.isArrayOf_alike hZ.alike Ar1001.2.1) (g := (mkF m 4 #[.val (.ref a1)] [(.ref a1), (.int (0 : Int32)), (.int (0 : Int32)), (.ref a1)])) rfl rfl (hb hby d11_4)) ?_
  rw [len_of S1001 N1001n]
  show OEnds p.tables e below G (s₁.setTop (mkF m 5 #[.val (.ref a1)] [(.int (2 : Int32)), (.int (0 : Int32)), (.int (0 : Int32)), (.ref a1)]))
  obtain ⟨_, _, ⟨T1002, L1002, k1002c, n1002c⟩, -, X1002, ⟨Lc1002, hQ1002, l1002, y1002, z1002⟩, st1002⟩ := Jvm.LawKit.callS X0 hx (y := (⟨"java/util/DualPivotQuicksort", "sort", "([JIII)V"⟩ : MethodName)) hown (mvT hZ (hw _ (List.mem_of_getElem? (i := 62) rfl))) (mvT hZ (hw _ (List.mem_of_getElem? (i := 63) rfl))) (mvT hZ (hw _ (List.mem_of_getElem? (i := 64) rfl))) (mvT hZ (hw _ (List.mem_of_getElem? (i := 65) rfl))) (by decide) (backOf (W := 0) (rmsp2 l Z a0 hw [] a1 k x0 x1 h0 n0 Z0 V g_a1) hZ (hw _ (List.mem_of_getElem? (i := 65) rfl)) (hw _ (List.mem_of_getElem? (i := 64) rfl)) (by decide) (by decide)) (g := (mkF m 5 #[.val (.ref a1)] [(.int (2 : Int32)), (.int (0 : Int32)), (.int (0 : Int32)), (.ref a1)])) rfl (by rw [hml]; rfl) (argsL := [(.ref a1), (.int (0 : Int32)), (.int (0 : Int32)), (.int (2 : Int32))]) (rest := []) (lenOf pd_6 rfl) rfl (by show 2 * 0 + _ ≤ _; exact Nat.le_of_eq rfl) (hb hby d11_5) (fun _ _ => ⟨rfl, e0, (by decide : 0 + 0 ≤ _), (by decide : 0 + 0 ≤ _)⟩)
  dsimp only [Pt.U, Pt.locs, Pt.cells, Pt.slots] at X1002 l1002 y1002 z1002 st1002 hQ1002
  subst l1002 y1002 z1002
  obtain ⟨rfl, N1002q, p1003, p1004⟩ := hQ1002
  have N1002 := Fr.app N0 N1002q
  refine OEnds.st st1002 ?_
  clear st1002
  have KK1002 : Keep h0 T1002.heap [a1] := KK0.trans p1003 (fun x hx => by cases List.mem_singleton.mp hx; exact Or.inl (List.mem_of_getElem? (i := 0) rfl))
  have Z1002 := Nat.le_trans Z0 p1003.1
  show OEnds p.tables e below G (T1002.setTop (mkF m 8 #[.val (.ref a1)] []))
  rw [← hG]
  refine OEnds.retV X1002 hx hlk Bd.returns (hb hby d11_8) (by decide) (by decide) ?_
  show _
  exact ⟨rfl, N1002, KK1002, p1004⟩
theorem ef_sb0 (m : MethodId) (ps : Addr) : entryFrame m #[(.ref ps), (.long (9223372036854775807 : Int64))] 8 = mkF m 0 #[.val (.ref ps), .val (.long (9223372036854775807 : Int64)), .second, .unset, .unset, .unset, .unset, .unset] [] := by first | (simp [entryFrame, mkF, argsToLocals, Value.category]; done) | rfl
def Qsb0 (Z : State) (ps : Addr) (sa : Addr) (ta : Addr) (ks : ClassId) (kt : ClassId) (z : Int32) (M : Nat) (cz : Int32) (C : Nat) (f : Nat → Int64) (g : Nat → Int32) (ov : Int32) (h0 : Heap) (n0 : Nat) (v : Option Value) (h : Heap) (L : List Loc) : Prop := ∃ (rv : Addr) (kv : ClassId), v = some (.ref rv) ∧ Fr n0 L ∧ Keep h0 h [] ∧ h0.size ≤ rv ∧ Arv Z h rv kv .long (0 : Int32) [] (.long (0 : Int64))
theorem pd_7 : parseMethodDescriptor "([J)V" = some ⟨[(.array .long)], none⟩ := by decide +kernel
theorem d10_0 : decode prog_44_method_4_code 0 = .ok (.aload_n 0, 1) := by decide +kernel
theorem d10_1 : decode prog_44_method_4_code 1 = .ok (.getfield 47, 3) := by decide +kernel
theorem d10_4 : decode prog_44_method_4_code 4 = .ok (.newarray .long, 2) := by decide +kernel
theorem d10_6 : decode prog_44_method_4_code 6 = .ok (.astore_n 3, 1) := by decide +kernel
theorem d10_7 : decode prog_44_method_4_code 7 = .ok (.iconst 0, 1) := by decide +kernel
theorem d10_8 : decode prog_44_method_4_code 8 = .ok (.istore 4, 2) := by decide +kernel
theorem d10_10 : decode prog_44_method_4_code 10 = .ok (.iconst 0, 1) := by decide +kernel
theorem d10_11 : decode prog_44_method_4_code 11 = .ok (.istore 5, 2) := by decide +kernel
theorem d10_13 : decode prog_44_method_4_code 13 = .ok (.iload 5, 2) := by decide +kernel
theorem d10_15 : decode prog_44_method_4_code 15 = .ok (.aload_n 0, 1) := by decide +kernel
theorem d10_16 : decode prog_44_method_4_code 16 = .ok (.getfield 47, 3) := by decide +kernel
theorem d10_19 : decode prog_44_method_4_code 19 = .ok (.if_icmp .ge 39, 3) := by decide +kernel
theorem d10_58 : decode prog_44_method_4_code 58 = .ok (.iload 4, 2) := by decide +kernel
theorem d10_60 : decode prog_44_method_4_code 60 = .ok (.aload_n 0, 1) := by decide +kernel
theorem d10_61 : decode prog_44_method_4_code 61 = .ok (.getfield 47, 3) := by decide +kernel
theorem d10_64 : decode prog_44_method_4_code 64 = .ok (.if_icmp .ne 7, 3) := by decide +kernel
theorem d10_67 : decode prog_44_method_4_code 67 = .ok (.aload_n 3, 1) := by decide +kernel
theorem d10_68 : decode prog_44_method_4_code 68 = .ok (.goto 9, 3) := by decide +kernel
theorem d10_77 : decode prog_44_method_4_code 77 = .ok (.astore 5, 2) := by decide +kernel
theorem d10_79 : decode prog_44_method_4_code 79 = .ok (.aload 5, 2) := by decide +kernel
theorem d10_81 : decode prog_44_method_4_code 81 = .ok (.invokestatic 58, 3) := by decide +kernel
theorem d10_84 : decode prog_44_method_4_code 84 = .ok (.aload 5, 2) := by decide +kernel
theorem d10_86 : decode prog_44_method_4_code 86 = .ok (.areturn, 1) := by decide +kernel
set_option maxRecDepth 65536 in
set_option maxHeartbeats 40000000 in
theorem rmsb0 (l : Launch) (Z : State) (a0 : Array Value) (hw : ∀ d ∈ tables_1, d.before a0 Z = true) (ws : List Jvm.Cond) (ps : Addr) (sa : Addr) (ta : Addr) (ks : ClassId) (kt : ClassId) (z : Int32) (M : Nat) (cz : Int32) (C : Nat) (f : Nat → Int64) (g : Nat → Int32) (ov : Int32) (h0 : Heap) (n0 : Nat) (Z0 : n0 ≤ h0.size) (E : Exa Z h0 ps "com/example/clearingd/clearingd/store/PositionSet") (Fslots : Fld Z h0 ps "com/example/clearingd/clearingd/store/PositionSet" "slots" "[J" (.ref sa)) (Ftaken : Fld Z h0 ps "com/example/clearingd/clearingd/store/PositionSet" "taken" "[I" (.ref ta)) (Fcapacity : Fld Z h0 ps "com/example/clearingd/clearingd/store/PositionSet" "capacity" "I" (.int cz)) (Fsize : Fld Z h0 ps "com/example/clearingd/clearingd/store/PositionSet" "size" "I" (.int (0 : Int32))) (Foverflowed : Fld Z h0 ps "com/example/clearingd/clearingd/store/PositionSet" "overflowed" "Z" (.int ov)) (VS : Arv Z h0 sa ks .long z (own_T M f) (.long (0 : Int64))) (VT : Arv Z h0 ta kt .int cz (own_G C g) (.int (0 : Int32))) (n1 : sa ≠ ps) (n2 : ta ≠ ps) (n3 : sa ≠ ta) (hz : z.toInt = (M : Int)) (hM : 4 ≤ M ∧ M ≤ 16) (hmk : ∀ x : Int32, (x &&& (z - (1 : Int32))).toInt = x.toInt % (M : Int)) (hcz : cz.toInt = (C : Int)) (hI : own_Inv M f g (0 : Int32) 3 C) :
    MetFree l (⟨"com/example/clearingd/clearingd/store/PositionSet", "sortedBelow", "(J)[J"⟩ : MethodName) (head1 (Jvm.Cond.code (⟨"com/example/clearingd/clearingd/store/PositionSet", "sortedBelow", "(J)[J"⟩ : MethodName) prog_44_method_4_code 8 (some (.array .long)) :: ws) ({ frames := 4, cells := 1, slots := 0, locals := 84 } : Room)) (fun a U => a = #[(.ref ps), (.long (9223372036854775807 : Int64))] ∧ Z.Warmed39 U.vm ∧ U.heap = h0) (fun _ _ _ _ _ => True) (fun _ U o U' => ∃ v L, o = .returned v ∧ Qsb0 Z ps sa ta ks kt z M cz C f g ov h0 n0 v U'.heap L ∧ FrameEnd U o U' L ({ frames := 4, cells := 1, slots := 0, locals := 84 } : Room).cells ({ frames := 4, cells := 1, slots := 0, locals := 84 } : Room).slots) := by
  refine MetFree.of_bodySF (plainFor_of_name pn_4) hisR ?_
  intro p e s m args below meth c s₁ Bd hml0 hP hK
  obtain ⟨rfl, hZ, hh⟩ := hP
  have hx := Bd.exec
  have hby := Bd.bytes
  have hml : c.maxLocals = 8 := hml0
  have hown : s.vm.findClass "com/example/clearingd/clearingd/store/PositionSet" = some m.cls := findClass_of_methodNamed Bd.named
  have hnm := (name_of_methodNamed Bd.named Bd.method).1
  have hlk : meth.locks = false := BodyLoose.notSynchronized Bd
  have X0 : Stand p l e ({ frames := 4, cells := 1, slots := 0, locals := 84 } : Room) s m #[(.ref ps), (.long (9223372036854775807 : Int64))] below meth c s₁ [] 0 0 := Stand.of_body Bd
  have e0 : s₁.heap = h0 := by rw [← hh, Bd.state]; rfl
  have N0 := Fr.nil n0
  show OEnds p.tables e below (OGoal (Qsb0 Z ps sa ta ks kt z M cz C f g ov h0 n0) s 1 0) (s₁.setTop (entryFrame m #[(.ref ps), (.long (9223372036854775807 : Int64))] 8))
  refine OEnds.st (fun t k => castTop (ef_sb0 m ps) k) ?_
  generalize hG : OGoal (Qsb0 Z ps sa ta ks kt z M cz C f g ov h0 n0) s 1 0 = G
  have KK0 : Keep h0 h0 [] := Keep.refl h0 []
  show OEnds p.tables e below G (s₁.setTop (mkF m 0 #[.val (.ref ps), .val (.long (9223372036854775807 : Int64)), .second, .unset, .unset, .unset, .unset, .unset] []))
  refine OEnds.st (fun _ k => XS.aloadN X0.here hx rfl (hb hby d10_0) rfl rfl k) ?_
  show OEnds p.tables e below G (s₁.setTop (mkF m 1 #[.val (.ref ps), .val (.long (9223372036854775807 : Int64)), .second, .unset, .unset, .unset, .unset, .unset] [(.ref ps)]))
  obtain ⟨T1001, X1001, e1001, st1001⟩ := getF X0 hx hZ hown (host := "") (Or.inl (hw _ (List.mem_of_getElem? (i := 45) rfl))) Via.refl e0 Fsize (g := (mkF m 1 #[.val (.ref ps), .val (.long (9223372036854775807 : Int64)), .second, .unset, .unset, .unset, .unset, .unset] [(.ref ps)])) rfl rfl (hb hby d10_1)
  refine OEnds.st st1001 ?_
  clear st1001
  show OEnds p.tables e below G (T1001.setTop (mkF m 4 #[.val (.ref ps), .val (.long (9223372036854775807 : Int64)), .second, .unset, .unset, .unset, .unset, .unset] [(.int (0 : Int32))]))
  obtain ⟨T1002, h1002, k1002, X1002, e1002, E1002, A1002, st1002⟩ := newP X1001 hx hZ (hw _ (List.mem_of_getElem? (i := 29) rfl)) e1001 (g := (mkF m 4 #[.val (.ref ps), .val (.long (9223372036854775807 : Int64)), .second, .unset, .unset, .unset, .unset, .unset] [(.int (0 : Int32))])) rfl (hb hby d10_4) rfl (by decide) (cap := 0) (by decide) (by decide) (by decide) (by decide)
  obtain ⟨b1002, g1002⟩ : ∃ z, z = h0.size := ⟨_, rfl⟩
  rw [← g1002] at A1002 st1002
  refine OEnds.st st1002 ?_
  clear st1002
  have ne1003 : ps ≠ b1002 := Nat.ne_of_lt (Nat.lt_of_lt_of_le (E).lt (Nat.le_of_eq g1002.symm))
  have ne1004 : sa ≠ b1002 := Nat.ne_of_lt (Nat.lt_of_lt_of_le (VS).lt (Nat.le_of_eq g1002.symm))
  have ne1005 : ta ≠ b1002 := Nat.ne_of_lt (Nat.lt_of_lt_of_le (VT).lt (Nat.le_of_eq g1002.symm))
  have ge_b1002 : n0 ≤ b1002 := Nat.le_trans Z0 (Nat.le_of_eq g1002.symm)
  have sz_b1002 : h0.size ≤ b1002 := Nat.le_trans KK0.1 (Nat.le_of_eq g1002.symm)
  have f1006 : Exa Z h1002 ps "com/example/clearingd/clearingd/store/PositionSet" := E.ext E1002
  have f1007 : Fld Z h1002 ps "com/example/clearingd/clearingd/store/PositionSet" "slots" "[J" (.ref sa) := Fslots.ext E1002
  have f1008 : Fld Z h1002 ps "com/example/clearingd/clearingd/store/PositionSet" "taken" "[I" (.ref ta) := Ftaken.ext E1002
  have f1009 : Fld Z h1002 ps "com/example/clearingd/clearingd/store/PositionSet" "capacity" "I" (.int cz) := Fcapacity.ext E1002
  have f1010 : Fld Z h1002 ps "com/example/clearingd/clearingd/store/PositionSet" "size" "I" (.int (0 : Int32)) := Fsize.ext E1002
  have f1011 : Fld Z h1002 ps "com/example/clearingd/clearingd/store/PositionSet" "overflowed" "Z" (.int ov) := Foverflowed.ext E1002
  have f1012 : Arv Z h1002 sa ks .long z (own_T M f) (.long (0 : Int64)) := VS.ext E1002
  have f1013 : Arv Z h1002 ta kt .int cz (own_G C g) (.int (0 : Int32)) := VT.ext E1002
  have KK1002 : Keep h0 h1002 [] := KK0.ext E1002
  have Z1002 := Nat.le_trans Z0 E1002.1
  have f1014 : Arv Z h1002 b1002 k1002 .long (0 : Int32) [] (.long (0 : Int64)) := Arv.new A1002 (by decide)
  show OEnds p.tables e below G (T1002.setTop (mkF m 6 #[.val (.ref ps), .val (.long (9223372036854775807 : Int64)), .second, .unset, .unset, .unset, .unset, .unset] [(.ref b1002)]))
  refine OEnds.st (fun _ k => XS.astoreN X1002.here hx rfl (hb hby d10_6) rfl rfl (l' := #[.val (.ref ps), .val (.long (9223372036854775807 : Int64)), .second, .val (.ref b1002), .unset, .unset, .unset, .unset]) rfl k) ?_
  show OEnds p.tables e below G (T1002.setTop (mkF m 7 #[.val (.ref ps), .val (.long (9223372036854775807 : Int64)), .second, .val (.ref b1002), .unset, .unset, .unset, .unset] []))
  refine OEnds.st (fun _ k => XS.iconst X1002.here hx rfl (hb hby d10_7) k) ?_
  show OEnds p.tables e below G (T1002.setTop (mkF m 8 #[.val (.ref ps), .val (.long (9223372036854775807 : Int64)), .second, .val (.ref b1002), .unset, .unset, .unset, .unset] [(.int (0 : Int32))]))
  refine OEnds.st (fun _ k => XS.istore X1002.here hx rfl (hb hby d10_8) rfl (l' := #[.val (.ref ps), .val (.long (9223372036854775807 : Int64)), .second, .val (.ref b1002), .val (.int (0 : Int32)), .unset, .unset, .unset]) rfl k) ?_
  show OEnds p.tables e below G (T1002.setTop (mkF m 10 #[.val (.ref ps), .val (.long (9223372036854775807 : Int64)), .second, .val (.ref b1002), .val (.int (0 : Int32)), .unset, .unset, .unset] []))
  refine OEnds.st (fun _ k => XS.iconst X1002.here hx rfl (hb hby d10_10) k) ?_
  show OEnds p.tables e below G (T1002.setTop (mkF m 11 #[.val (.ref ps), .val (.long (9223372036854775807 : Int64)), .second, .val (.ref b1002), .val (.int (0 : Int32)), .unset, .unset, .unset] [(.int (0 : Int32))]))
  refine OEnds.st (fun _ k => XS.istore X1002.here hx rfl (hb hby d10_11) rfl (l' := #[.val (.ref ps), .val (.long (9223372036854775807 : Int64)), .second, .val (.ref b1002), .val (.int (0 : Int32)), .val (.int (0 : Int32)), .unset, .unset]) rfl k) ?_
  show OEnds p.tables e below G (T1002.setTop (mkF m 13 #[.val (.ref ps), .val (.long (9223372036854775807 : Int64)), .second, .val (.ref b1002), .val (.int (0 : Int32)), .val (.int (0 : Int32)), .unset, .unset] []))
  refine OEnds.st (fun _ k => XS.iload X1002.here hx rfl (hb hby d10_13) rfl k) ?_
  show OEnds p.tables e below G (T1002.setTop (mkF m 15 #[.val (.ref ps), .val (.long (9223372036854775807 : Int64)), .second, .val (.ref b1002), .val (.int (0 : Int32)), .val (.int (0 : Int32)), .unset, .unset] [(.int (0 : Int32))]))
  refine OEnds.st (fun _ k => XS.aloadN X1002.here hx rfl (hb hby d10_15) rfl rfl k) ?_
  show OEnds p.tables e below G (T1002.setTop (mkF m 16 #[.val (.ref ps), .val (.long (9223372036854775807 : Int64)), .second, .val (.ref b1002), .val (.int (0 : Int32)), .val (.int (0 : Int32)), .unset, .unset] [(.ref ps), (.int (0 : Int32))]))
  obtain ⟨T1015, X1015, e1015, st1015⟩ := getF X1002 hx hZ hown (host := "") (Or.inl (hw _ (List.mem_of_getElem? (i := 45) rfl))) Via.refl e1002 f1010 (g := (mkF m 16 #[.val (.ref ps), .val (.long (9223372036854775807 : Int64)), .second, .val (.ref b1002), .val (.int (0 : Int32)), .val (.int (0 : Int32)), .unset, .unset] [(.ref ps), (.int (0 : Int32))])) rfl rfl (hb hby d10_16)
  refine OEnds.st st1015 ?_
  clear st1015
  show OEnds p.tables e below G (T1015.setTop (mkF m 19 #[.val (.ref ps), .val (.long (9223372036854775807 : Int64)), .second, .val (.ref b1002), .val (.int (0 : Int32)), .val (.int (0 : Int32)), .unset, .unset] [(.int (0 : Int32)), (.int (0 : Int32))]))
  refine OEnds.st (fun _ k => XS.icmpYes X1015.here hx rfl (pc0 := 19) (pc' := 58) rfl (hb hby d10_19) rfl (flt (by decide : ¬ ((0 : Int32) < (0 : Int32)))).2.1 (by decide) (by decide) k) ?_
  show OEnds p.tables e below G (T1015.setTop (mkF m 58 #[.val (.ref ps), .val (.long (9223372036854775807 : Int64)), .second, .val (.ref b1002), .val (.int (0 : Int32)), .val (.int (0 : Int32)), .unset, .unset] []))
  refine OEnds.st (fun _ k => XS.iload X1015.here hx rfl (hb hby d10_58) rfl k) ?_
  show OEnds p.tables e below G (T1015.setTop (mkF m 60 #[.val (.ref ps), .val (.long (9223372036854775807 : Int64)), .second, .val (.ref b1002), .val (.int (0 : Int32)), .val (.int (0 : Int32)), .unset, .unset] [(.int (0 : Int32))]))
  refine OEnds.st (fun _ k => XS.aloadN X1015.here hx rfl (hb hby d10_60) rfl rfl k) ?_
  show OEnds p.tables e below G (T1015.setTop (mkF m 61 #[.val (.ref ps), .val (.long (9223372036854775807 : Int64)), .second, .val (.ref b1002), .val (.int (0 : Int32)), .val (.int (0 : Int32)), .unset, .unset] [(.ref ps), (.int (0 : Int32))]))
  obtain ⟨T1016, X1016, e1016, st1016⟩ := getF X1015 hx hZ hown (host := "") (Or.inl (hw _ (List.mem_of_getElem? (i := 45) rfl))) Via.refl e1015 f1010 (g := (mkF m 61 #[.val (.ref ps), .val (.long (9223372036854775807 : Int64)), .second, .val (.ref b1002), .val (.int (0 : Int32)), .val (.int (0 : Int32)), .unset, .unset] [(.ref ps), (.int (0 : Int32))])) rfl rfl (hb hby d10_61)
  refine OEnds.st st1016 ?_
  clear st1016
  show OEnds p.tables e below G (T1016.setTop (mkF m 64 #[.val (.ref ps), .val (.long (9223372036854775807 : Int64)), .second, .val (.ref b1002), .val (.int (0 : Int32)), .val (.int (0 : Int32)), .unset, .unset] [(.int (0 : Int32)), (.int (0 : Int32))]))
  refine OEnds.st (fun _ k => XS.icmpNo X1016.here hx rfl (hb hby d10_64) rfl (teq (by decide : (0 : Int32) = (0 : Int32))).2 k) ?_
  show OEnds p.tables e below G (T1016.setTop (mkF m 67 #[.val (.ref ps), .val (.long (9223372036854775807 : Int64)), .second, .val (.ref b1002), .val (.int (0 : Int32)), .val (.int (0 : Int32)), .unset, .unset] []))
  refine OEnds.st (fun _ k => XS.aloadN X1016.here hx rfl (hb hby d10_67) rfl rfl k) ?_
  show OEnds p.tables e below G (T1016.setTop (mkF m 68 #[.val (.ref ps), .val (.long (9223372036854775807 : Int64)), .second, .val (.ref b1002), .val (.int (0 : Int32)), .val (.int (0 : Int32)), .unset, .unset] [(.ref b1002)]))
  refine OEnds.st (fun _ k => XS.goto X1016.here hx rfl (pc0 := 68) (pc' := 77) rfl (hb hby d10_68) (by decide) (by decide) k) ?_
  show OEnds p.tables e below G (T1016.setTop (mkF m 77 #[.val (.ref ps), .val (.long (9223372036854775807 : Int64)), .second, .val (.ref b1002), .val (.int (0 : Int32)), .val (.int (0 : Int32)), .unset, .unset] [(.ref b1002)]))
  refine OEnds.st (fun _ k => XS.astore X1016.here hx rfl (hb hby d10_77) rfl rfl (l' := #[.val (.ref ps), .val (.long (9223372036854775807 : Int64)), .second, .val (.ref b1002), .val (.int (0 : Int32)), .val (.ref b1002), .unset, .unset]) rfl k) ?_
  show OEnds p.tables e below G (T1016.setTop (mkF m 79 #[.val (.ref ps), .val (.long (9223372036854775807 : Int64)), .second, .val (.ref b1002), .val (.int (0 : Int32)), .val (.ref b1002), .unset, .unset] []))
  refine OEnds.st (fun _ k => XS.aload X1016.here hx rfl (hb hby d10_79) rfl rfl k) ?_
  show OEnds p.tables e below G (T1016.setTop (mkF m 81 #[.val (.ref ps), .val (.long (9223372036854775807 : Int64)), .second, .val (.ref b1002), .val (.int (0 : Int32)), .val (.ref b1002), .unset, .unset] [(.ref b1002)]))
  obtain ⟨_, _, ⟨T1017, L1017, k1017c, n1017c⟩, -, X1017, ⟨Lc1017, hQ1017, l1017, y1017, z1017⟩, st1017⟩ := Jvm.LawKit.callS X1016 hx (y := (⟨"java/util/Arrays", "sort", "([J)V"⟩ : MethodName)) hown (mvT hZ (hw _ (List.mem_of_getElem? (i := 59) rfl))) (mvT hZ (hw _ (List.mem_of_getElem? (i := 60) rfl))) (mvT hZ (hw _ (List.mem_of_getElem? (i := 38) rfl))) (mvT hZ (hw _ (List.mem_of_getElem? (i := 61) rfl))) (by decide) (backOf (W := 0) (rmso0 l Z a0 hw [] b1002 k1002 h1002 n0 Z1002 f1014 ge_b1002) hZ (hw _ (List.mem_of_getElem? (i := 61) rfl)) (hw _ (List.mem_of_getElem? (i := 38) rfl)) (by decide) (by decide)) (g := (mkF m 81 #[.val (.ref ps), .val (.long (9223372036854775807 : Int64)), .second, .val (.ref b1002), .val (.int (0 : Int32)), .val (.ref b1002), .unset, .unset] [(.ref b1002)])) rfl (by rw [hml]; rfl) (argsL := [(.ref b1002)]) (rest := []) (lenOf pd_7 rfl) rfl (by show 2 * 0 + _ ≤ _; exact Nat.le_of_eq rfl) (hb hby d10_81) (fun _ _ => ⟨rfl, e1016, (by decide : 0 + 1 + 0 ≤ _), (by decide : 0 + 0 + 0 ≤ _)⟩)
  dsimp only [Pt.U, Pt.locs, Pt.cells, Pt.slots] at X1017 l1017 y1017 z1017 st1017 hQ1017
  subst l1017 y1017 z1017
  obtain ⟨rfl, N1017q, p1018, p1019⟩ := hQ1017
  have N1017 := Fr.app N0 N1017q
  refine OEnds.st st1017 ?_
  clear st1017
  have f1020 : Exa Z T1017.heap ps "com/example/clearingd/clearingd/store/PositionSet" := f1006.keep p1018
  have f1021 : Fld Z T1017.heap ps "com/example/clearingd/clearingd/store/PositionSet" "slots" "[J" (.ref sa) := f1007.keep p1018 (by simp only [List.mem_cons, List.not_mem_nil, or_false, not_or]; exact ne1003)
  have f1022 : Fld Z T1017.heap ps "com/example/clearingd/clearingd/store/PositionSet" "taken" "[I" (.ref ta) := f1008.keep p1018 (by simp only [List.mem_cons, List.not_mem_nil, or_false, not_or]; exact ne1003)
  have f1023 : Fld Z T1017.heap ps "com/example/clearingd/clearingd/store/PositionSet" "capacity" "I" (.int cz) := f1009.keep p1018 (by simp only [List.mem_cons, List.not_mem_nil, or_false, not_or]; exact ne1003)
  have f1024 : Fld Z T1017.heap ps "com/example/clearingd/clearingd/store/PositionSet" "size" "I" (.int (0 : Int32)) := f1010.keep p1018 (by simp only [List.mem_cons, List.not_mem_nil, or_false, not_or]; exact ne1003)
  have f1025 : Fld Z T1017.heap ps "com/example/clearingd/clearingd/store/PositionSet" "overflowed" "Z" (.int ov) := f1011.keep p1018 (by simp only [List.mem_cons, List.not_mem_nil, or_false, not_or]; exact ne1003)
  have f1026 : Arv Z T1017.heap sa ks .long z (own_T M f) (.long (0 : Int64)) := f1012.keep p1018 (by simp only [List.mem_cons, List.not_mem_nil, or_false, not_or]; exact ne1004)
  have f1027 : Arv Z T1017.heap ta kt .int cz (own_G C g) (.int (0 : Int32)) := f1013.keep p1018 (by simp only [List.mem_cons, List.not_mem_nil, or_false, not_or]; exact ne1005)
  have KK1017 : Keep h0 T1017.heap [] := KK1002.trans p1018 (fun x hx => by cases List.mem_singleton.mp hx; exact Or.inr sz_b1002)
  have Z1017 := Nat.le_trans Z1002 p1018.1
  show OEnds p.tables e below G (T1017.setTop (mkF m 84 #[.val (.ref ps), .val (.long (9223372036854775807 : Int64)), .second, .val (.ref b1002), .val (.int (0 : Int32)), .val (.ref b1002), .unset, .unset] []))
  refine OEnds.st (fun _ k => XS.aload X1017.here hx rfl (hb hby d10_84) rfl rfl k) ?_
  show OEnds p.tables e below G (T1017.setTop (mkF m 86 #[.val (.ref ps), .val (.long (9223372036854775807 : Int64)), .second, .val (.ref b1002), .val (.int (0 : Int32)), .val (.ref b1002), .unset, .unset] [(.ref b1002)]))
  rw [← hG]
  refine OEnds.retA X1017 hx hlk Bd.returns (by first | rfl | exact rfl) rfl (hb hby d10_86) (by decide) (by decide) ?_
  show _
  exact ⟨b1002, k1002, rfl, N1017, KK1017, sz_b1002, p1019⟩
theorem ef_sb1 (m : MethodId) (ps : Addr) : entryFrame m #[(.ref ps), (.long (9223372036854775807 : Int64))] 8 = mkF m 0 #[.val (.ref ps), .val (.long (9223372036854775807 : Int64)), .second, .unset, .unset, .unset, .unset, .unset] [] := by first | (simp [entryFrame, mkF, argsToLocals, Value.category]; done) | rfl
def Qsb1 (Z : State) (ps : Addr) (sa : Addr) (ta : Addr) (ks : ClassId) (kt : ClassId) (z : Int32) (M : Nat) (cz : Int32) (C : Nat) (f : Nat → Int64) (g : Nat → Int32) (ov : Int32) (y0 : Int64) (h0 : Heap) (n0 : Nat) (v : Option Value) (h : Heap) (L : List Loc) : Prop := ∃ (rv : Addr) (kv : ClassId), v = some (.ref rv) ∧ Fr n0 L ∧ Keep h0 h [] ∧ h0.size ≤ rv ∧ Arv Z h rv kv .long (1 : Int32) [(.long y0)] (.long (0 : Int64))
theorem d10_22 : decode prog_44_method_4_code 22 = .ok (.aload_n 0, 1) := by decide +kernel
theorem d10_23 : decode prog_44_method_4_code 23 = .ok (.getfield 25, 3) := by decide +kernel
theorem d10_26 : decode prog_44_method_4_code 26 = .ok (.aload_n 0, 1) := by decide +kernel
theorem d10_27 : decode prog_44_method_4_code 27 = .ok (.getfield 29, 3) := by decide +kernel
theorem d10_30 : decode prog_44_method_4_code 30 = .ok (.iload 5, 2) := by decide +kernel
theorem d10_32 : decode prog_44_method_4_code 32 = .ok (.iaload, 1) := by decide +kernel
theorem d10_33 : decode prog_44_method_4_code 33 = .ok (.laload, 1) := by decide +kernel
theorem d10_34 : decode prog_44_method_4_code 34 = .ok (.lstore 6, 2) := by decide +kernel
theorem d10_36 : decode prog_44_method_4_code 36 = .ok (.lload 6, 2) := by decide +kernel
theorem d10_38 : decode prog_44_method_4_code 38 = .ok (.lload_n 1, 1) := by decide +kernel
theorem d10_39 : decode prog_44_method_4_code 39 = .ok (.lcmp, 1) := by decide +kernel
theorem d10_40 : decode prog_44_method_4_code 40 = .ok (.ifCond .ge 12, 3) := by decide +kernel
theorem d10_43 : decode prog_44_method_4_code 43 = .ok (.aload_n 3, 1) := by decide +kernel
theorem d10_44 : decode prog_44_method_4_code 44 = .ok (.iload 4, 2) := by decide +kernel
theorem d10_46 : decode prog_44_method_4_code 46 = .ok (.iinc 4 1, 3) := by decide +kernel
theorem d10_49 : decode prog_44_method_4_code 49 = .ok (.lload 6, 2) := by decide +kernel
theorem d10_51 : decode prog_44_method_4_code 51 = .ok (.lastore, 1) := by decide +kernel
theorem d10_52 : decode prog_44_method_4_code 52 = .ok (.iinc 5 1, 3) := by decide +kernel
theorem d10_55 : decode prog_44_method_4_code 55 = .ok (.goto (-42), 3) := by decide +kernel
set_option maxRecDepth 65536 in
set_option maxHeartbeats 40000000 in
theorem rmsb1 (l : Launch) (Z : State) (a0 : Array Value) (hw : ∀ d ∈ tables_1, d.before a0 Z = true) (ws : List Jvm.Cond) (ps : Addr) (sa : Addr) (ta : Addr) (ks : ClassId) (kt : ClassId) (z : Int32) (M : Nat) (cz : Int32) (C : Nat) (f : Nat → Int64) (g : Nat → Int32) (ov : Int32) (y0 : Int64) (h0 : Heap) (n0 : Nat) (Z0 : n0 ≤ h0.size) (E : Exa Z h0 ps "com/example/clearingd/clearingd/store/PositionSet") (Fslots : Fld Z h0 ps "com/example/clearingd/clearingd/store/PositionSet" "slots" "[J" (.ref sa)) (Ftaken : Fld Z h0 ps "com/example/clearingd/clearingd/store/PositionSet" "taken" "[I" (.ref ta)) (Fcapacity : Fld Z h0 ps "com/example/clearingd/clearingd/store/PositionSet" "capacity" "I" (.int cz)) (Fsize : Fld Z h0 ps "com/example/clearingd/clearingd/store/PositionSet" "size" "I" (.int (1 : Int32))) (Foverflowed : Fld Z h0 ps "com/example/clearingd/clearingd/store/PositionSet" "overflowed" "Z" (.int ov)) (VS : Arv Z h0 sa ks .long z (own_T M f) (.long (0 : Int64))) (VT : Arv Z h0 ta kt .int cz (own_G C g) (.int (0 : Int32))) (n1 : sa ≠ ps) (n2 : ta ≠ ps) (n3 : sa ≠ ta) (hz : z.toInt = (M : Int)) (hM : 4 ≤ M ∧ M ≤ 16) (hmk : ∀ x : Int32, (x &&& (z - (1 : Int32))).toInt = x.toInt % (M : Int)) (hcz : cz.toInt = (C : Int)) (hI : own_Inv M f g (1 : Int32) 3 C) (hx0 : (f (g (0 : Int32).toNatClampNeg).toNatClampNeg) = y0) (hlt0 : y0 < (9223372036854775807 : Int64)) :
    MetFree l (⟨"com/example/clearingd/clearingd/store/PositionSet", "sortedBelow", "(J)[J"⟩ : MethodName) (head1 (Jvm.Cond.code (⟨"com/example/clearingd/clearingd/store/PositionSet", "sortedBelow", "(J)[J"⟩ : MethodName) prog_44_method_4_code 8 (some (.array .long)) :: ws) ({ frames := 4, cells := 1, slots := 1, locals := 84 } : Room)) (fun a U => a = #[(.ref ps), (.long (9223372036854775807 : Int64))] ∧ Z.Warmed39 U.vm ∧ U.heap = h0) (fun _ _ _ _ _ => True) (fun _ U o U' => ∃ v L, o = .returned v ∧ Qsb1 Z ps sa ta ks kt z M cz C f g ov y0 h0 n0 v U'.heap L ∧ FrameEnd U o U' L ({ frames := 4, cells := 1, slots := 1, locals := 84 } : Room).cells ({ frames := 4, cells := 1, slots := 1, locals := 84 } : Room).slots) := by
  refine MetFree.of_bodySF (plainFor_of_name pn_4) hisR ?_
  intro p e s m args below meth c s₁ Bd hml0 hP hK
  obtain ⟨rfl, hZ, hh⟩ := hP
  have hx := Bd.exec
  have hby := Bd.bytes
  have hml : c.maxLocals = 8 := hml0
  have hown : s.vm.findClass "com/example/clearingd/clearingd/store/PositionSet" = some m.cls := findClass_of_methodNamed Bd.named
  have hnm := (name_of_methodNamed Bd.named Bd.method).1
  have hlk : meth.locks = false := BodyLoose.notSynchronized Bd
  have X0 : Stand p l e ({ frames := 4, cells := 1, slots := 1, locals := 84 } : Room) s m #[(.ref ps), (.long (9223372036854775807 : Int64))] below meth c s₁ [] 0 0 := Stand.of_body Bd
  have e0 : s₁.heap = h0 := by rw [← hh, Bd.state]; rfl
  have N0 := Fr.nil n0
  show OEnds p.tables e below (OGoal (Qsb1 Z ps sa ta ks kt z M cz C f g ov y0 h0 n0) s 1 1) (s₁.setTop (entryFrame m #[(.ref ps), (.long (9223372036854775807 : Int64))] 8))
  refine OEnds.st (fun t k => castTop (ef_sb1 m ps) k) ?_
  generalize hG : OGoal (Qsb1 Z ps sa ta ks kt z M cz C f g ov y0 h0 n0) s 1 1 = G
  have KK0 : Keep h0 h0 [] := Keep.refl h0 []
  show OEnds p.tables e below G (s₁.setTop (mkF m 0 #[.val (.ref ps), .val (.long (9223372036854775807 : Int64)), .second, .unset, .unset, .unset, .unset, .unset] []))
  refine OEnds.st (fun _ k => XS.aloadN X0.here hx rfl (hb hby d10_0) rfl rfl k) ?_
  show OEnds p.tables e below G (s₁.setTop (mkF m 1 #[.val (.ref ps), .val (.long (9223372036854775807 : Int64)), .second, .unset, .unset, .unset, .unset, .unset] [(.ref ps)]))
  obtain ⟨T1001, X1001, e1001, st1001⟩ := getF X0 hx hZ hown (host := "") (Or.inl (hw _ (List.mem_of_getElem? (i := 45) rfl))) Via.refl e0 Fsize (g := (mkF m 1 #[.val (.ref ps), .val (.long (9223372036854775807 : Int64)), .second, .unset, .unset, .unset, .unset, .unset] [(.ref ps)])) rfl rfl (hb hby d10_1)
  refine OEnds.st st1001 ?_
  clear st1001
  show OEnds p.tables e below G (T1001.setTop (mkF m 4 #[.val (.ref ps), .val (.long (9223372036854775807 : Int64)), .second, .unset, .unset, .unset, .unset, .unset] [(.int (1 : Int32))]))
  obtain ⟨T1002, h1002, k1002, X1002, e1002, E1002, A1002, st1002⟩ := newP X1001 hx hZ (hw _ (List.mem_of_getElem? (i := 29) rfl)) e1001 (g := (mkF m 4 #[.val (.ref ps), .val (.long (9223372036854775807 : Int64)), .second, .unset, .unset, .unset, .unset, .unset] [(.int (1 : Int32))])) rfl (hb hby d10_4) rfl (by decide) (cap := 1) (by decide) (by decide) (by decide) (by decide)
  obtain ⟨b1002, g1002⟩ : ∃ z, z = h0.size := ⟨_, rfl⟩
  rw [← g1002] at A1002 st1002
  refine OEnds.st st1002 ?_
  clear st1002
  have ne1003 : ps ≠ b1002 := Nat.ne_of_lt (Nat.lt_of_lt_of_le (E).lt (Nat.le_of_eq g1002.symm))
  have ne1004 : sa ≠ b1002 := Nat.ne_of_lt (Nat.lt_of_lt_of_le (VS).lt (Nat.le_of_eq g1002.symm))
  have ne1005 : ta ≠ b1002 := Nat.ne_of_lt (Nat.lt_of_lt_of_le (VT).lt (Nat.le_of_eq g1002.symm))
  have ge_b1002 : n0 ≤ b1002 := Nat.le_trans Z0 (Nat.le_of_eq g1002.symm)
  have sz_b1002 : h0.size ≤ b1002 := Nat.le_trans KK0.1 (Nat.le_of_eq g1002.symm)
  have f1006 : Exa Z h1002 ps "com/example/clearingd/clearingd/store/PositionSet" := E.ext E1002
  have f1007 : Fld Z h1002 ps "com/example/clearingd/clearingd/store/PositionSet" "slots" "[J" (.ref sa) := Fslots.ext E1002
  have f1008 : Fld Z h1002 ps "com/example/clearingd/clearingd/store/PositionSet" "taken" "[I" (.ref ta) := Ftaken.ext E1002
  have f1009 : Fld Z h1002 ps "com/example/clearingd/clearingd/store/PositionSet" "capacity" "I" (.int cz) := Fcapacity.ext E1002
  have f1010 : Fld Z h1002 ps "com/example/clearingd/clearingd/store/PositionSet" "size" "I" (.int (1 : Int32)) := Fsize.ext E1002
  have f1011 : Fld Z h1002 ps "com/example/clearingd/clearingd/store/PositionSet" "overflowed" "Z" (.int ov) := Foverflowed.ext E1002
  have f1012 : Arv Z h1002 sa ks .long z (own_T M f) (.long (0 : Int64)) := VS.ext E1002
  have f1013 : Arv Z h1002 ta kt .int cz (own_G C g) (.int (0 : Int32)) := VT.ext E1002
  have KK1002 : Keep h0 h1002 [] := KK0.ext E1002
  have Z1002 := Nat.le_trans Z0 E1002.1
  have f1014 : Arv Z h1002 b1002 k1002 .long (1 : Int32) [(.long (0 : Int64))] (.long (0 : Int64)) := (Arv.new A1002 (by decide)).pad (pad_rep [] (.long (0 : Int64)) 1)
  show OEnds p.tables e below G (T1002.setTop (mkF m 6 #[.val (.ref ps), .val (.long (9223372036854775807 : Int64)), .second, .unset, .unset, .unset, .unset, .unset] [(.ref b1002)]))
  refine OEnds.st (fun _ k => XS.astoreN X1002.here hx rfl (hb hby d10_6) rfl rfl (l' := #[.val (.ref ps), .val (.long (9223372036854775807 : Int64)), .second, .val (.ref b1002), .unset, .unset, .unset, .unset]) rfl k) ?_
  show OEnds p.tables e below G (T1002.setTop (mkF m 7 #[.val (.ref ps), .val (.long (9223372036854775807 : Int64)), .second, .val (.ref b1002), .unset, .unset, .unset, .unset] []))
  refine OEnds.st (fun _ k => XS.iconst X1002.here hx rfl (hb hby d10_7) k) ?_
  show OEnds p.tables e below G (T1002.setTop (mkF m 8 #[.val (.ref ps), .val (.long (9223372036854775807 : Int64)), .second, .val (.ref b1002), .unset, .unset, .unset, .unset] [(.int (0 : Int32))]))
  refine OEnds.st (fun _ k => XS.istore X1002.here hx rfl (hb hby d10_8) rfl (l' := #[.val (.ref ps), .val (.long (9223372036854775807 : Int64)), .second, .val (.ref b1002), .val (.int (0 : Int32)), .unset, .unset, .unset]) rfl k) ?_
  show OEnds p.tables e below G (T1002.setTop (mkF m 10 #[.val (.ref ps), .val (.long (9223372036854775807 : Int64)), .second, .val (.ref b1002), .val (.int (0 : Int32)), .unset, .unset, .unset] []))
  refine OEnds.st (fun _ k => XS.iconst X1002.here hx rfl (hb hby d10_10) k) ?_
  show OEnds p.tables e below G (T1002.setTop (mkF m 11 #[.val (.ref ps), .val (.long (9223372036854775807 : Int64)), .second, .val (.ref b1002), .val (.int (0 : Int32)), .unset, .unset, .unset] [(.int (0 : Int32))]))
  refine OEnds.st (fun _ k => XS.istore X1002.here hx rfl (hb hby d10_11) rfl (l' := #[.val (.ref ps), .val (.long (9223372036854775807 : Int64)), .second, .val (.ref b1002), .val (.int (0 : Int32)), .val (.int (0 : Int32)), .unset, .unset]) rfl k) ?_
  show OEnds p.tables e below G (T1002.setTop (mkF m 13 #[.val (.ref ps), .val (.long (9223372036854775807 : Int64)), .second, .val (.ref b1002), .val (.int (0 : Int32)), .val (.int (0 : Int32)), .unset, .unset] []))
  refine OEnds.st (fun _ k => XS.iload X1002.here hx rfl (hb hby d10_13) rfl k) ?_
  show OEnds p.tables e below G (T1002.setTop (mkF m 15 #[.val (.ref ps), .val (.long (9223372036854775807 : Int64)), .second, .val (.ref b1002), .val (.int (0 : Int32)), .val (.int (0 : Int32)), .unset, .unset] [(.int (0 : Int32))]))
  refine OEnds.st (fun _ k => XS.aloadN X1002.here hx rfl (hb hby d10_15) rfl rfl k) ?_
  show OEnds p.tables e below G (T1002.setTop (mkF m 16 #[.val (.ref ps), .val (.long (9223372036854775807 : Int64)), .second, .val (.ref b1002), .val (.int (0 : Int32)), .val (.int (0 : Int32)), .unset, .unset] [(.ref ps), (.int (0 : Int32))]))
  obtain ⟨T1015, X1015, e1015, st1015⟩ := getF X1002 hx hZ hown (host := "") (Or.inl (hw _ (List.mem_of_getElem? (i := 45) rfl))) Via.refl e1002 f1010 (g := (mkF m 16 #[.val (.ref ps), .val (.long (9223372036854775807 : Int64)), .second, .val (.ref b1002), .val (.int (0 : Int32)), .val (.int (0 : Int32)), .unset, .unset] [(.ref ps), (.int (0 : Int32))])) rfl rfl (hb hby d10_16)
  refine OEnds.st st1015 ?_
  clear st1015
  show OEnds p.tables e below G (T1015.setTop (mkF m 19 #[.val (.ref ps), .val (.long (9223372036854775807 : Int64)), .second, .val (.ref b1002), .val (.int (0 : Int32)), .val (.int (0 : Int32)), .unset, .unset] [(.int (1 : Int32)), (.int (0 : Int32))]))
  refine OEnds.st (fun _ k => XS.icmpNo X1015.here hx rfl (hb hby d10_19) rfl (tlt (by decide : (0 : Int32) < (1 : Int32))).2.1 k) ?_
  show OEnds p.tables e below G (T1015.setTop (mkF m 22 #[.val (.ref ps), .val (.long (9223372036854775807 : Int64)), .second, .val (.ref b1002), .val (.int (0 : Int32)), .val (.int (0 : Int32)), .unset, .unset] []))
  refine OEnds.st (fun _ k => XS.aloadN X1015.here hx rfl (hb hby d10_22) rfl rfl k) ?_
  show OEnds p.tables e below G (T1015.setTop (mkF m 23 #[.val (.ref ps), .val (.long (9223372036854775807 : Int64)), .second, .val (.ref b1002), .val (.int (0 : Int32)), .val (.int (0 : Int32)), .unset, .unset] [(.ref ps)]))
  obtain ⟨T1016, X1016, e1016, st1016⟩ := getF X1015 hx hZ hown (host := "") (Or.inl (hw _ (List.mem_of_getElem? (i := 30) rfl))) Via.refl e1015 f1007 (g := (mkF m 23 #[.val (.ref ps), .val (.long (9223372036854775807 : Int64)), .second, .val (.ref b1002), .val (.int (0 : Int32)), .val (.int (0 : Int32)), .unset, .unset] [(.ref ps)])) rfl rfl (hb hby d10_23)
  refine OEnds.st st1016 ?_
  clear st1016
  show OEnds p.tables e below G (T1016.setTop (mkF m 26 #[.val (.ref ps), .val (.long (9223372036854775807 : Int64)), .second, .val (.ref b1002), .val (.int (0 : Int32)), .val (.int (0 : Int32)), .unset, .unset] [(.ref sa)]))
  refine OEnds.st (fun _ k => XS.aloadN X1016.here hx rfl (hb hby d10_26) rfl rfl k) ?_
  show OEnds p.tables e below G (T1016.setTop (mkF m 27 #[.val (.ref ps), .val (.long (9223372036854775807 : Int64)), .second, .val (.ref b1002), .val (.int (0 : Int32)), .val (.int (0 : Int32)), .unset, .unset] [(.ref ps), (.ref sa)]))
  obtain ⟨T1017, X1017, e1017, st1017⟩ := getF X1016 hx hZ hown (host := "") (Or.inl (hw _ (List.mem_of_getElem? (i := 33) rfl))) Via.refl e1016 f1008 (g := (mkF m 27 #[.val (.ref ps), .val (.long (9223372036854775807 : Int64)), .second, .val (.ref b1002), .val (.int (0 : Int32)), .val (.int (0 : Int32)), .unset, .unset] [(.ref ps), (.ref sa)])) rfl rfl (hb hby d10_27)
  refine OEnds.st st1017 ?_
  clear st1017
  show OEnds p.tables e below G (T1017.setTop (mkF m 30 #[.val (.ref ps), .val (.long (9223372036854775807 : Int64)), .second, .val (.ref b1002), .val (.int (0 : Int32)), .val (.int (0 : Int32)), .unset, .unset] [(.ref ta), (.ref sa)]))
  refine OEnds.st (fun _ k => XS.iload X1017.here hx rfl (hb hby d10_30) rfl k) ?_
  show OEnds p.tables e below G (T1017.setTop (mkF m 32 #[.val (.ref ps), .val (.long (9223372036854775807 : Int64)), .second, .val (.ref b1002), .val (.int (0 : Int32)), .val (.int (0 : Int32)), .unset, .unset] [(.int (0 : Int32)), (.ref ta), (.ref sa)]))
  obtain ⟨cl1018, Ar1018, q1018, S1018, N1018n, H1018, G1018⟩ := id f1013
  have hb1018 : 0 ≤ ((0 : Int32)).toInt ∧ ((0 : Int32)).toInt < C := ⟨by decide, by have q1 := hI.2.2.1; have q2 : ((1 : Int32) : Int32).toInt = 1 := (by decide); have q3 : ((0 : Int32)).toInt = 0 := (by decide); omega⟩
  have hin1018 : ¬ ((0 : Int32) < 0 ∨ cl1018.slots.size ≤ ((0 : Int32)).toNatClampNeg) := inb_of S1018 ⟨own_nl hb1018, own_lz hcz hb1018⟩
  have hat1018 : cl1018.slots[((0 : Int32)).toNatClampNeg]? = some (.int (g (0 : Int32).toNatClampNeg)) := H1018.at hin1018 (own_G_get _ (own_jl hb1018) _)
  refine OEnds.st (X1017.iaload hx (j := (0 : Int32)) (v := (.int (g (0 : Int32).toNatClampNeg))) (by rw [e1017]; exact Ar1018.1) (State.isArrayOf_alike hZ.alike Ar1018.2.1) Ar1018.2.2 hin1018 hat1018 (g := (mkF m 32 #[.val (.ref ps), .val (.long (9223372036854775807 : Int64)), .second, .val (.ref b1002), .val (.int (0 : Int32)), .val (.int (0 : Int32)), .unset, .unset] [(.int (0 : Int32)), (.ref ta), (.ref sa)])) rfl rfl (hb hby d10_32)) ?_
  show OEnds p.tables e below G (T1017.setTop (mkF m 33 #[.val (.ref ps), .val (.long (9223372036854775807 : Int64)), .second, .val (.ref b1002), .val (.int (0 : Int32)), .val (.int (0 : Int32)), .unset, .unset] [(.int (g (0 : Int32).toNatClampNeg)), (.ref sa)]))
  obtain ⟨cl1019, Ar1019, q1019, S1019, N1019n, H1019, G1019⟩ := id f1012
  have hg1019 : 0 ≤ ((g (0 : Int32).toNatClampNeg)).toInt ∧ ((g (0 : Int32).toNatClampNeg)).toInt < M := hI.2.2.2.2 0 (by decide)
  have hin1019 : ¬ ((g (0 : Int32).toNatClampNeg) < 0 ∨ cl1019.slots.size ≤ ((g (0 : Int32).toNatClampNeg)).toNatClampNeg) := inb_of S1019 ⟨own_nl hg1019, own_lz hz hg1019⟩
  have hat1019 : cl1019.slots[((g (0 : Int32).toNatClampNeg)).toNatClampNeg]? = some (.long y0) := H1019.at hin1019 ((own_T_get _ (own_jl hg1019) _).trans (congrArg Value.long hx0))
  refine OEnds.st (X1017.laload hx (j := (g (0 : Int32).toNatClampNeg)) (v := (.long y0)) (by rw [e1017]; exact Ar1019.1) (State.isArrayOf_alike hZ.alike Ar1019.2.1) Ar1019.2.2 hin1019 hat1019 (g := (mkF m 33 #[.val (.ref ps), .val (.long (9223372036854775807 : Int64)), .second, .val (.ref b1002), .val (.int (0 : Int32)), .val (.int (0 : Int32)), .unset, .unset] [(.int (g (0 : Int32).toNatClampNeg)), (.ref sa)])) rfl rfl (hb hby d10_33)) ?_
  show OEnds p.tables e below G (T1017.setTop (mkF m 34 #[.val (.ref ps), .val (.long (9223372036854775807 : Int64)), .second, .val (.ref b1002), .val (.int (0 : Int32)), .val (.int (0 : Int32)), .unset, .unset] [(.long y0)]))
  refine OEnds.st (fun _ k => XS.lstore X1017.here hx rfl (hb hby d10_34) rfl (l' := #[.val (.ref ps), .val (.long (9223372036854775807 : Int64)), .second, .val (.ref b1002), .val (.int (0 : Int32)), .val (.int (0 : Int32)), .val (.long y0), .second]) rfl k) ?_
  show OEnds p.tables e below G (T1017.setTop (mkF m 36 #[.val (.ref ps), .val (.long (9223372036854775807 : Int64)), .second, .val (.ref b1002), .val (.int (0 : Int32)), .val (.int (0 : Int32)), .val (.long y0), .second] []))
  refine OEnds.st (fun _ k => XS.lload X1017.here hx rfl (hb hby d10_36) rfl k) ?_
  show OEnds p.tables e below G (T1017.setTop (mkF m 38 #[.val (.ref ps), .val (.long (9223372036854775807 : Int64)), .second, .val (.ref b1002), .val (.int (0 : Int32)), .val (.int (0 : Int32)), .val (.long y0), .second] [(.long y0)]))
  refine OEnds.st (fun _ k => XS.lloadN X1017.here hx rfl (hb hby d10_38) rfl k) ?_
  show OEnds p.tables e below G (T1017.setTop (mkF m 39 #[.val (.ref ps), .val (.long (9223372036854775807 : Int64)), .second, .val (.ref b1002), .val (.int (0 : Int32)), .val (.int (0 : Int32)), .val (.long y0), .second] [(.long (9223372036854775807 : Int64)), (.long y0)]))
  refine OEnds.st (fun _ k => XS.lcmp X1017.here hx rfl (hb hby d10_39) rfl k) ?_
  show OEnds p.tables e below G (T1017.setTop (mkF m 40 #[.val (.ref ps), .val (.long (9223372036854775807 : Int64)), .second, .val (.ref b1002), .val (.int (0 : Int32)), .val (.int (0 : Int32)), .val (.long y0), .second] [(.int (lcmpW y0 (9223372036854775807 : Int64)))]))
  refine OEnds.st (fun _ k => XS.ifNo X1017.here hx rfl (hb hby d10_40) rfl ((if0 _ _).trans (tlt ((lw_lt y0 (9223372036854775807 : Int64)).mpr hlt0)).2.1) k) ?_
  show OEnds p.tables e below G (T1017.setTop (mkF m 43 #[.val (.ref ps), .val (.long (9223372036854775807 : Int64)), .second, .val (.ref b1002), .val (.int (0 : Int32)), .val (.int (0 : Int32)), .val (.long y0), .second] []))
  refine OEnds.st (fun _ k => XS.aloadN X1017.here hx rfl (hb hby d10_43) rfl rfl k) ?_
  show OEnds p.tables e below G (T1017.setTop (mkF m 44 #[.val (.ref ps), .val (.long (9223372036854775807 : Int64)), .second, .val (.ref b1002), .val (.int (0 : Int32)), .val (.int (0 : Int32)), .val (.long y0), .second] [(.ref b1002)]))
  refine OEnds.st (fun _ k => XS.iload X1017.here hx rfl (hb hby d10_44) rfl k) ?_
  show OEnds p.tables e below G (T1017.setTop (mkF m 46 #[.val (.ref ps), .val (.long (9223372036854775807 : Int64)), .second, .val (.ref b1002), .val (.int (0 : Int32)), .val (.int (0 : Int32)), .val (.long y0), .second] [(.int (0 : Int32)), (.ref b1002)]))
  refine OEnds.st (fun _ k => XS.iinc X1017.here hx rfl (hb hby d10_46) rfl (l' := #[.val (.ref ps), .val (.long (9223372036854775807 : Int64)), .second, .val (.ref b1002), .val (.int ((0 : Int32) + (1 : Int32))), .val (.int (0 : Int32)), .val (.long y0), .second]) rfl k) ?_
  show OEnds p.tables e below G (T1017.setTop (mkF m 49 #[.val (.ref ps), .val (.long (9223372036854775807 : Int64)), .second, .val (.ref b1002), .val (.int ((0 : Int32) + (1 : Int32))), .val (.int (0 : Int32)), .val (.long y0), .second] [(.int (0 : Int32)), (.ref b1002)]))
  rw [show ((0 : Int32) + (1 : Int32)) = (1 : Int32) from by decide]
  show OEnds p.tables e below G (T1017.setTop (mkF m 49 #[.val (.ref ps), .val (.long (9223372036854775807 : Int64)), .second, .val (.ref b1002), .val (.int (1 : Int32)), .val (.int (0 : Int32)), .val (.long y0), .second] [(.int (0 : Int32)), (.ref b1002)]))
  refine OEnds.st (fun _ k => XS.lload X1017.here hx rfl (hb hby d10_49) rfl k) ?_
  show OEnds p.tables e below G (T1017.setTop (mkF m 51 #[.val (.ref ps), .val (.long (9223372036854775807 : Int64)), .second, .val (.ref b1002), .val (.int (1 : Int32)), .val (.int (0 : Int32)), .val (.long y0), .second] [(.long y0), (.int (0 : Int32)), (.ref b1002)]))
  obtain ⟨cl1020, Ar1020, q1020, S1020, N1020n, H1020, G1020⟩ := id f1014
  have hin1020 : ¬ ((0 : Int32) < 0 ∨ cl1020.slots.size ≤ ((0 : Int32)).toNatClampNeg) := inb_of S1020 ⟨by decide, by decide⟩
  obtain ⟨T1020, h1020, X1020, e1020, W1020, st1020⟩ := stJ X1017 hx hZ e1017 Ar1020 (j := (0 : Int32)) hin1020 (g := (mkF m 51 #[.val (.ref ps), .val (.long (9223372036854775807 : Int64)), .second, .val (.ref b1002), .val (.int (1 : Int32)), .val (.int (0 : Int32)), .val (.long y0), .second] [(.long y0), (.int (0 : Int32)), (.ref b1002)])) rfl rfl (hb hby d10_51)
  refine OEnds.st st1020 ?_
  clear st1020
  have f1021 : Arv Z h1020 b1002 k1002 .long (1 : Int32) [(.long y0)] (.long (0 : Int64)) := Arv.set Ar1020 q1020 S1020 N1020n H1020 G1020 rfl W1020 0 rfl (Nat.le_of_ble_eq_true rfl)
  have f1022 : Exa Z h1020 ps "com/example/clearingd/clearingd/store/PositionSet" := f1006.wr W1020
  have f1023 : Fld Z h1020 ps "com/example/clearingd/clearingd/store/PositionSet" "slots" "[J" (.ref sa) := f1007.other W1020 (Or.inl ne1003)
  have f1024 : Fld Z h1020 ps "com/example/clearingd/clearingd/store/PositionSet" "taken" "[I" (.ref ta) := f1008.other W1020 (Or.inl ne1003)
  have f1025 : Fld Z h1020 ps "com/example/clearingd/clearingd/store/PositionSet" "capacity" "I" (.int cz) := f1009.other W1020 (Or.inl ne1003)
  have f1026 : Fld Z h1020 ps "com/example/clearingd/clearingd/store/PositionSet" "size" "I" (.int (1 : Int32)) := f1010.other W1020 (Or.inl ne1003)
  have f1027 : Fld Z h1020 ps "com/example/clearingd/clearingd/store/PositionSet" "overflowed" "Z" (.int ov) := f1011.other W1020 (Or.inl ne1003)
  have f1028 : Arv Z h1020 sa ks .long z (own_T M f) (.long (0 : Int64)) := f1012.other W1020 ne1004
  have f1029 : Arv Z h1020 ta kt .int cz (own_G C g) (.int (0 : Int32)) := f1013.other W1020 ne1005
  have N1020 := Fr.snoc X1020 N0 ge_b1002
  have KK1020 : Keep h0 h1020 [] := KK1002.wr W1020 (Or.inr sz_b1002)
  have Z1020 := Nat.le_trans Z1002 (Keep.of_wr W1020).1
  show OEnds p.tables e below G (T1020.setTop (mkF m 52 #[.val (.ref ps), .val (.long (9223372036854775807 : Int64)), .second, .val (.ref b1002), .val (.int (1 : Int32)), .val (.int (0 : Int32)), .val (.long y0), .second] []))
  refine OEnds.st (fun _ k => XS.iinc X1020.here hx rfl (hb hby d10_52) rfl (l' := #[.val (.ref ps), .val (.long (9223372036854775807 : Int64)), .second, .val (.ref b1002), .val (.int (1 : Int32)), .val (.int ((0 : Int32) + (1 : Int32))), .val (.long y0), .second]) rfl k) ?_
  show OEnds p.tables e below G (T1020.setTop (mkF m 55 #[.val (.ref ps), .val (.long (9223372036854775807 : Int64)), .second, .val (.ref b1002), .val (.int (1 : Int32)), .val (.int ((0 : Int32) + (1 : Int32))), .val (.long y0), .second] []))
  rw [show ((0 : Int32) + (1 : Int32)) = (1 : Int32) from by decide]
  show OEnds p.tables e below G (T1020.setTop (mkF m 55 #[.val (.ref ps), .val (.long (9223372036854775807 : Int64)), .second, .val (.ref b1002), .val (.int (1 : Int32)), .val (.int (1 : Int32)), .val (.long y0), .second] []))
  refine OEnds.st (fun _ k => XS.goto X1020.here hx rfl (pc0 := 55) (pc' := 13) rfl (hb hby d10_55) (by decide) (by decide) k) ?_
  show OEnds p.tables e below G (T1020.setTop (mkF m 13 #[.val (.ref ps), .val (.long (9223372036854775807 : Int64)), .second, .val (.ref b1002), .val (.int (1 : Int32)), .val (.int (1 : Int32)), .val (.long y0), .second] []))
  refine OEnds.st (fun _ k => XS.iload X1020.here hx rfl (hb hby d10_13) rfl k) ?_
  show OEnds p.tables e below G (T1020.setTop (mkF m 15 #[.val (.ref ps), .val (.long (9223372036854775807 : Int64)), .second, .val (.ref b1002), .val (.int (1 : Int32)), .val (.int (1 : Int32)), .val (.long y0), .second] [(.int (1 : Int32))]))
  refine OEnds.st (fun _ k => XS.aloadN X1020.here hx rfl (hb hby d10_15) rfl rfl k) ?_
  show OEnds p.tables e below G (T1020.setTop (mkF m 16 #[.val (.ref ps), .val (.long (9223372036854775807 : Int64)), .second, .val (.ref b1002), .val (.int (1 : Int32)), .val (.int (1 : Int32)), .val (.long y0), .second] [(.ref ps), (.int (1 : Int32))]))
  obtain ⟨T1030, X1030, e1030, st1030⟩ := getF X1020 hx hZ hown (host := "") (Or.inl (hw _ (List.mem_of_getElem? (i := 45) rfl))) Via.refl e1020 f1026 (g := (mkF m 16 #[.val (.ref ps), .val (.long (9223372036854775807 : Int64)), .second, .val (.ref b1002), .val (.int (1 : Int32)), .val (.int (1 : Int32)), .val (.long y0), .second] [(.ref ps), (.int (1 : Int32))])) rfl rfl (hb hby d10_16)
  refine OEnds.st st1030 ?_
  clear st1030
  show OEnds p.tables e below G (T1030.setTop (mkF m 19 #[.val (.ref ps), .val (.long (9223372036854775807 : Int64)), .second, .val (.ref b1002), .val (.int (1 : Int32)), .val (.int (1 : Int32)), .val (.long y0), .second] [(.int (1 : Int32)), (.int (1 : Int32))]))
  refine OEnds.st (fun _ k => XS.icmpYes X1030.here hx rfl (pc0 := 19) (pc' := 58) rfl (hb hby d10_19) rfl (flt (by decide : ¬ ((1 : Int32) < (1 : Int32)))).2.1 (by decide) (by decide) k) ?_
  show OEnds p.tables e below G (T1030.setTop (mkF m 58 #[.val (.ref ps), .val (.long (9223372036854775807 : Int64)), .second, .val (.ref b1002), .val (.int (1 : Int32)), .val (.int (1 : Int32)), .val (.long y0), .second] []))
  refine OEnds.st (fun _ k => XS.iload X1030.here hx rfl (hb hby d10_58) rfl k) ?_
  show OEnds p.tables e below G (T1030.setTop (mkF m 60 #[.val (.ref ps), .val (.long (9223372036854775807 : Int64)), .second, .val (.ref b1002), .val (.int (1 : Int32)), .val (.int (1 : Int32)), .val (.long y0), .second] [(.int (1 : Int32))]))
  refine OEnds.st (fun _ k => XS.aloadN X1030.here hx rfl (hb hby d10_60) rfl rfl k) ?_
  show OEnds p.tables e below G (T1030.setTop (mkF m 61 #[.val (.ref ps), .val (.long (9223372036854775807 : Int64)), .second, .val (.ref b1002), .val (.int (1 : Int32)), .val (.int (1 : Int32)), .val (.long y0), .second] [(.ref ps), (.int (1 : Int32))]))
  obtain ⟨T1031, X1031, e1031, st1031⟩ := getF X1030 hx hZ hown (host := "") (Or.inl (hw _ (List.mem_of_getElem? (i := 45) rfl))) Via.refl e1030 f1026 (g := (mkF m 61 #[.val (.ref ps), .val (.long (9223372036854775807 : Int64)), .second, .val (.ref b1002), .val (.int (1 : Int32)), .val (.int (1 : Int32)), .val (.long y0), .second] [(.ref ps), (.int (1 : Int32))])) rfl rfl (hb hby d10_61)
  refine OEnds.st st1031 ?_
  clear st1031
  show OEnds p.tables e below G (T1031.setTop (mkF m 64 #[.val (.ref ps), .val (.long (9223372036854775807 : Int64)), .second, .val (.ref b1002), .val (.int (1 : Int32)), .val (.int (1 : Int32)), .val (.long y0), .second] [(.int (1 : Int32)), (.int (1 : Int32))]))
  refine OEnds.st (fun _ k => XS.icmpNo X1031.here hx rfl (hb hby d10_64) rfl (teq (by decide : (1 : Int32) = (1 : Int32))).2 k) ?_
  show OEnds p.tables e below G (T1031.setTop (mkF m 67 #[.val (.ref ps), .val (.long (9223372036854775807 : Int64)), .second, .val (.ref b1002), .val (.int (1 : Int32)), .val (.int (1 : Int32)), .val (.long y0), .second] []))
  refine OEnds.st (fun _ k => XS.aloadN X1031.here hx rfl (hb hby d10_67) rfl rfl k) ?_
  show OEnds p.tables e below G (T1031.setTop (mkF m 68 #[.val (.ref ps), .val (.long (9223372036854775807 : Int64)), .second, .val (.ref b1002), .val (.int (1 : Int32)), .val (.int (1 : Int32)), .val (.long y0), .second] [(.ref b1002)]))
  refine OEnds.st (fun _ k => XS.goto X1031.here hx rfl (pc0 := 68) (pc' := 77) rfl (hb hby d10_68) (by decide) (by decide) k) ?_
  show OEnds p.tables e below G (T1031.setTop (mkF m 77 #[.val (.ref ps), .val (.long (9223372036854775807 : Int64)), .second, .val (.ref b1002), .val (.int (1 : Int32)), .val (.int (1 : Int32)), .val (.long y0), .second] [(.ref b1002)]))
  refine OEnds.st (fun _ k => XS.astore X1031.here hx rfl (hb hby d10_77) rfl rfl (l' := #[.val (.ref ps), .val (.long (9223372036854775807 : Int64)), .second, .val (.ref b1002), .val (.int (1 : Int32)), .val (.ref b1002), .val (.long y0), .second]) rfl k) ?_
  show OEnds p.tables e below G (T1031.setTop (mkF m 79 #[.val (.ref ps), .val (.long (9223372036854775807 : Int64)), .second, .val (.ref b1002), .val (.int (1 : Int32)), .val (.ref b1002), .val (.long y0), .second] []))
  refine OEnds.st (fun _ k => XS.aload X1031.here hx rfl (hb hby d10_79) rfl rfl k) ?_
  show OEnds p.tables e below G (T1031.setTop (mkF m 81 #[.val (.ref ps), .val (.long (9223372036854775807 : Int64)), .second, .val (.ref b1002), .val (.int (1 : Int32)), .val (.ref b1002), .val (.long y0), .second] [(.ref b1002)]))
  obtain ⟨_, _, ⟨T1032, L1032, k1032c, n1032c⟩, -, X1032, ⟨Lc1032, hQ1032, l1032, y1032, z1032⟩, st1032⟩ := Jvm.LawKit.callS X1031 hx (y := (⟨"java/util/Arrays", "sort", "([J)V"⟩ : MethodName)) hown (mvT hZ (hw _ (List.mem_of_getElem? (i := 59) rfl))) (mvT hZ (hw _ (List.mem_of_getElem? (i := 60) rfl))) (mvT hZ (hw _ (List.mem_of_getElem? (i := 38) rfl))) (mvT hZ (hw _ (List.mem_of_getElem? (i := 61) rfl))) (by decide) (backOf (W := 0) (rmso1 l Z a0 hw [] b1002 k1002 y0 h1020 n0 Z1020 f1021 ge_b1002) hZ (hw _ (List.mem_of_getElem? (i := 61) rfl)) (hw _ (List.mem_of_getElem? (i := 38) rfl)) (by decide) (by decide)) (g := (mkF m 81 #[.val (.ref ps), .val (.long (9223372036854775807 : Int64)), .second, .val (.ref b1002), .val (.int (1 : Int32)), .val (.ref b1002), .val (.long y0), .second] [(.ref b1002)])) rfl (by rw [hml]; rfl) (argsL := [(.ref b1002)]) (rest := []) (lenOf pd_7 rfl) rfl (by show 2 * 0 + _ ≤ _; exact Nat.le_of_eq rfl) (hb hby d10_81) (fun _ _ => ⟨rfl, e1031, (by decide : 0 + 1 + 0 ≤ _), (by decide : 0 + 1 + 0 ≤ _)⟩)
  dsimp only [Pt.U, Pt.locs, Pt.cells, Pt.slots] at X1032 l1032 y1032 z1032 st1032 hQ1032
  subst l1032 y1032 z1032
  obtain ⟨rfl, N1032q, p1033, p1034⟩ := hQ1032
  have N1032 := Fr.app N1020 N1032q
  refine OEnds.st st1032 ?_
  clear st1032
  have f1035 : Exa Z T1032.heap ps "com/example/clearingd/clearingd/store/PositionSet" := f1022.keep p1033
  have f1036 : Fld Z T1032.heap ps "com/example/clearingd/clearingd/store/PositionSet" "slots" "[J" (.ref sa) := f1023.keep p1033 (by simp only [List.mem_cons, List.not_mem_nil, or_false, not_or]; exact ne1003)
  have f1037 : Fld Z T1032.heap ps "com/example/clearingd/clearingd/store/PositionSet" "taken" "[I" (.ref ta) := f1024.keep p1033 (by simp only [List.mem_cons, List.not_mem_nil, or_false, not_or]; exact ne1003)
  have f1038 : Fld Z T1032.heap ps "com/example/clearingd/clearingd/store/PositionSet" "capacity" "I" (.int cz) := f1025.keep p1033 (by simp only [List.mem_cons, List.not_mem_nil, or_false, not_or]; exact ne1003)
  have f1039 : Fld Z T1032.heap ps "com/example/clearingd/clearingd/store/PositionSet" "size" "I" (.int (1 : Int32)) := f1026.keep p1033 (by simp only [List.mem_cons, List.not_mem_nil, or_false, not_or]; exact ne1003)
  have f1040 : Fld Z T1032.heap ps "com/example/clearingd/clearingd/store/PositionSet" "overflowed" "Z" (.int ov) := f1027.keep p1033 (by simp only [List.mem_cons, List.not_mem_nil, or_false, not_or]; exact ne1003)
  have f1041 : Arv Z T1032.heap sa ks .long z (own_T M f) (.long (0 : Int64)) := f1028.keep p1033 (by simp only [List.mem_cons, List.not_mem_nil, or_false, not_or]; exact ne1004)
  have f1042 : Arv Z T1032.heap ta kt .int cz (own_G C g) (.int (0 : Int32)) := f1029.keep p1033 (by simp only [List.mem_cons, List.not_mem_nil, or_false, not_or]; exact ne1005)
  have KK1032 : Keep h0 T1032.heap [] := KK1020.trans p1033 (fun x hx => by cases List.mem_singleton.mp hx; exact Or.inr sz_b1002)
  have Z1032 := Nat.le_trans Z1020 p1033.1
  show OEnds p.tables e below G (T1032.setTop (mkF m 84 #[.val (.ref ps), .val (.long (9223372036854775807 : Int64)), .second, .val (.ref b1002), .val (.int (1 : Int32)), .val (.ref b1002), .val (.long y0), .second] []))
  refine OEnds.st (fun _ k => XS.aload X1032.here hx rfl (hb hby d10_84) rfl rfl k) ?_
  show OEnds p.tables e below G (T1032.setTop (mkF m 86 #[.val (.ref ps), .val (.long (9223372036854775807 : Int64)), .second, .val (.ref b1002), .val (.int (1 : Int32)), .val (.ref b1002), .val (.long y0), .second] [(.ref b1002)]))
  rw [← hG]
  refine OEnds.retA X1032 hx hlk Bd.returns (by first | rfl | exact rfl) rfl (hb hby d10_86) (by decide) (by decide) ?_
  show _
  exact ⟨b1002, k1002, rfl, N1032, KK1032, sz_b1002, p1034⟩
theorem ef_sb2 (m : MethodId) (ps : Addr) : entryFrame m #[(.ref ps), (.long (9223372036854775807 : Int64))] 8 = mkF m 0 #[.val (.ref ps), .val (.long (9223372036854775807 : Int64)), .second, .unset, .unset, .unset, .unset, .unset] [] := by first | (simp [entryFrame, mkF, argsToLocals, Value.category]; done) | rfl
def Qsb2 (Z : State) (ps : Addr) (sa : Addr) (ta : Addr) (ks : ClassId) (kt : ClassId) (z : Int32) (M : Nat) (cz : Int32) (C : Nat) (f : Nat → Int64) (g : Nat → Int32) (ov : Int32) (y0 : Int64) (y1 : Int64) (h0 : Heap) (n0 : Nat) (v : Option Value) (h : Heap) (L : List Loc) : Prop := ∃ (rv : Addr) (kv : ClassId), v = some (.ref rv) ∧ Fr n0 L ∧ Keep h0 h [] ∧ h0.size ≤ rv ∧ Arv Z h rv kv .long (2 : Int32) [(.long (own_min y0 y1)), (.long (own_max y0 y1))] (.long (0 : Int64))
set_option maxRecDepth 65536 in
set_option maxHeartbeats 40000000 in
theorem rmsb2 (l : Launch) (Z : State) (a0 : Array Value) (hw : ∀ d ∈ tables_1, d.before a0 Z = true) (ws : List Jvm.Cond) (ps : Addr) (sa : Addr) (ta : Addr) (ks : ClassId) (kt : ClassId) (z : Int32) (M : Nat) (cz : Int32) (C : Nat) (f : Nat → Int64) (g : Nat → Int32) (ov : Int32) (y0 : Int64) (y1 : Int64) (h0 : Heap) (n0 : Nat) (Z0 : n0 ≤ h0.size) (E : Exa Z h0 ps "com/example/clearingd/clearingd/store/PositionSet") (Fslots : Fld Z h0 ps "com/example/clearingd/clearingd/store/PositionSet" "slots" "[J" (.ref sa)) (Ftaken : Fld Z h0 ps "com/example/clearingd/clearingd/store/PositionSet" "taken" "[I" (.ref ta)) (Fcapacity : Fld Z h0 ps "com/example/clearingd/clearingd/store/PositionSet" "capacity" "I" (.int cz)) (Fsize : Fld Z h0 ps "com/example/clearingd/clearingd/store/PositionSet" "size" "I" (.int (2 : Int32))) (Foverflowed : Fld Z h0 ps "com/example/clearingd/clearingd/store/PositionSet" "overflowed" "Z" (.int ov)) (VS : Arv Z h0 sa ks .long z (own_T M f) (.long (0 : Int64))) (VT : Arv Z h0 ta kt .int cz (own_G C g) (.int (0 : Int32))) (n1 : sa ≠ ps) (n2 : ta ≠ ps) (n3 : sa ≠ ta) (hz : z.toInt = (M : Int)) (hM : 4 ≤ M ∧ M ≤ 16) (hmk : ∀ x : Int32, (x &&& (z - (1 : Int32))).toInt = x.toInt % (M : Int)) (hcz : cz.toInt = (C : Int)) (hI : own_Inv M f g (2 : Int32) 3 C) (hx0 : (f (g (0 : Int32).toNatClampNeg).toNatClampNeg) = y0) (hx1 : (f (g (1 : Int32).toNatClampNeg).toNatClampNeg) = y1) (hlt0 : y0 < (9223372036854775807 : Int64)) (hlt1 : y1 < (9223372036854775807 : Int64)) :
    MetFree l (⟨"com/example/clearingd/clearingd/store/PositionSet", "sortedBelow", "(J)[J"⟩ : MethodName) (head1 (Jvm.Cond.code (⟨"com/example/clearingd/clearingd/store/PositionSet", "sortedBelow", "(J)[J"⟩ : MethodName) prog_44_method_4_code 8 (some (.array .long)) :: ws) ({ frames := 4, cells := 1, slots := 2, locals := 84 } : Room)) (fun a U => a = #[(.ref ps), (.long (9223372036854775807 : Int64))] ∧ Z.Warmed39 U.vm ∧ U.heap = h0) (fun _ _ _ _ _ => True) (fun _ U o U' => ∃ v L, o = .returned v ∧ Qsb2 Z ps sa ta ks kt z M cz C f g ov y0 y1 h0 n0 v U'.heap L ∧ FrameEnd U o U' L ({ frames := 4, cells := 1, slots := 2, locals := 84 } : Room).cells ({ frames := 4, cells := 1, slots := 2, locals := 84 } : Room).slots) := by
  refine MetFree.of_bodySF (plainFor_of_name pn_4) hisR ?_
  intro p e s m args below meth c s₁ Bd hml0 hP hK
  obtain ⟨rfl, hZ, hh⟩ := hP
  have hx := Bd.exec
  have hby := Bd.bytes
  have hml : c.maxLocals = 8 := hml0
  have hown : s.vm.findClass "com/example/clearingd/clearingd/store/PositionSet" = some m.cls := findClass_of_methodNamed Bd.named
  have hnm := (name_of_methodNamed Bd.named Bd.method).1
  have hlk : meth.locks = false := BodyLoose.notSynchronized Bd
  have X0 : Stand p l e ({ frames := 4, cells := 1, slots := 2, locals := 84 } : Room) s m #[(.ref ps), (.long (9223372036854775807 : Int64))] below meth c s₁ [] 0 0 := Stand.of_body Bd
  have e0 : s₁.heap = h0 := by rw [← hh, Bd.state]; rfl
  have N0 := Fr.nil n0
  show OEnds p.tables e below (OGoal (Qsb2 Z ps sa ta ks kt z M cz C f g ov y0 y1 h0 n0) s 1 2) (s₁.setTop (entryFrame m #[(.ref ps), (.long (9223372036854775807 : Int64))] 8))
  refine OEnds.st (fun t k => castTop (ef_sb2 m ps) k) ?_
  generalize hG : OGoal (Qsb2 Z ps sa ta ks kt z M cz C f g ov y0 y1 h0 n0) s 1 2 = G
  have KK0 : Keep h0 h0 [] := Keep.refl h0 []
  show OEnds p.tables e below G (s₁.setTop (mkF m 0 #[.val (.ref ps), .val (.long (9223372036854775807 : Int64)), .second, .unset, .unset, .unset, .unset, .unset] []))
  refine OEnds.st (fun _ k => XS.aloadN X0.here hx rfl (hb hby d10_0) rfl rfl k) ?_
  show OEnds p.tables e below G (s₁.setTop (mkF m 1 #[.val (.ref ps), .val (.long (9223372036854775807 : Int64)), .second, .unset, .unset, .unset, .unset, .unset] [(.ref ps)]))
  obtain ⟨T1001, X1001, e1001, st1001⟩ := getF X0 hx hZ hown (host := "") (Or.inl (hw _ (List.mem_of_getElem? (i := 45) rfl))) Via.refl e0 Fsize (g := (mkF m 1 #[.val (.ref ps), .val (.long (9223372036854775807 : Int64)), .second, .unset, .unset, .unset, .unset, .unset] [(.ref ps)])) rfl rfl (hb hby d10_1)
  refine OEnds.st st1001 ?_
  clear st1001
  show OEnds p.tables e below G (T1001.setTop (mkF m 4 #[.val (.ref ps), .val (.long (9223372036854775807 : Int64)), .second, .unset, .unset, .unset, .unset, .unset] [(.int (2 : Int32))]))
  obtain ⟨T1002, h1002, k1002, X1002, e1002, E1002, A1002, st1002⟩ := newP X1001 hx hZ (hw _ (List.mem_of_getElem? (i := 29) rfl)) e1001 (g := (mkF m 4 #[.val (.ref ps), .val (.long (9223372036854775807 : Int64)), .second, .unset, .unset, .unset, .unset, .unset] [(.int (2 : Int32))])) rfl (hb hby d10_4) rfl (by decide) (cap := 2) (by decide) (by decide) (by decide) (by decide)
  obtain ⟨b1002, g1002⟩ : ∃ z, z = h0.size := ⟨_, rfl⟩
  rw [← g1002] at A1002 st1002
  refine OEnds.st st1002 ?_
  clear st1002
  have ne1003 : ps ≠ b1002 := Nat.ne_of_lt (Nat.lt_of_lt_of_le (E).lt (Nat.le_of_eq g1002.symm))
  have ne1004 : sa ≠ b1002 := Nat.ne_of_lt (Nat.lt_of_lt_of_le (VS).lt (Nat.le_of_eq g1002.symm))
  have ne1005 : ta ≠ b1002 := Nat.ne_of_lt (Nat.lt_of_lt_of_le (VT).lt (Nat.le_of_eq g1002.symm))
  have ge_b1002 : n0 ≤ b1002 := Nat.le_trans Z0 (Nat.le_of_eq g1002.symm)
  have sz_b1002 : h0.size ≤ b1002 := Nat.le_trans KK0.1 (Nat.le_of_eq g1002.symm)
  have f1006 : Exa Z h1002 ps "com/example/clearingd/clearingd/store/PositionSet" := E.ext E1002
  have f1007 : Fld Z h1002 ps "com/example/clearingd/clearingd/store/PositionSet" "slots" "[J" (.ref sa) := Fslots.ext E1002
  have f1008 : Fld Z h1002 ps "com/example/clearingd/clearingd/store/PositionSet" "taken" "[I" (.ref ta) := Ftaken.ext E1002
  have f1009 : Fld Z h1002 ps "com/example/clearingd/clearingd/store/PositionSet" "capacity" "I" (.int cz) := Fcapacity.ext E1002
  have f1010 : Fld Z h1002 ps "com/example/clearingd/clearingd/store/PositionSet" "size" "I" (.int (2 : Int32)) := Fsize.ext E1002
  have f1011 : Fld Z h1002 ps "com/example/clearingd/clearingd/store/PositionSet" "overflowed" "Z" (.int ov) := Foverflowed.ext E1002
  have f1012 : Arv Z h1002 sa ks .long z (own_T M f) (.long (0 : Int64)) := VS.ext E1002
  have f1013 : Arv Z h1002 ta kt .int cz (own_G C g) (.int (0 : Int32)) := VT.ext E1002
  have KK1002 : Keep h0 h1002 [] := KK0.ext E1002
  have Z1002 := Nat.le_trans Z0 E1002.1
  have f1014 : Arv Z h1002 b1002 k1002 .long (2 : Int32) [(.long (0 : Int64)), (.long (0 : Int64))] (.long (0 : Int64)) := (Arv.new A1002 (by decide)).pad (pad_rep [] (.long (0 : Int64)) 2)
  show OEnds p.tables e below G (T1002.setTop (mkF m 6 #[.val (.ref ps), .val (.long (9223372036854775807 : Int64)), .second, .unset, .unset, .unset, .unset, .unset] [(.ref b1002)]))
  refine OEnds.st (fun _ k => XS.astoreN X1002.here hx rfl (hb hby d10_6) rfl rfl (l' := #[.val (.ref ps), .val (.long (9223372036854775807 : Int64)), .second, .val (.ref b1002), .unset, .unset, .unset, .unset]) rfl k) ?_
  show OEnds p.tables e below G (T1002.setTop (mkF m 7 #[.val (.ref ps), .val (.long (9223372036854775807 : Int64)), .second, .val (.ref b1002), .unset, .unset, .unset, .unset] []))
  refine OEnds.st (fun _ k => XS.iconst X1002.here hx rfl (hb hby d10_7) k) ?_
  show OEnds p.tables e below G (T1002.setTop (mkF m 8 #[.val (.ref ps), .val (.long (9223372036854775807 : Int64)), .second, .val (.ref b1002), .unset, .unset, .unset, .unset] [(.int (0 : Int32))]))
  refine OEnds.st (fun _ k => XS.istore X1002.here hx rfl (hb hby d10_8) rfl (l' := #[.val (.ref ps), .val (.long (9223372036854775807 : Int64)), .second, .val (.ref b1002), .val (.int (0 : Int32)), .unset, .unset, .unset]) rfl k) ?_
  show OEnds p.tables e below G (T1002.setTop (mkF m 10 #[.val (.ref ps), .val (.long (9223372036854775807 : Int64)), .second, .val (.ref b1002), .val (.int (0 : Int32)), .unset, .unset, .unset] []))
  refine OEnds.st (fun _ k => XS.iconst X1002.here hx rfl (hb hby d10_10) k) ?_
  show OEnds p.tables e below G (T1002.setTop (mkF m 11 #[.val (.ref ps), .val (.long (9223372036854775807 : Int64)), .second, .val (.ref b1002), .val (.int (0 : Int32)), .unset, .unset, .unset] [(.int (0 : Int32))]))
  refine OEnds.st (fun _ k => XS.istore X1002.here hx rfl (hb hby d10_11) rfl (l' := #[.val (.ref ps), .val (.long (9223372036854775807 : Int64)), .second, .val (.ref b1002), .val (.int (0 : Int32)), .val (.int (0 : Int32)), .unset, .unset]) rfl k) ?_
  show OEnds p.tables e below G (T1002.setTop (mkF m 13 #[.val (.ref ps), .val (.long (9223372036854775807 : Int64)), .second, .val (.ref b1002), .val (.int (0 : Int32)), .val (.int (0 : Int32)), .unset, .unset] []))
  refine OEnds.st (fun _ k => XS.iload X1002.here hx rfl (hb hby d10_13) rfl k) ?_
  show OEnds p.tables e below G (T1002.setTop (mkF m 15 #[.val (.ref ps), .val (.long (9223372036854775807 : Int64)), .second, .val (.ref b1002), .val (.int (0 : Int32)), .val (.int (0 : Int32)), .unset, .unset] [(.int (0 : Int32))]))
  refine OEnds.st (fun _ k => XS.aloadN X1002.here hx rfl (hb hby d10_15) rfl rfl k) ?_
  show OEnds p.tables e below G (T1002.setTop (mkF m 16 #[.val (.ref ps), .val (.long (9223372036854775807 : Int64)), .second, .val (.ref b1002), .val (.int (0 : Int32)), .val (.int (0 : Int32)), .unset, .unset] [(.ref ps), (.int (0 : Int32))]))
  obtain ⟨T1015, X1015, e1015, st1015⟩ := getF X1002 hx hZ hown (host := "") (Or.inl (hw _ (List.mem_of_getElem? (i := 45) rfl))) Via.refl e1002 f1010 (g := (mkF m 16 #[.val (.ref ps), .val (.long (9223372036854775807 : Int64)), .second, .val (.ref b1002), .val (.int (0 : Int32)), .val (.int (0 : Int32)), .unset, .unset] [(.ref ps), (.int (0 : Int32))])) rfl rfl (hb hby d10_16)
  refine OEnds.st st1015 ?_
  clear st1015
  show OEnds p.tables e below G (T1015.setTop (mkF m 19 #[.val (.ref ps), .val (.long (9223372036854775807 : Int64)), .second, .val (.ref b1002), .val (.int (0 : Int32)), .val (.int (0 : Int32)), .unset, .unset] [(.int (2 : Int32)), (.int (0 : Int32))]))
  refine OEnds.st (fun _ k => XS.icmpNo X1015.here hx rfl (hb hby d10_19) rfl (tlt (by decide : (0 : Int32) < (2 : Int32))).2.1 k) ?_
  show OEnds p.tables e below G (T1015.setTop (mkF m 22 #[.val (.ref ps), .val (.long (9223372036854775807 : Int64)), .second, .val (.ref b1002), .val (.int (0 : Int32)), .val (.int (0 : Int32)), .unset, .unset] []))
  refine OEnds.st (fun _ k => XS.aloadN X1015.here hx rfl (hb hby d10_22) rfl rfl k) ?_
  show OEnds p.tables e below G (T1015.setTop (mkF m 23 #[.val (.ref ps), .val (.long (9223372036854775807 : Int64)), .second, .val (.ref b1002), .val (.int (0 : Int32)), .val (.int (0 : Int32)), .unset, .unset] [(.ref ps)]))
  obtain ⟨T1016, X1016, e1016, st1016⟩ := getF X1015 hx hZ hown (host := "") (Or.inl (hw _ (List.mem_of_getElem? (i := 30) rfl))) Via.refl e1015 f1007 (g := (mkF m 23 #[.val (.ref ps), .val (.long (9223372036854775807 : Int64)), .second, .val (.ref b1002), .val (.int (0 : Int32)), .val (.int (0 : Int32)), .unset, .unset] [(.ref ps)])) rfl rfl (hb hby d10_23)
  refine OEnds.st st1016 ?_
  clear st1016
  show OEnds p.tables e below G (T1016.setTop (mkF m 26 #[.val (.ref ps), .val (.long (9223372036854775807 : Int64)), .second, .val (.ref b1002), .val (.int (0 : Int32)), .val (.int (0 : Int32)), .unset, .unset] [(.ref sa)]))
  refine OEnds.st (fun _ k => XS.aloadN X1016.here hx rfl (hb hby d10_26) rfl rfl k) ?_
  show OEnds p.tables e below G (T1016.setTop (mkF m 27 #[.val (.ref ps), .val (.long (9223372036854775807 : Int64)), .second, .val (.ref b1002), .val (.int (0 : Int32)), .val (.int (0 : Int32)), .unset, .unset] [(.ref ps), (.ref sa)]))
  obtain ⟨T1017, X1017, e1017, st1017⟩ := getF X1016 hx hZ hown (host := "") (Or.inl (hw _ (List.mem_of_getElem? (i := 33) rfl))) Via.refl e1016 f1008 (g := (mkF m 27 #[.val (.ref ps), .val (.long (9223372036854775807 : Int64)), .second, .val (.ref b1002), .val (.int (0 : Int32)), .val (.int (0 : Int32)), .unset, .unset] [(.ref ps), (.ref sa)])) rfl rfl (hb hby d10_27)
  refine OEnds.st st1017 ?_
  clear st1017
  show OEnds p.tables e below G (T1017.setTop (mkF m 30 #[.val (.ref ps), .val (.long (9223372036854775807 : Int64)), .second, .val (.ref b1002), .val (.int (0 : Int32)), .val (.int (0 : Int32)), .unset, .unset] [(.ref ta), (.ref sa)]))
  refine OEnds.st (fun _ k => XS.iload X1017.here hx rfl (hb hby d10_30) rfl k) ?_
  show OEnds p.tables e below G (T1017.setTop (mkF m 32 #[.val (.ref ps), .val (.long (9223372036854775807 : Int64)), .second, .val (.ref b1002), .val (.int (0 : Int32)), .val (.int (0 : Int32)), .unset, .unset] [(.int (0 : Int32)), (.ref ta), (.ref sa)]))
  obtain ⟨cl1018, Ar1018, q1018, S1018, N1018n, H1018, G1018⟩ := id f1013
  have hb1018 : 0 ≤ ((0 : Int32)).toInt ∧ ((0 : Int32)).toInt < C := ⟨by decide, by have q1 := hI.2.2.1; have q2 : ((2 : Int32) : Int32).toInt = 2 := (by decide); have q3 : ((0 : Int32)).toInt = 0 := (by decide); omega⟩
  have hin1018 : ¬ ((0 : Int32) < 0 ∨ cl1018.slots.size ≤ ((0 : Int32)).toNatClampNeg) := inb_of S1018 ⟨own_nl hb1018, own_lz hcz hb1018⟩
  have hat1018 : cl1018.slots[((0 : Int32)).toNatClampNeg]? = some (.int (g (0 : Int32).toNatClampNeg)) := H1018.at hin1018 (own_G_get _ (own_jl hb1018) _)
  refine OEnds.st (X1017.iaload hx (j := (0 : Int32)) (v := (.int (g (0 : Int32).toNatClampNeg))) (by rw [e1017]; exact Ar1018.1) (State.isArrayOf_alike hZ.alike Ar1018.2.1) Ar1018.2.2 hin1018 hat1018 (g := (mkF m 32 #[.val (.ref ps), .val (.long (9223372036854775807 : Int64)), .second, .val (.ref b1002), .val (.int (0 : Int32)), .val (.int (0 : Int32)), .unset, .unset] [(.int (0 : Int32)), (.ref ta), (.ref sa)])) rfl rfl (hb hby d10_32)) ?_
  show OEnds p.tables e below G (T1017.setTop (mkF m 33 #[.val (.ref ps), .val (.long (9223372036854775807 : Int64)), .second, .val (.ref b1002), .val (.int (0 : Int32)), .val (.int (0 : Int32)), .unset, .unset] [(.int (g (0 : Int32).toNatClampNeg)), (.ref sa)]))
  obtain ⟨cl1019, Ar1019, q1019, S1019, N1019n, H1019, G1019⟩ := id f1012
  have hg1019 : 0 ≤ ((g (0 : Int32).toNatClampNeg)).toInt ∧ ((g (0 : Int32).toNatClampNeg)).toInt < M := hI.2.2.2.2 0 (by decide)
  have hin1019 : ¬ ((g (0 : Int32).toNatClampNeg) < 0 ∨ cl1019.slots.size ≤ ((g (0 : Int32).toNatClampNeg)).toNatClampNeg) := inb_of S1019 ⟨own_nl hg1019, own_lz hz hg1019⟩
  have hat1019 : cl1019.slots[((g (0 : Int32).toNatClampNeg)).toNatClampNeg]? = some (.long y0) := H1019.at hin1019 ((own_T_get _ (own_jl hg1019) _).trans (congrArg Value.long hx0))
  refine OEnds.st (X1017.laload hx (j := (g (0 : Int32).toNatClampNeg)) (v := (.long y0)) (by rw [e1017]; exact Ar1019.1) (State.isArrayOf_alike hZ.alike Ar1019.2.1) Ar1019.2.2 hin1019 hat1019 (g := (mkF m 33 #[.val (.ref ps), .val (.long (9223372036854775807 : Int64)), .second, .val (.ref b1002), .val (.int (0 : Int32)), .val (.int (0 : Int32)), .unset, .unset] [(.int (g (0 : Int32).toNatClampNeg)), (.ref sa)])) rfl rfl (hb hby d10_33)) ?_
  show OEnds p.tables e below G (T1017.setTop (mkF m 34 #[.val (.ref ps), .val (.long (9223372036854775807 : Int64)), .second, .val (.ref b1002), .val (.int (0 : Int32)), .val (.int (0 : Int32)), .unset, .unset] [(.long y0)]))
  refine OEnds.st (fun _ k => XS.lstore X1017.here hx rfl (hb hby d10_34) rfl (l' := #[.val (.ref ps), .val (.long (9223372036854775807 : Int64)), .second, .val (.ref b1002), .val (.int (0 : Int32)), .val (.int (0 : Int32)), .val (.long y0), .second]) rfl k) ?_
  show OEnds p.tables e below G (T1017.setTop (mkF m 36 #[.val (.ref ps), .val (.long (9223372036854775807 : Int64)), .second, .val (.ref b1002), .val (.int (0 : Int32)), .val (.int (0 : Int32)), .val (.long y0), .second] []))
  refine OEnds.st (fun _ k => XS.lload X1017.here hx rfl (hb hby d10_36) rfl k) ?_
  show OEnds p.tables e below G (T1017.setTop (mkF m 38 #[.val (.ref ps), .val (.long (9223372036854775807 : Int64)), .second, .val (.ref b1002), .val (.int (0 : Int32)), .val (.int (0 : Int32)), .val (.long y0), .second] [(.long y0)]))
  refine OEnds.st (fun _ k => XS.lloadN X1017.here hx rfl (hb hby d10_38) rfl k) ?_
  show OEnds p.tables e below G (T1017.setTop (mkF m 39 #[.val (.ref ps), .val (.long (9223372036854775807 : Int64)), .second, .val (.ref b1002), .val (.int (0 : Int32)), .val (.int (0 : Int32)), .val (.long y0), .second] [(.long (9223372036854775807 : Int64)), (.long y0)]))
  refine OEnds.st (fun _ k => XS.lcmp X1017.here hx rfl (hb hby d10_39) rfl k) ?_
  show OEnds p.tables e below G (T1017.setTop (mkF m 40 #[.val (.ref ps), .val (.long (9223372036854775807 : Int64)), .second, .val (.ref b1002), .val (.int (0 : Int32)), .val (.int (0 : Int32)), .val (.long y0), .second] [(.int (lcmpW y0 (9223372036854775807 : Int64)))]))
  refine OEnds.st (fun _ k => XS.ifNo X1017.here hx rfl (hb hby d10_40) rfl ((if0 _ _).trans (tlt ((lw_lt y0 (9223372036854775807 : Int64)).mpr hlt0)).2.1) k) ?_
  show OEnds p.tables e below G (T1017.setTop (mkF m 43 #[.val (.ref ps), .val (.long (9223372036854775807 : Int64)), .second, .val (.ref b1002), .val (.int (0 : Int32)), .val (.int (0 : Int32)), .val (.long y0), .second] []))
  refine OEnds.st (fun _ k => XS.aloadN X1017.here hx rfl (hb hby d10_43) rfl rfl k) ?_
  show OEnds p.tables e below G (T1017.setTop (mkF m 44 #[.val (.ref ps), .val (.long (9223372036854775807 : Int64)), .second, .val (.ref b1002), .val (.int (0 : Int32)), .val (.int (0 : Int32)), .val (.long y0), .second] [(.ref b1002)]))
  refine OEnds.st (fun _ k => XS.iload X1017.here hx rfl (hb hby d10_44) rfl k) ?_
  show OEnds p.tables e below G (T1017.setTop (mkF m 46 #[.val (.ref ps), .val (.long (9223372036854775807 : Int64)), .second, .val (.ref b1002), .val (.int (0 : Int32)), .val (.int (0 : Int32)), .val (.long y0), .second] [(.int (0 : Int32)), (.ref b1002)]))
  refine OEnds.st (fun _ k => XS.iinc X1017.here hx rfl (hb hby d10_46) rfl (l' := #[.val (.ref ps), .val (.long (9223372036854775807 : Int64)), .second, .val (.ref b1002), .val (.int ((0 : Int32) + (1 : Int32))), .val (.int (0 : Int32)), .val (.long y0), .second]) rfl k) ?_
  show OEnds p.tables e below G (T1017.setTop (mkF m 49 #[.val (.ref ps), .val (.long (9223372036854775807 : Int64)), .second, .val (.ref b1002), .val (.int ((0 : Int32) + (1 : Int32))), .val (.int (0 : Int32)), .val (.long y0), .second] [(.int (0 : Int32)), (.ref b1002)]))
  rw [show ((0 : Int32) + (1 : Int32)) = (1 : Int32) from by decide]
  show OEnds p.tables e below G (T1017.setTop (mkF m 49 #[.val (.ref ps), .val (.long (9223372036854775807 : Int64)), .second, .val (.ref b1002), .val (.int (1 : Int32)), .val (.int (0 : Int32)), .val (.long y0), .second] [(.int (0 : Int32)), (.ref b1002)]))
  refine OEnds.st (fun _ k => XS.lload X1017.here hx rfl (hb hby d10_49) rfl k) ?_
  show OEnds p.tables e below G (T1017.setTop (mkF m 51 #[.val (.ref ps), .val (.long (9223372036854775807 : Int64)), .second, .val (.ref b1002), .val (.int (1 : Int32)), .val (.int (0 : Int32)), .val (.long y0), .second] [(.long y0), (.int (0 : Int32)), (.ref b1002)]))
  obtain ⟨cl1020, Ar1020, q1020, S1020, N1020n, H1020, G1020⟩ := id f1014
  have hin1020 : ¬ ((0 : Int32) < 0 ∨ cl1020.slots.size ≤ ((0 : Int32)).toNatClampNeg) := inb_of S1020 ⟨by decide, by decide⟩
  obtain ⟨T1020, h1020, X1020, e1020, W1020, st1020⟩ := stJ X1017 hx hZ e1017 Ar1020 (j := (0 : Int32)) hin1020 (g := (mkF m 51 #[.val (.ref ps), .val (.long (9223372036854775807 : Int64)), .second, .val (.ref b1002), .val (.int (1 : Int32)), .val (.int (0 : Int32)), .val (.long y0), .second] [(.long y0), (.int (0 : Int32)), (.ref b1002)])) rfl rfl (hb hby d10_51)
  refine OEnds.st st1020 ?_
  clear st1020
  have f1021 : Arv Z h1020 b1002 k1002 .long (2 : Int32) [(.long y0), (.long (0 : Int64))] (.long (0 : Int64)) := Arv.set Ar1020 q1020 S1020 N1020n H1020 G1020 rfl W1020 0 rfl (Nat.le_of_ble_eq_true rfl)
  have f1022 : Exa Z h1020 ps "com/example/clearingd/clearingd/store/PositionSet" := f1006.wr W1020
  have f1023 : Fld Z h1020 ps "com/example/clearingd/clearingd/store/PositionSet" "slots" "[J" (.ref sa) := f1007.other W1020 (Or.inl ne1003)
  have f1024 : Fld Z h1020 ps "com/example/clearingd/clearingd/store/PositionSet" "taken" "[I" (.ref ta) := f1008.other W1020 (Or.inl ne1003)
  have f1025 : Fld Z h1020 ps "com/example/clearingd/clearingd/store/PositionSet" "capacity" "I" (.int cz) := f1009.other W1020 (Or.inl ne1003)
  have f1026 : Fld Z h1020 ps "com/example/clearingd/clearingd/store/PositionSet" "size" "I" (.int (2 : Int32)) := f1010.other W1020 (Or.inl ne1003)
  have f1027 : Fld Z h1020 ps "com/example/clearingd/clearingd/store/PositionSet" "overflowed" "Z" (.int ov) := f1011.other W1020 (Or.inl ne1003)
  have f1028 : Arv Z h1020 sa ks .long z (own_T M f) (.long (0 : Int64)) := f1012.other W1020 ne1004
  have f1029 : Arv Z h1020 ta kt .int cz (own_G C g) (.int (0 : Int32)) := f1013.other W1020 ne1005
  have N1020 := Fr.snoc X1020 N0 ge_b1002
  have KK1020 : Keep h0 h1020 [] := KK1002.wr W1020 (Or.inr sz_b1002)
  have Z1020 := Nat.le_trans Z1002 (Keep.of_wr W1020).1
  show OEnds p.tables e below G (T1020.setTop (mkF m 52 #[.val (.ref ps), .val (.long (9223372036854775807 : Int64)), .second, .val (.ref b1002), .val (.int (1 : Int32)), .val (.int (0 : Int32)), .val (.long y0), .second] []))
  refine OEnds.st (fun _ k => XS.iinc X1020.here hx rfl (hb hby d10_52) rfl (l' := #[.val (.ref ps), .val (.long (9223372036854775807 : Int64)), .second, .val (.ref b1002), .val (.int (1 : Int32)), .val (.int ((0 : Int32) + (1 : Int32))), .val (.long y0), .second]) rfl k) ?_
  show OEnds p.tables e below G (T1020.setTop (mkF m 55 #[.val (.ref ps), .val (.long (9223372036854775807 : Int64)), .second, .val (.ref b1002), .val (.int (1 : Int32)), .val (.int ((0 : Int32) + (1 : Int32))), .val (.long y0), .second] []))
  rw [show ((0 : Int32) + (1 : Int32)) = (1 : Int32) from by decide]
  show OEnds p.tables e below G (T1020.setTop (mkF m 55 #[.val (.ref ps), .val (.long (9223372036854775807 : Int64)), .second, .val (.ref b1002), .val (.int (1 : Int32)), .val (.int (1 : Int32)), .val (.long y0), .second] []))
  refine OEnds.st (fun _ k => XS.goto X1020.here hx rfl (pc0 := 55) (pc' := 13) rfl (hb hby d10_55) (by decide) (by decide) k) ?_
  show OEnds p.tables e below G (T1020.setTop (mkF m 13 #[.val (.ref ps), .val (.long (9223372036854775807 : Int64)), .second, .val (.ref b1002), .val (.int (1 : Int32)), .val (.int (1 : Int32)), .val (.long y0), .second] []))
  refine OEnds.st (fun _ k => XS.iload X1020.here hx rfl (hb hby d10_13) rfl k) ?_
  show OEnds p.tables e below G (T1020.setTop (mkF m 15 #[.val (.ref ps), .val (.long (9223372036854775807 : Int64)), .second, .val (.ref b1002), .val (.int (1 : Int32)), .val (.int (1 : Int32)), .val (.long y0), .second] [(.int (1 : Int32))]))
  refine OEnds.st (fun _ k => XS.aloadN X1020.here hx rfl (hb hby d10_15) rfl rfl k) ?_
  show OEnds p.tables e below G (T1020.setTop (mkF m 16 #[.val (.ref ps), .val (.long (9223372036854775807 : Int64)), .second, .val (.ref b1002), .val (.int (1 : Int32)), .val (.int (1 : Int32)), .val (.long y0), .second] [(.ref ps), (.int (1 : Int32))]))
  obtain ⟨T1030, X1030, e1030, st1030⟩ := getF X1020 hx hZ hown (host := "") (Or.inl (hw _ (List.mem_of_getElem? (i := 45) rfl))) Via.refl e1020 f1026 (g := (mkF m 16 #[.val (.ref ps), .val (.long (9223372036854775807 : Int64)), .second, .val (.ref b1002), .val (.int (1 : Int32)), .val (.int (1 : Int32)), .val (.long y0), .second] [(.ref ps), (.int (1 : Int32))])) rfl rfl (hb hby d10_16)
  refine OEnds.st st1030 ?_
  clear st1030
  show OEnds p.tables e below G (T1030.setTop (mkF m 19 #[.val (.ref ps), .val (.long (9223372036854775807 : Int64)), .second, .val (.ref b1002), .val (.int (1 : Int32)), .val (.int (1 : Int32)), .val (.long y0), .second] [(.int (2 : Int32)), (.int (1 : Int32))]))
  refine OEnds.st (fun _ k => XS.icmpNo X1030.here hx rfl (hb hby d10_19) rfl (tlt (by decide : (1 : Int32) < (2 : Int32))).2.1 k) ?_
  show OEnds p.tables e below G (T1030.setTop (mkF m 22 #[.val (.ref ps), .val (.long (9223372036854775807 : Int64)), .second, .val (.ref b1002), .val (.int (1 : Int32)), .val (.int (1 : Int32)), .val (.long y0), .second] []))
  refine OEnds.st (fun _ k => XS.aloadN X1030.here hx rfl (hb hby d10_22) rfl rfl k) ?_
  show OEnds p.tables e below G (T1030.setTop (mkF m 23 #[.val (.ref ps), .val (.long (9223372036854775807 : Int64)), .second, .val (.ref b1002), .val (.int (1 : Int32)), .val (.int (1 : Int32)), .val (.long y0), .second] [(.ref ps)]))
  obtain ⟨T1031, X1031, e1031, st1031⟩ := getF X1030 hx hZ hown (host := "") (Or.inl (hw _ (List.mem_of_getElem? (i := 30) rfl))) Via.refl e1030 f1023 (g := (mkF m 23 #[.val (.ref ps), .val (.long (9223372036854775807 : Int64)), .second, .val (.ref b1002), .val (.int (1 : Int32)), .val (.int (1 : Int32)), .val (.long y0), .second] [(.ref ps)])) rfl rfl (hb hby d10_23)
  refine OEnds.st st1031 ?_
  clear st1031
  show OEnds p.tables e below G (T1031.setTop (mkF m 26 #[.val (.ref ps), .val (.long (9223372036854775807 : Int64)), .second, .val (.ref b1002), .val (.int (1 : Int32)), .val (.int (1 : Int32)), .val (.long y0), .second] [(.ref sa)]))
  refine OEnds.st (fun _ k => XS.aloadN X1031.here hx rfl (hb hby d10_26) rfl rfl k) ?_
  show OEnds p.tables e below G (T1031.setTop (mkF m 27 #[.val (.ref ps), .val (.long (9223372036854775807 : Int64)), .second, .val (.ref b1002), .val (.int (1 : Int32)), .val (.int (1 : Int32)), .val (.long y0), .second] [(.ref ps), (.ref sa)]))
  obtain ⟨T1032, X1032, e1032, st1032⟩ := getF X1031 hx hZ hown (host := "") (Or.inl (hw _ (List.mem_of_getElem? (i := 33) rfl))) Via.refl e1031 f1024 (g := (mkF m 27 #[.val (.ref ps), .val (.long (9223372036854775807 : Int64)), .second, .val (.ref b1002), .val (.int (1 : Int32)), .val (.int (1 : Int32)), .val (.long y0), .second] [(.ref ps), (.ref sa)])) rfl rfl (hb hby d10_27)
  refine OEnds.st st1032 ?_
  clear st1032
  show OEnds p.tables e below G (T1032.setTop (mkF m 30 #[.val (.ref ps), .val (.long (9223372036854775807 : Int64)), .second, .val (.ref b1002), .val (.int (1 : Int32)), .val (.int (1 : Int32)), .val (.long y0), .second] [(.ref ta), (.ref sa)]))
  refine OEnds.st (fun _ k => XS.iload X1032.here hx rfl (hb hby d10_30) rfl k) ?_
  show OEnds p.tables e below G (T1032.setTop (mkF m 32 #[.val (.ref ps), .val (.long (9223372036854775807 : Int64)), .second, .val (.ref b1002), .val (.int (1 : Int32)), .val (.int (1 : Int32)), .val (.long y0), .second] [(.int (1 : Int32)), (.ref ta), (.ref sa)]))
  obtain ⟨cl1033, Ar1033, q1033, S1033, N1033n, H1033, G1033⟩ := id f1029
  have hb1033 : 0 ≤ ((1 : Int32)).toInt ∧ ((1 : Int32)).toInt < C := ⟨by decide, by have q1 := hI.2.2.1; have q2 : ((2 : Int32) : Int32).toInt = 2 := (by decide); have q3 : ((1 : Int32)).toInt = 1 := (by decide); omega⟩
  have hin1033 : ¬ ((1 : Int32) < 0 ∨ cl1033.slots.size ≤ ((1 : Int32)).toNatClampNeg) := inb_of S1033 ⟨own_nl hb1033, own_lz hcz hb1033⟩
  have hat1033 : cl1033.slots[((1 : Int32)).toNatClampNeg]? = some (.int (g (1 : Int32).toNatClampNeg)) := H1033.at hin1033 (own_G_get _ (own_jl hb1033) _)
  refine OEnds.st (X1032.iaload hx (j := (1 : Int32)) (v := (.int (g (1 : Int32).toNatClampNeg))) (by rw [e1032]; exact Ar1033.1) (State.isArrayOf_alike hZ.alike Ar1033.2.1) Ar1033.2.2 hin1033 hat1033 (g := (mkF m 32 #[.val (.ref ps), .val (.long (9223372036854775807 : Int64)), .second, .val (.ref b1002), .val (.int (1 : Int32)), .val (.int (1 : Int32)), .val (.long y0), .second] [(.int (1 : Int32)), (.ref ta), (.ref sa)])) rfl rfl (hb hby d10_32)) ?_
  show OEnds p.tables e below G (T1032.setTop (mkF m 33 #[.val (.ref ps), .val (.long (9223372036854775807 : Int64)), .second, .val (.ref b1002), .val (.int (1 : Int32)), .val (.int (1 : Int32)), .val (.long y0), .second] [(.int (g (1 : Int32).toNatClampNeg)), (.ref sa)]))
  obtain ⟨cl1034, Ar1034, q1034, S1034, N1034n, H1034, G1034⟩ := id f1028
  have hg1034 : 0 ≤ ((g (1 : Int32).toNatClampNeg)).toInt ∧ ((g (1 : Int32).toNatClampNeg)).toInt < M := hI.2.2.2.2 1 (by decide)
  have hin1034 : ¬ ((g (1 : Int32).toNatClampNeg) < 0 ∨ cl1034.slots.size ≤ ((g (1 : Int32).toNatClampNeg)).toNatClampNeg) := inb_of S1034 ⟨own_nl hg1034, own_lz hz hg1034⟩
  have hat1034 : cl1034.slots[((g (1 : Int32).toNatClampNeg)).toNatClampNeg]? = some (.long y1) := H1034.at hin1034 ((own_T_get _ (own_jl hg1034) _).trans (congrArg Value.long hx1))
  refine OEnds.st (X1032.laload hx (j := (g (1 : Int32).toNatClampNeg)) (v := (.long y1)) (by rw [e1032]; exact Ar1034.1) (State.isArrayOf_alike hZ.alike Ar1034.2.1) Ar1034.2.2 hin1034 hat1034 (g := (mkF m 33 #[.val (.ref ps), .val (.long (9223372036854775807 : Int64)), .second, .val (.ref b1002), .val (.int (1 : Int32)), .val (.int (1 : Int32)), .val (.long y0), .second] [(.int (g (1 : Int32).toNatClampNeg)), (.ref sa)])) rfl rfl (hb hby d10_33)) ?_
  show OEnds p.tables e below G (T1032.setTop (mkF m 34 #[.val (.ref ps), .val (.long (9223372036854775807 : Int64)), .second, .val (.ref b1002), .val (.int (1 : Int32)), .val (.int (1 : Int32)), .val (.long y0), .second] [(.long y1)]))
  refine OEnds.st (fun _ k => XS.lstore X1032.here hx rfl (hb hby d10_34) rfl (l' := #[.val (.ref ps), .val (.long (9223372036854775807 : Int64)), .second, .val (.ref b1002), .val (.int (1 : Int32)), .val (.int (1 : Int32)), .val (.long y1), .second]) rfl k) ?_
  show OEnds p.tables e below G (T1032.setTop (mkF m 36 #[.val (.ref ps), .val (.long (9223372036854775807 : Int64)), .second, .val (.ref b1002), .val (.int (1 : Int32)), .val (.int (1 : Int32)), .val (.long y1), .second] []))
  refine OEnds.st (fun _ k => XS.lload X1032.here hx rfl (hb hby d10_36) rfl k) ?_
  show OEnds p.tables e below G (T1032.setTop (mkF m 38 #[.val (.ref ps), .val (.long (9223372036854775807 : Int64)), .second, .val (.ref b1002), .val (.int (1 : Int32)), .val (.int (1 : Int32)), .val (.long y1), .second] [(.long y1)]))
  refine OEnds.st (fun _ k => XS.lloadN X1032.here hx rfl (hb hby d10_38) rfl k) ?_
  show OEnds p.tables e below G (T1032.setTop (mkF m 39 #[.val (.ref ps), .val (.long (9223372036854775807 : Int64)), .second, .val (.ref b1002), .val (.int (1 : Int32)), .val (.int (1 : Int32)), .val (.long y1), .second] [(.long (9223372036854775807 : Int64)), (.long y1)]))
  refine OEnds.st (fun _ k => XS.lcmp X1032.here hx rfl (hb hby d10_39) rfl k) ?_
  show OEnds p.tables e below G (T1032.setTop (mkF m 40 #[.val (.ref ps), .val (.long (9223372036854775807 : Int64)), .second, .val (.ref b1002), .val (.int (1 : Int32)), .val (.int (1 : Int32)), .val (.long y1), .second] [(.int (lcmpW y1 (9223372036854775807 : Int64)))]))
  refine OEnds.st (fun _ k => XS.ifNo X1032.here hx rfl (hb hby d10_40) rfl ((if0 _ _).trans (tlt ((lw_lt y1 (9223372036854775807 : Int64)).mpr hlt1)).2.1) k) ?_
  show OEnds p.tables e below G (T1032.setTop (mkF m 43 #[.val (.ref ps), .val (.long (9223372036854775807 : Int64)), .second, .val (.ref b1002), .val (.int (1 : Int32)), .val (.int (1 : Int32)), .val (.long y1), .second] []))
  refine OEnds.st (fun _ k => XS.aloadN X1032.here hx rfl (hb hby d10_43) rfl rfl k) ?_
  show OEnds p.tables e below G (T1032.setTop (mkF m 44 #[.val (.ref ps), .val (.long (9223372036854775807 : Int64)), .second, .val (.ref b1002), .val (.int (1 : Int32)), .val (.int (1 : Int32)), .val (.long y1), .second] [(.ref b1002)]))
  refine OEnds.st (fun _ k => XS.iload X1032.here hx rfl (hb hby d10_44) rfl k) ?_
  show OEnds p.tables e below G (T1032.setTop (mkF m 46 #[.val (.ref ps), .val (.long (9223372036854775807 : Int64)), .second, .val (.ref b1002), .val (.int (1 : Int32)), .val (.int (1 : Int32)), .val (.long y1), .second] [(.int (1 : Int32)), (.ref b1002)]))
  refine OEnds.st (fun _ k => XS.iinc X1032.here hx rfl (hb hby d10_46) rfl (l' := #[.val (.ref ps), .val (.long (9223372036854775807 : Int64)), .second, .val (.ref b1002), .val (.int ((1 : Int32) + (1 : Int32))), .val (.int (1 : Int32)), .val (.long y1), .second]) rfl k) ?_
  show OEnds p.tables e below G (T1032.setTop (mkF m 49 #[.val (.ref ps), .val (.long (9223372036854775807 : Int64)), .second, .val (.ref b1002), .val (.int ((1 : Int32) + (1 : Int32))), .val (.int (1 : Int32)), .val (.long y1), .second] [(.int (1 : Int32)), (.ref b1002)]))
  rw [show ((1 : Int32) + (1 : Int32)) = (2 : Int32) from by decide]
  show OEnds p.tables e below G (T1032.setTop (mkF m 49 #[.val (.ref ps), .val (.long (9223372036854775807 : Int64)), .second, .val (.ref b1002), .val (.int (2 : Int32)), .val (.int (1 : Int32)), .val (.long y1), .second] [(.int (1 : Int32)), (.ref b1002)]))
  refine OEnds.st (fun _ k => XS.lload X1032.here hx rfl (hb hby d10_49) rfl k) ?_
  show OEnds p.tables e below G (T1032.setTop (mkF m 51 #[.val (.ref ps), .val (.long (9223372036854775807 : Int64)), .second, .val (.ref b1002), .val (.int (2 : Int32)), .val (.int (1 : Int32)), .val (.long y1), .second] [(.long y1), (.int (1 : Int32)), (.ref b1002)]))
  obtain ⟨cl1035, Ar1035, q1035, S1035, N1035n, H1035, G1035⟩ := id f1021
  have hin1035 : ¬ ((1 : Int32) < 0 ∨ cl1035.slots.size ≤ ((1 : Int32)).toNatClampNeg) := inb_of S1035 ⟨by decide, by decide⟩
  obtain ⟨T1035, h1035, X1035, e1035, W1035, st1035⟩ := stJ X1032 hx hZ e1032 Ar1035 (j := (1 : Int32)) hin1035 (g := (mkF m 51 #[.val (.ref ps), .val (.long (9223372036854775807 : Int64)), .second, .val (.ref b1002), .val (.int (2 : Int32)), .val (.int (1 : Int32)), .val (.long y1), .second] [(.long y1), (.int (1 : Int32)), (.ref b1002)])) rfl rfl (hb hby d10_51)
  refine OEnds.st st1035 ?_
  clear st1035
  have f1036 : Arv Z h1035 b1002 k1002 .long (2 : Int32) [(.long y0), (.long y1)] (.long (0 : Int64)) := Arv.set Ar1035 q1035 S1035 N1035n H1035 G1035 rfl W1035 1 rfl (Nat.le_of_ble_eq_true rfl)
  have f1037 : Exa Z h1035 ps "com/example/clearingd/clearingd/store/PositionSet" := f1022.wr W1035
  have f1038 : Fld Z h1035 ps "com/example/clearingd/clearingd/store/PositionSet" "slots" "[J" (.ref sa) := f1023.other W1035 (Or.inl ne1003)
  have f1039 : Fld Z h1035 ps "com/example/clearingd/clearingd/store/PositionSet" "taken" "[I" (.ref ta) := f1024.other W1035 (Or.inl ne1003)
  have f1040 : Fld Z h1035 ps "com/example/clearingd/clearingd/store/PositionSet" "capacity" "I" (.int cz) := f1025.other W1035 (Or.inl ne1003)
  have f1041 : Fld Z h1035 ps "com/example/clearingd/clearingd/store/PositionSet" "size" "I" (.int (2 : Int32)) := f1026.other W1035 (Or.inl ne1003)
  have f1042 : Fld Z h1035 ps "com/example/clearingd/clearingd/store/PositionSet" "overflowed" "Z" (.int ov) := f1027.other W1035 (Or.inl ne1003)
  have f1043 : Arv Z h1035 sa ks .long z (own_T M f) (.long (0 : Int64)) := f1028.other W1035 ne1004
  have f1044 : Arv Z h1035 ta kt .int cz (own_G C g) (.int (0 : Int32)) := f1029.other W1035 ne1005
  have N1035 := Fr.snoc X1035 N1020 ge_b1002
  have KK1035 : Keep h0 h1035 [] := KK1020.wr W1035 (Or.inr sz_b1002)
  have Z1035 := Nat.le_trans Z1020 (Keep.of_wr W1035).1
  show OEnds p.tables e below G (T1035.setTop (mkF m 52 #[.val (.ref ps), .val (.long (9223372036854775807 : Int64)), .second, .val (.ref b1002), .val (.int (2 : Int32)), .val (.int (1 : Int32)), .val (.long y1), .second] []))
  refine OEnds.st (fun _ k => XS.iinc X1035.here hx rfl (hb hby d10_52) rfl (l' := #[.val (.ref ps), .val (.long (9223372036854775807 : Int64)), .second, .val (.ref b1002), .val (.int (2 : Int32)), .val (.int ((1 : Int32) + (1 : Int32))), .val (.long y1), .second]) rfl k) ?_
  show OEnds p.tables e below G (T1035.setTop (mkF m 55 #[.val (.ref ps), .val (.long (9223372036854775807 : Int64)), .second, .val (.ref b1002), .val (.int (2 : Int32)), .val (.int ((1 : Int32) + (1 : Int32))), .val (.long y1), .second] []))
  rw [show ((1 : Int32) + (1 : Int32)) = (2 : Int32) from by decide]
  show OEnds p.tables e below G (T1035.setTop (mkF m 55 #[.val (.ref ps), .val (.long (9223372036854775807 : Int64)), .second, .val (.ref b1002), .val (.int (2 : Int32)), .val (.int (2 : Int32)), .val (.long y1), .second] []))
  refine OEnds.st (fun _ k => XS.goto X1035.here hx rfl (pc0 := 55) (pc' := 13) rfl (hb hby d10_55) (by decide) (by decide) k) ?_
  show OEnds p.tables e below G (T1035.setTop (mkF m 13 #[.val (.ref ps), .val (.long (9223372036854775807 : Int64)), .second, .val (.ref b1002), .val (.int (2 : Int32)), .val (.int (2 : Int32)), .val (.long y1), .second] []))
  refine OEnds.st (fun _ k => XS.iload X1035.here hx rfl (hb hby d10_13) rfl k) ?_
  show OEnds p.tables e below G (T1035.setTop (mkF m 15 #[.val (.ref ps), .val (.long (9223372036854775807 : Int64)), .second, .val (.ref b1002), .val (.int (2 : Int32)), .val (.int (2 : Int32)), .val (.long y1), .second] [(.int (2 : Int32))]))
  refine OEnds.st (fun _ k => XS.aloadN X1035.here hx rfl (hb hby d10_15) rfl rfl k) ?_
  show OEnds p.tables e below G (T1035.setTop (mkF m 16 #[.val (.ref ps), .val (.long (9223372036854775807 : Int64)), .second, .val (.ref b1002), .val (.int (2 : Int32)), .val (.int (2 : Int32)), .val (.long y1), .second] [(.ref ps), (.int (2 : Int32))]))
  obtain ⟨T1045, X1045, e1045, st1045⟩ := getF X1035 hx hZ hown (host := "") (Or.inl (hw _ (List.mem_of_getElem? (i := 45) rfl))) Via.refl e1035 f1041 (g := (mkF m 16 #[.val (.ref ps), .val (.long (9223372036854775807 : Int64)), .second, .val (.ref b1002), .val (.int (2 : Int32)), .val (.int (2 : Int32)), .val (.long y1), .second] [(.ref ps), (.int (2 : Int32))])) rfl rfl (hb hby d10_16)
  refine OEnds.st st1045 ?_
  clear st1045
  show OEnds p.tables e below G (T1045.setTop (mkF m 19 #[.val (.ref ps), .val (.long (9223372036854775807 : Int64)), .second, .val (.ref b1002), .val (.int (2 : Int32)), .val (.int (2 : Int32)), .val (.long y1), .second] [(.int (2 : Int32)), (.int (2 : Int32))]))
  refine OEnds.st (fun _ k => XS.icmpYes X1045.here hx rfl (pc0 := 19) (pc' := 58) rfl (hb hby d10_19) rfl (flt (by decide : ¬ ((2 : Int32) < (2 : Int32)))).2.1 (by decide) (by decide) k) ?_
  show OEnds p.tables e below G (T1045.setTop (mkF m 58 #[.val (.ref ps), .val (.long (9223372036854775807 : Int64)), .second, .val (.ref b1002), .val (.int (2 : Int32)), .val (.int (2 : Int32)), .val (.long y1), .second] []))
  refine OEnds.st (fun _ k => XS.iload X1045.here hx rfl (hb hby d10_58) rfl k) ?_
  show OEnds p.tables e below G (T1045.setTop (mkF m 60 #[.val (.ref ps), .val (.long (9223372036854775807 : Int64)), .second, .val (.ref b1002), .val (.int (2 : Int32)), .val (.int (2 : Int32)), .val (.long y1), .second] [(.int (2 : Int32))]))
  refine OEnds.st (fun _ k => XS.aloadN X1045.here hx rfl (hb hby d10_60) rfl rfl k) ?_
  show OEnds p.tables e below G (T1045.setTop (mkF m 61 #[.val (.ref ps), .val (.long (9223372036854775807 : Int64)), .second, .val (.ref b1002), .val (.int (2 : Int32)), .val (.int (2 : Int32)), .val (.long y1), .second] [(.ref ps), (.int (2 : Int32))]))
  obtain ⟨T1046, X1046, e1046, st1046⟩ := getF X1045 hx hZ hown (host := "") (Or.inl (hw _ (List.mem_of_getElem? (i := 45) rfl))) Via.refl e1045 f1041 (g := (mkF m 61 #[.val (.ref ps), .val (.long (9223372036854775807 : Int64)), .second, .val (.ref b1002), .val (.int (2 : Int32)), .val (.int (2 : Int32)), .val (.long y1), .second] [(.ref ps), (.int (2 : Int32))])) rfl rfl (hb hby d10_61)
  refine OEnds.st st1046 ?_
  clear st1046
  show OEnds p.tables e below G (T1046.setTop (mkF m 64 #[.val (.ref ps), .val (.long (9223372036854775807 : Int64)), .second, .val (.ref b1002), .val (.int (2 : Int32)), .val (.int (2 : Int32)), .val (.long y1), .second] [(.int (2 : Int32)), (.int (2 : Int32))]))
  refine OEnds.st (fun _ k => XS.icmpNo X1046.here hx rfl (hb hby d10_64) rfl (teq (by decide : (2 : Int32) = (2 : Int32))).2 k) ?_
  show OEnds p.tables e below G (T1046.setTop (mkF m 67 #[.val (.ref ps), .val (.long (9223372036854775807 : Int64)), .second, .val (.ref b1002), .val (.int (2 : Int32)), .val (.int (2 : Int32)), .val (.long y1), .second] []))
  refine OEnds.st (fun _ k => XS.aloadN X1046.here hx rfl (hb hby d10_67) rfl rfl k) ?_
  show OEnds p.tables e below G (T1046.setTop (mkF m 68 #[.val (.ref ps), .val (.long (9223372036854775807 : Int64)), .second, .val (.ref b1002), .val (.int (2 : Int32)), .val (.int (2 : Int32)), .val (.long y1), .second] [(.ref b1002)]))
  refine OEnds.st (fun _ k => XS.goto X1046.here hx rfl (pc0 := 68) (pc' := 77) rfl (hb hby d10_68) (by decide) (by decide) k) ?_
  show OEnds p.tables e below G (T1046.setTop (mkF m 77 #[.val (.ref ps), .val (.long (9223372036854775807 : Int64)), .second, .val (.ref b1002), .val (.int (2 : Int32)), .val (.int (2 : Int32)), .val (.long y1), .second] [(.ref b1002)]))
  refine OEnds.st (fun _ k => XS.astore X1046.here hx rfl (hb hby d10_77) rfl rfl (l' := #[.val (.ref ps), .val (.long (9223372036854775807 : Int64)), .second, .val (.ref b1002), .val (.int (2 : Int32)), .val (.ref b1002), .val (.long y1), .second]) rfl k) ?_
  show OEnds p.tables e below G (T1046.setTop (mkF m 79 #[.val (.ref ps), .val (.long (9223372036854775807 : Int64)), .second, .val (.ref b1002), .val (.int (2 : Int32)), .val (.ref b1002), .val (.long y1), .second] []))
  refine OEnds.st (fun _ k => XS.aload X1046.here hx rfl (hb hby d10_79) rfl rfl k) ?_
  show OEnds p.tables e below G (T1046.setTop (mkF m 81 #[.val (.ref ps), .val (.long (9223372036854775807 : Int64)), .second, .val (.ref b1002), .val (.int (2 : Int32)), .val (.ref b1002), .val (.long y1), .second] [(.ref b1002)]))
  obtain ⟨_, _, ⟨T1047, L1047, k1047c, n1047c⟩, -, X1047, ⟨Lc1047, hQ1047, l1047, y1047, z1047⟩, st1047⟩ := Jvm.LawKit.callS X1046 hx (y := (⟨"java/util/Arrays", "sort", "([J)V"⟩ : MethodName)) hown (mvT hZ (hw _ (List.mem_of_getElem? (i := 59) rfl))) (mvT hZ (hw _ (List.mem_of_getElem? (i := 60) rfl))) (mvT hZ (hw _ (List.mem_of_getElem? (i := 38) rfl))) (mvT hZ (hw _ (List.mem_of_getElem? (i := 61) rfl))) (by decide) (backOf (W := 0) (rmso2 l Z a0 hw [] b1002 k1002 y0 y1 h1035 n0 Z1035 f1036 ge_b1002) hZ (hw _ (List.mem_of_getElem? (i := 61) rfl)) (hw _ (List.mem_of_getElem? (i := 38) rfl)) (by decide) (by decide)) (g := (mkF m 81 #[.val (.ref ps), .val (.long (9223372036854775807 : Int64)), .second, .val (.ref b1002), .val (.int (2 : Int32)), .val (.ref b1002), .val (.long y1), .second] [(.ref b1002)])) rfl (by rw [hml]; rfl) (argsL := [(.ref b1002)]) (rest := []) (lenOf pd_7 rfl) rfl (by show 2 * 0 + _ ≤ _; exact Nat.le_of_eq rfl) (hb hby d10_81) (fun _ _ => ⟨rfl, e1046, (by decide : 0 + 1 + 0 ≤ _), (by decide : 0 + 2 + 0 ≤ _)⟩)
  dsimp only [Pt.U, Pt.locs, Pt.cells, Pt.slots] at X1047 l1047 y1047 z1047 st1047 hQ1047
  subst l1047 y1047 z1047
  obtain ⟨rfl, N1047q, p1048, p1049⟩ := hQ1047
  have N1047 := Fr.app N1035 N1047q
  refine OEnds.st st1047 ?_
  clear st1047
  have f1050 : Exa Z T1047.heap ps "com/example/clearingd/clearingd/store/PositionSet" := f1037.keep p1048
  have f1051 : Fld Z T1047.heap ps "com/example/clearingd/clearingd/store/PositionSet" "slots" "[J" (.ref sa) := f1038.keep p1048 (by simp only [List.mem_cons, List.not_mem_nil, or_false, not_or]; exact ne1003)
  have f1052 : Fld Z T1047.heap ps "com/example/clearingd/clearingd/store/PositionSet" "taken" "[I" (.ref ta) := f1039.keep p1048 (by simp only [List.mem_cons, List.not_mem_nil, or_false, not_or]; exact ne1003)
  have f1053 : Fld Z T1047.heap ps "com/example/clearingd/clearingd/store/PositionSet" "capacity" "I" (.int cz) := f1040.keep p1048 (by simp only [List.mem_cons, List.not_mem_nil, or_false, not_or]; exact ne1003)
  have f1054 : Fld Z T1047.heap ps "com/example/clearingd/clearingd/store/PositionSet" "size" "I" (.int (2 : Int32)) := f1041.keep p1048 (by simp only [List.mem_cons, List.not_mem_nil, or_false, not_or]; exact ne1003)
  have f1055 : Fld Z T1047.heap ps "com/example/clearingd/clearingd/store/PositionSet" "overflowed" "Z" (.int ov) := f1042.keep p1048 (by simp only [List.mem_cons, List.not_mem_nil, or_false, not_or]; exact ne1003)
  have f1056 : Arv Z T1047.heap sa ks .long z (own_T M f) (.long (0 : Int64)) := f1043.keep p1048 (by simp only [List.mem_cons, List.not_mem_nil, or_false, not_or]; exact ne1004)
  have f1057 : Arv Z T1047.heap ta kt .int cz (own_G C g) (.int (0 : Int32)) := f1044.keep p1048 (by simp only [List.mem_cons, List.not_mem_nil, or_false, not_or]; exact ne1005)
  have KK1047 : Keep h0 T1047.heap [] := KK1035.trans p1048 (fun x hx => by cases List.mem_singleton.mp hx; exact Or.inr sz_b1002)
  have Z1047 := Nat.le_trans Z1035 p1048.1
  show OEnds p.tables e below G (T1047.setTop (mkF m 84 #[.val (.ref ps), .val (.long (9223372036854775807 : Int64)), .second, .val (.ref b1002), .val (.int (2 : Int32)), .val (.ref b1002), .val (.long y1), .second] []))
  refine OEnds.st (fun _ k => XS.aload X1047.here hx rfl (hb hby d10_84) rfl rfl k) ?_
  show OEnds p.tables e below G (T1047.setTop (mkF m 86 #[.val (.ref ps), .val (.long (9223372036854775807 : Int64)), .second, .val (.ref b1002), .val (.int (2 : Int32)), .val (.ref b1002), .val (.long y1), .second] [(.ref b1002)]))
  rw [← hG]
  refine OEnds.retA X1047 hx hlk Bd.returns (by first | rfl | exact rfl) rfl (hb hby d10_86) (by decide) (by decide) ?_
  show _
  exact ⟨b1002, k1002, rfl, N1047, KK1047, sz_b1002, p1049⟩
theorem ef_0 (m : MethodId) (p1 : Int32) (p2 : Int64) (p3 : Int64) (p4 : Int64) (p5 : Int64) : entryFrame m #[(.int p1), (.long p2), (.long p3), (.long p4), (.long p5)] maxLocals = mkF m 0 #[.val (.int p1), .val (.long p2), .second, .val (.long p3), .second, .val (.long p4), .second, .val (.long p5), .second, .unset, .unset, .unset, .unset, .unset, .unset, .unset, .unset, .unset, .unset, .unset, .unset, .unset] [] := by first | (simp [entryFrame, mkF, argsToLocals, Value.category, maxLocals]; done) | rfl
def Q0 (Z : State) (p1 : Int32) (p2 : Int64) (p3 : Int64) (p4 : Int64) (p5 : Int64) (h0 : Heap) (n0 : Nat) (v : Option Value) (h : Heap) (L : List Loc) : Prop := v = some (.int (1 : Int32)) ∧ Fr n0 L
theorem pd_8 : parseMethodDescriptor "(J)J" = some ⟨[.long], some .long⟩ := by decide +kernel
theorem pd_9 : parseMethodDescriptor "()Z" = some ⟨[], some .boolean⟩ := by decide +kernel
theorem pd_10 : parseMethodDescriptor "(J)[J" = some ⟨[.long], some (.array .long)⟩ := by decide +kernel
theorem pd_11 : parseMethodDescriptor "(J)V" = some ⟨[.long], none⟩ := by decide +kernel
theorem pd_12 : parseMethodDescriptor "()V" = some ⟨[], none⟩ := by decide +kernel
theorem pd_13 : parseMethodDescriptor "(I)V" = some ⟨[.int], none⟩ := by decide +kernel
set_option maxRecDepth 65536 in
set_option maxHeartbeats 40000000 in
theorem rm0 (l : Launch) (Z : State) (a0 : Array Value) (hw : ∀ d ∈ tables_1, d.before a0 Z = true) (ws : List Jvm.Cond) (p1 : Int32) (p2 : Int64) (p3 : Int64) (p4 : Int64) (p5 : Int64) (h0 : Heap) (n0 : Nat) (Z0 : n0 ≤ h0.size) :
    MetFree l x (head1 (Jvm.Cond.code x code maxLocals ret :: ws) room_1) (fun a U => a = #[(.int p1), (.long p2), (.long p3), (.long p4), (.long p5)] ∧ Z.Warmed39 U.vm ∧ U.heap = h0) (fun _ _ _ _ _ => True) (fun _ U o U' => ∃ v L, o = .returned v ∧ Q0 Z p1 p2 p3 p4 p5 h0 n0 v U'.heap L ∧ FrameEnd U o U' L room_1.cells room_1.slots) := by
  refine MetFree.of_bodySF (plainFor_of_name pn_0) hisR ?_
  intro p e s m args below meth c s₁ Bd hml0 hP hK
  obtain ⟨rfl, hZ, hh⟩ := hP
  have hx := Bd.exec
  have hby := Bd.bytes
  have hml : c.maxLocals = 22 := hml0
  have hown : s.vm.findClass "com/example/clearingd/clearingd/store/PositionSetClearPinLaw" = some m.cls := findClass_of_methodNamed Bd.named
  have hnm := (name_of_methodNamed Bd.named Bd.method).1
  have hlk : meth.locks = false := BodyLoose.notSynchronized Bd
  have X0 : Stand p l e room_1 s m #[(.int p1), (.long p2), (.long p3), (.long p4), (.long p5)] below meth c s₁ [] 0 0 := Stand.of_body Bd
  have e0 : s₁.heap = h0 := by rw [← hh, Bd.state]; rfl
  have N0 := Fr.nil n0
  show OEnds p.tables e below (OGoal (Q0 Z p1 p2 p3 p4 p5 h0 n0) s 24 128) (s₁.setTop (entryFrame m #[(.int p1), (.long p2), (.long p3), (.long p4), (.long p5)] maxLocals))
  refine OEnds.st (fun t k => castTop (ef_0 m p1 p2 p3 p4 p5) k) ?_
  generalize hG : OGoal (Q0 Z p1 p2 p3 p4 p5 h0 n0) s 24 128 = G
  have KK0 : Keep h0 h0 [] := Keep.refl h0 []
  show OEnds p.tables e below G (s₁.setTop (mkF m 0 #[.val (.int p1), .val (.long p2), .second, .val (.long p3), .second, .val (.long p4), .second, .val (.long p5), .second, .unset, .unset, .unset, .unset, .unset, .unset, .unset, .unset, .unset, .unset, .unset, .unset, .unset] []))
  refine OEnds.st (fun _ k => XS.iconst X0.here hx rfl (hb hby at_0) k) ?_
  show OEnds p.tables e below G (s₁.setTop (mkF m 1 #[.val (.int p1), .val (.long p2), .second, .val (.long p3), .second, .val (.long p4), .second, .val (.long p5), .second, .unset, .unset, .unset, .unset, .unset, .unset, .unset, .unset, .unset, .unset, .unset, .unset, .unset] [(.int (1 : Int32))]))
  refine OEnds.st (fun _ k => XS.iloadN X0.here hx rfl (hb hby at_1) rfl k) ?_
  show OEnds p.tables e below G (s₁.setTop (mkF m 2 #[.val (.int p1), .val (.long p2), .second, .val (.long p3), .second, .val (.long p4), .second, .val (.long p5), .second, .unset, .unset, .unset, .unset, .unset, .unset, .unset, .unset, .unset, .unset, .unset, .unset, .unset] [(.int p1), (.int (1 : Int32))]))
  refine OEnds.st (fun _ k => XS.iconst X0.here hx rfl (hb hby at_2) k) ?_
  show OEnds p.tables e below G (s₁.setTop (mkF m 3 #[.val (.int p1), .val (.long p2), .second, .val (.long p3), .second, .val (.long p4), .second, .val (.long p5), .second, .unset, .unset, .unset, .unset, .unset, .unset, .unset, .unset, .unset, .unset, .unset, .unset, .unset] [(.int (3 : Int32)), (.int p1), (.int (1 : Int32))]))
  refine OEnds.st (fun _ k => XS.iand X0.here hx rfl (hb hby at_3) rfl k) ?_
  show OEnds p.tables e below G (s₁.setTop (mkF m 4 #[.val (.int p1), .val (.long p2), .second, .val (.long p3), .second, .val (.long p4), .second, .val (.long p5), .second, .unset, .unset, .unset, .unset, .unset, .unset, .unset, .unset, .unset, .unset, .unset, .unset, .unset] [(.int (p1 &&& (3 : Int32))), (.int (1 : Int32))]))
  refine OEnds.st (fun _ k => XS.iadd X0.here hx rfl (hb hby at_4) rfl k) ?_
  show OEnds p.tables e below G (s₁.setTop (mkF m 5 #[.val (.int p1), .val (.long p2), .second, .val (.long p3), .second, .val (.long p4), .second, .val (.long p5), .second, .unset, .unset, .unset, .unset, .unset, .unset, .unset, .unset, .unset, .unset, .unset, .unset, .unset] [(.int ((1 : Int32) + (p1 &&& (3 : Int32))))]))
  refine OEnds.st (fun _ k => XS.istore X0.here hx rfl (hb hby at_5) rfl (l' := #[.val (.int p1), .val (.long p2), .second, .val (.long p3), .second, .val (.long p4), .second, .val (.long p5), .second, .val (.int ((1 : Int32) + (p1 &&& (3 : Int32)))), .unset, .unset, .unset, .unset, .unset, .unset, .unset, .unset, .unset, .unset, .unset, .unset]) rfl k) ?_
  show OEnds p.tables e below G (s₁.setTop (mkF m 7 #[.val (.int p1), .val (.long p2), .second, .val (.long p3), .second, .val (.long p4), .second, .val (.long p5), .second, .val (.int ((1 : Int32) + (p1 &&& (3 : Int32)))), .unset, .unset, .unset, .unset, .unset, .unset, .unset, .unset, .unset, .unset, .unset, .unset] []))
  generalize hv_v1001 : ((1 : Int32) + (p1 &&& (3 : Int32))) = v1001
  show OEnds p.tables e below G (s₁.setTop (mkF m 7 #[.val (.int p1), .val (.long p2), .second, .val (.long p3), .second, .val (.long p4), .second, .val (.long p5), .second, .val (.int v1001), .unset, .unset, .unset, .unset, .unset, .unset, .unset, .unset, .unset, .unset, .unset, .unset] []))
  refine OEnds.st (fun _ k => XS.iloadN X0.here hx rfl (hb hby at_7) rfl k) ?_
  show OEnds p.tables e below G (s₁.setTop (mkF m 8 #[.val (.int p1), .val (.long p2), .second, .val (.long p3), .second, .val (.long p4), .second, .val (.long p5), .second, .val (.int v1001), .unset, .unset, .unset, .unset, .unset, .unset, .unset, .unset, .unset, .unset, .unset, .unset] [(.int p1)]))
  refine OEnds.st (fun _ k => XS.iconst X0.here hx rfl (hb hby at_8) k) ?_
  show OEnds p.tables e below G (s₁.setTop (mkF m 9 #[.val (.int p1), .val (.long p2), .second, .val (.long p3), .second, .val (.long p4), .second, .val (.long p5), .second, .val (.int v1001), .unset, .unset, .unset, .unset, .unset, .unset, .unset, .unset, .unset, .unset, .unset, .unset] [(.int (2 : Int32)), (.int p1)]))
  refine OEnds.st (fun _ k => XS.iushr X0.here hx rfl (hb hby at_9) rfl k) ?_
  show OEnds p.tables e below G (s₁.setTop (mkF m 10 #[.val (.int p1), .val (.long p2), .second, .val (.long p3), .second, .val (.long p4), .second, .val (.long p5), .second, .val (.int v1001), .unset, .unset, .unset, .unset, .unset, .unset, .unset, .unset, .unset, .unset, .unset, .unset] [(.int ((p1.toUInt32 >>> ((2 : Int32) &&& 31).toUInt32).toInt32))]))
  refine OEnds.st (fun _ k => XS.iconst X0.here hx rfl (hb hby at_10) k) ?_
  show OEnds p.tables e below G (s₁.setTop (mkF m 11 #[.val (.int p1), .val (.long p2), .second, .val (.long p3), .second, .val (.long p4), .second, .val (.long p5), .second, .val (.int v1001), .unset, .unset, .unset, .unset, .unset, .unset, .unset, .unset, .unset, .unset, .unset, .unset] [(.int (3 : Int32)), (.int ((p1.toUInt32 >>> ((2 : Int32) &&& 31).toUInt32).toInt32))]))
  refine OEnds.st (fun _ k => XS.iand X0.here hx rfl (hb hby at_11) rfl k) ?_
  show OEnds p.tables e below G (s₁.setTop (mkF m 12 #[.val (.int p1), .val (.long p2), .second, .val (.long p3), .second, .val (.long p4), .second, .val (.long p5), .second, .val (.int v1001), .unset, .unset, .unset, .unset, .unset, .unset, .unset, .unset, .unset, .unset, .unset, .unset] [(.int (((p1.toUInt32 >>> ((2 : Int32) &&& 31).toUInt32).toInt32) &&& (3 : Int32)))]))
  refine OEnds.st (fun _ k => XS.istore X0.here hx rfl (hb hby at_12) rfl (l' := #[.val (.int p1), .val (.long p2), .second, .val (.long p3), .second, .val (.long p4), .second, .val (.long p5), .second, .val (.int v1001), .val (.int (((p1.toUInt32 >>> ((2 : Int32) &&& 31).toUInt32).toInt32) &&& (3 : Int32))), .unset, .unset, .unset, .unset, .unset, .unset, .unset, .unset, .unset, .unset, .unset]) rfl k) ?_
  show OEnds p.tables e below G (s₁.setTop (mkF m 14 #[.val (.int p1), .val (.long p2), .second, .val (.long p3), .second, .val (.long p4), .second, .val (.long p5), .second, .val (.int v1001), .val (.int (((p1.toUInt32 >>> ((2 : Int32) &&& 31).toUInt32).toInt32) &&& (3 : Int32))), .unset, .unset, .unset, .unset, .unset, .unset, .unset, .unset, .unset, .unset, .unset] []))
  generalize hv_v1002 : (((p1.toUInt32 >>> ((2 : Int32) &&& 31).toUInt32).toInt32) &&& (3 : Int32)) = v1002
  show OEnds p.tables e below G (s₁.setTop (mkF m 14 #[.val (.int p1), .val (.long p2), .second, .val (.long p3), .second, .val (.long p4), .second, .val (.long p5), .second, .val (.int v1001), .val (.int v1002), .unset, .unset, .unset, .unset, .unset, .unset, .unset, .unset, .unset, .unset, .unset] []))
  refine OEnds.st (fun _ k => XS.lloadN X0.here hx rfl (hb hby at_14) rfl k) ?_
  show OEnds p.tables e below G (s₁.setTop (mkF m 15 #[.val (.int p1), .val (.long p2), .second, .val (.long p3), .second, .val (.long p4), .second, .val (.long p5), .second, .val (.int v1001), .val (.int v1002), .unset, .unset, .unset, .unset, .unset, .unset, .unset, .unset, .unset, .unset, .unset] [(.long p2)]))
  obtain ⟨_, _, ⟨T1003, L1003, k1003c, n1003c⟩, -, X1003, ⟨Lc1003, hQ1003, l1003, y1003, z1003⟩, st1003⟩ := Jvm.LawKit.callS X0 hx (y := (⟨"com/example/clearingd/clearingd/store/PositionSetClearPinLaw", "pos", "(J)J"⟩ : MethodName)) hown (mvT hZ (hw _ (List.mem_of_getElem? (i := 0) rfl))) (mvT hZ (hw _ (List.mem_of_getElem? (i := 1) rfl))) (mvT hZ (hw _ (List.mem_of_getElem? (i := 2) rfl))) (mvT hZ (hw _ (List.mem_of_getElem? (i := 3) rfl))) (by decide) (backOf (W := 0) (rm1 l Z a0 hw [] p2 h0 n0 Z0 ) hZ (hw _ (List.mem_of_getElem? (i := 3) rfl)) (hw _ (List.mem_of_getElem? (i := 2) rfl)) (by decide) (by decide)) (g := (mkF m 15 #[.val (.int p1), .val (.long p2), .second, .val (.long p3), .second, .val (.long p4), .second, .val (.long p5), .second, .val (.int v1001), .val (.int v1002), .unset, .unset, .unset, .unset, .unset, .unset, .unset, .unset, .unset, .unset, .unset] [(.long p2)])) rfl (by rw [hml]; rfl) (argsL := [(.long p2)]) (rest := []) (lenOf pd_8 rfl) rfl (by show 2 * 0 + _ ≤ _; exact Nat.le_of_eq rfl) (hb hby at_15) (fun _ _ => ⟨rfl, e0, (by decide : 0 + 0 ≤ _), (by decide : 0 + 0 ≤ _)⟩)
  dsimp only [Pt.U, Pt.locs, Pt.cells, Pt.slots] at X1003 l1003 y1003 z1003 st1003 hQ1003
  subst l1003 y1003 z1003
  obtain ⟨rfl, N1003q, e1003⟩ := hQ1003
  have N1003 := Fr.app N0 N1003q
  refine OEnds.st st1003 ?_
  clear st1003
  show OEnds p.tables e below G (T1003.setTop (mkF m 18 #[.val (.int p1), .val (.long p2), .second, .val (.long p3), .second, .val (.long p4), .second, .val (.long p5), .second, .val (.int v1001), .val (.int v1002), .unset, .unset, .unset, .unset, .unset, .unset, .unset, .unset, .unset, .unset, .unset] [(.long (own_ps p2))]))
  refine OEnds.st (fun _ k => XS.lstore X1003.here hx rfl (hb hby at_18) rfl (l' := #[.val (.int p1), .val (.long p2), .second, .val (.long p3), .second, .val (.long p4), .second, .val (.long p5), .second, .val (.int v1001), .val (.int v1002), .val (.long (own_ps p2)), .second, .unset, .unset, .unset, .unset, .unset, .unset, .unset, .unset, .unset]) rfl k) ?_
  show OEnds p.tables e below G (T1003.setTop (mkF m 20 #[.val (.int p1), .val (.long p2), .second, .val (.long p3), .second, .val (.long p4), .second, .val (.long p5), .second, .val (.int v1001), .val (.int v1002), .val (.long (own_ps p2)), .second, .unset, .unset, .unset, .unset, .unset, .unset, .unset, .unset, .unset] []))
  generalize hv_v1004 : (own_ps p2) = v1004
  show OEnds p.tables e below G (T1003.setTop (mkF m 20 #[.val (.int p1), .val (.long p2), .second, .val (.long p3), .second, .val (.long p4), .second, .val (.long p5), .second, .val (.int v1001), .val (.int v1002), .val (.long v1004), .second, .unset, .unset, .unset, .unset, .unset, .unset, .unset, .unset, .unset] []))
  refine OEnds.st (fun _ k => XS.lloadN X1003.here hx rfl (hb hby at_20) rfl k) ?_
  show OEnds p.tables e below G (T1003.setTop (mkF m 21 #[.val (.int p1), .val (.long p2), .second, .val (.long p3), .second, .val (.long p4), .second, .val (.long p5), .second, .val (.int v1001), .val (.int v1002), .val (.long v1004), .second, .unset, .unset, .unset, .unset, .unset, .unset, .unset, .unset, .unset] [(.long p3)]))
  obtain ⟨_, _, ⟨T1005, L1005, k1005c, n1005c⟩, -, X1005, ⟨Lc1005, hQ1005, l1005, y1005, z1005⟩, st1005⟩ := Jvm.LawKit.callS X1003 hx (y := (⟨"com/example/clearingd/clearingd/store/PositionSetClearPinLaw", "pos", "(J)J"⟩ : MethodName)) hown (mvT hZ (hw _ (List.mem_of_getElem? (i := 0) rfl))) (mvT hZ (hw _ (List.mem_of_getElem? (i := 1) rfl))) (mvT hZ (hw _ (List.mem_of_getElem? (i := 2) rfl))) (mvT hZ (hw _ (List.mem_of_getElem? (i := 3) rfl))) (by decide) (backOf (W := 0) (rm1 l Z a0 hw [] p3 h0 n0 Z0 ) hZ (hw _ (List.mem_of_getElem? (i := 3) rfl)) (hw _ (List.mem_of_getElem? (i := 2) rfl)) (by decide) (by decide)) (g := (mkF m 21 #[.val (.int p1), .val (.long p2), .second, .val (.long p3), .second, .val (.long p4), .second, .val (.long p5), .second, .val (.int v1001), .val (.int v1002), .val (.long v1004), .second, .unset, .unset, .unset, .unset, .unset, .unset, .unset, .unset, .unset] [(.long p3)])) rfl (by rw [hml]; rfl) (argsL := [(.long p3)]) (rest := []) (lenOf pd_8 rfl) rfl (by show 2 * 0 + _ ≤ _; exact Nat.le_of_eq rfl) (hb hby at_21) (fun _ _ => ⟨rfl, e1003, (by decide : 0 + 0 + 0 ≤ _), (by decide : 0 + 0 + 0 ≤ _)⟩)
  dsimp only [Pt.U, Pt.locs, Pt.cells, Pt.slots] at X1005 l1005 y1005 z1005 st1005 hQ1005
  subst l1005 y1005 z1005
  obtain ⟨rfl, N1005q, e1005⟩ := hQ1005
  have N1005 := Fr.app N1003 N1005q
  refine OEnds.st st1005 ?_
  clear st1005
  show OEnds p.tables e below G (T1005.setTop (mkF m 24 #[.val (.int p1), .val (.long p2), .second, .val (.long p3), .second, .val (.long p4), .second, .val (.long p5), .second, .val (.int v1001), .val (.int v1002), .val (.long v1004), .second, .unset, .unset, .unset, .unset, .unset, .unset, .unset, .unset, .unset] [(.long (own_ps p3))]))
  refine OEnds.st (fun _ k => XS.lstore X1005.here hx rfl (hb hby at_24) rfl (l' := #[.val (.int p1), .val (.long p2), .second, .val (.long p3), .second, .val (.long p4), .second, .val (.long p5), .second, .val (.int v1001), .val (.int v1002), .val (.long v1004), .second, .val (.long (own_ps p3)), .second, .unset, .unset, .unset, .unset, .unset, .unset, .unset]) rfl k) ?_
  show OEnds p.tables e below G (T1005.setTop (mkF m 26 #[.val (.int p1), .val (.long p2), .second, .val (.long p3), .second, .val (.long p4), .second, .val (.long p5), .second, .val (.int v1001), .val (.int v1002), .val (.long v1004), .second, .val (.long (own_ps p3)), .second, .unset, .unset, .unset, .unset, .unset, .unset, .unset] []))
  generalize hv_v1006 : (own_ps p3) = v1006
  show OEnds p.tables e below G (T1005.setTop (mkF m 26 #[.val (.int p1), .val (.long p2), .second, .val (.long p3), .second, .val (.long p4), .second, .val (.long p5), .second, .val (.int v1001), .val (.int v1002), .val (.long v1004), .second, .val (.long v1006), .second, .unset, .unset, .unset, .unset, .unset, .unset, .unset] []))
  refine OEnds.st (fun _ k => XS.lload X1005.here hx rfl (hb hby at_26) rfl k) ?_
  show OEnds p.tables e below G (T1005.setTop (mkF m 28 #[.val (.int p1), .val (.long p2), .second, .val (.long p3), .second, .val (.long p4), .second, .val (.long p5), .second, .val (.int v1001), .val (.int v1002), .val (.long v1004), .second, .val (.long v1006), .second, .unset, .unset, .unset, .unset, .unset, .unset, .unset] [(.long p4)]))
  obtain ⟨_, _, ⟨T1007, L1007, k1007c, n1007c⟩, -, X1007, ⟨Lc1007, hQ1007, l1007, y1007, z1007⟩, st1007⟩ := Jvm.LawKit.callS X1005 hx (y := (⟨"com/example/clearingd/clearingd/store/PositionSetClearPinLaw", "pos", "(J)J"⟩ : MethodName)) hown (mvT hZ (hw _ (List.mem_of_getElem? (i := 0) rfl))) (mvT hZ (hw _ (List.mem_of_getElem? (i := 1) rfl))) (mvT hZ (hw _ (List.mem_of_getElem? (i := 2) rfl))) (mvT hZ (hw _ (List.mem_of_getElem? (i := 3) rfl))) (by decide) (backOf (W := 0) (rm1 l Z a0 hw [] p4 h0 n0 Z0 ) hZ (hw _ (List.mem_of_getElem? (i := 3) rfl)) (hw _ (List.mem_of_getElem? (i := 2) rfl)) (by decide) (by decide)) (g := (mkF m 28 #[.val (.int p1), .val (.long p2), .second, .val (.long p3), .second, .val (.long p4), .second, .val (.long p5), .second, .val (.int v1001), .val (.int v1002), .val (.long v1004), .second, .val (.long v1006), .second, .unset, .unset, .unset, .unset, .unset, .unset, .unset] [(.long p4)])) rfl (by rw [hml]; rfl) (argsL := [(.long p4)]) (rest := []) (lenOf pd_8 rfl) rfl (by show 2 * 0 + _ ≤ _; exact Nat.le_of_eq rfl) (hb hby at_28) (fun _ _ => ⟨rfl, e1005, (by decide : 0 + 0 + 0 + 0 ≤ _), (by decide : 0 + 0 + 0 + 0 ≤ _)⟩)
  dsimp only [Pt.U, Pt.locs, Pt.cells, Pt.slots] at X1007 l1007 y1007 z1007 st1007 hQ1007
  subst l1007 y1007 z1007
  obtain ⟨rfl, N1007q, e1007⟩ := hQ1007
  have N1007 := Fr.app N1005 N1007q
  refine OEnds.st st1007 ?_
  clear st1007
  show OEnds p.tables e below G (T1007.setTop (mkF m 31 #[.val (.int p1), .val (.long p2), .second, .val (.long p3), .second, .val (.long p4), .second, .val (.long p5), .second, .val (.int v1001), .val (.int v1002), .val (.long v1004), .second, .val (.long v1006), .second, .unset, .unset, .unset, .unset, .unset, .unset, .unset] [(.long (own_ps p4))]))
  refine OEnds.st (fun _ k => XS.lstore X1007.here hx rfl (hb hby at_31) rfl (l' := #[.val (.int p1), .val (.long p2), .second, .val (.long p3), .second, .val (.long p4), .second, .val (.long p5), .second, .val (.int v1001), .val (.int v1002), .val (.long v1004), .second, .val (.long v1006), .second, .val (.long (own_ps p4)), .second, .unset, .unset, .unset, .unset, .unset]) rfl k) ?_
  show OEnds p.tables e below G (T1007.setTop (mkF m 33 #[.val (.int p1), .val (.long p2), .second, .val (.long p3), .second, .val (.long p4), .second, .val (.long p5), .second, .val (.int v1001), .val (.int v1002), .val (.long v1004), .second, .val (.long v1006), .second, .val (.long (own_ps p4)), .second, .unset, .unset, .unset, .unset, .unset] []))
  generalize hv_v1008 : (own_ps p4) = v1008
  show OEnds p.tables e below G (T1007.setTop (mkF m 33 #[.val (.int p1), .val (.long p2), .second, .val (.long p3), .second, .val (.long p4), .second, .val (.long p5), .second, .val (.int v1001), .val (.int v1002), .val (.long v1004), .second, .val (.long v1006), .second, .val (.long v1008), .second, .unset, .unset, .unset, .unset, .unset] []))
  refine OEnds.st (fun _ k => XS.lload X1007.here hx rfl (hb hby at_33) rfl k) ?_
  show OEnds p.tables e below G (T1007.setTop (mkF m 35 #[.val (.int p1), .val (.long p2), .second, .val (.long p3), .second, .val (.long p4), .second, .val (.long p5), .second, .val (.int v1001), .val (.int v1002), .val (.long v1004), .second, .val (.long v1006), .second, .val (.long v1008), .second, .unset, .unset, .unset, .unset, .unset] [(.long p5)]))
  obtain ⟨_, _, ⟨T1009, L1009, k1009c, n1009c⟩, -, X1009, ⟨Lc1009, hQ1009, l1009, y1009, z1009⟩, st1009⟩ := Jvm.LawKit.callS X1007 hx (y := (⟨"com/example/clearingd/clearingd/store/PositionSetClearPinLaw", "pos", "(J)J"⟩ : MethodName)) hown (mvT hZ (hw _ (List.mem_of_getElem? (i := 0) rfl))) (mvT hZ (hw _ (List.mem_of_getElem? (i := 1) rfl))) (mvT hZ (hw _ (List.mem_of_getElem? (i := 2) rfl))) (mvT hZ (hw _ (List.mem_of_getElem? (i := 3) rfl))) (by decide) (backOf (W := 0) (rm1 l Z a0 hw [] p5 h0 n0 Z0 ) hZ (hw _ (List.mem_of_getElem? (i := 3) rfl)) (hw _ (List.mem_of_getElem? (i := 2) rfl)) (by decide) (by decide)) (g := (mkF m 35 #[.val (.int p1), .val (.long p2), .second, .val (.long p3), .second, .val (.long p4), .second, .val (.long p5), .second, .val (.int v1001), .val (.int v1002), .val (.long v1004), .second, .val (.long v1006), .second, .val (.long v1008), .second, .unset, .unset, .unset, .unset, .unset] [(.long p5)])) rfl (by rw [hml]; rfl) (argsL := [(.long p5)]) (rest := []) (lenOf pd_8 rfl) rfl (by show 2 * 0 + _ ≤ _; exact Nat.le_of_eq rfl) (hb hby at_35) (fun _ _ => ⟨rfl, e1007, (by decide : 0 + 0 + 0 + 0 + 0 ≤ _), (by decide : 0 + 0 + 0 + 0 + 0 ≤ _)⟩)
  dsimp only [Pt.U, Pt.locs, Pt.cells, Pt.slots] at X1009 l1009 y1009 z1009 st1009 hQ1009
  subst l1009 y1009 z1009
  obtain ⟨rfl, N1009q, e1009⟩ := hQ1009
  have N1009 := Fr.app N1007 N1009q
  refine OEnds.st st1009 ?_
  clear st1009
  show OEnds p.tables e below G (T1009.setTop (mkF m 38 #[.val (.int p1), .val (.long p2), .second, .val (.long p3), .second, .val (.long p4), .second, .val (.long p5), .second, .val (.int v1001), .val (.int v1002), .val (.long v1004), .second, .val (.long v1006), .second, .val (.long v1008), .second, .unset, .unset, .unset, .unset, .unset] [(.long (own_ps p5))]))
  refine OEnds.st (fun _ k => XS.lstore X1009.here hx rfl (hb hby at_38) rfl (l' := #[.val (.int p1), .val (.long p2), .second, .val (.long p3), .second, .val (.long p4), .second, .val (.long p5), .second, .val (.int v1001), .val (.int v1002), .val (.long v1004), .second, .val (.long v1006), .second, .val (.long v1008), .second, .val (.long (own_ps p5)), .second, .unset, .unset, .unset]) rfl k) ?_
  show OEnds p.tables e below G (T1009.setTop (mkF m 40 #[.val (.int p1), .val (.long p2), .second, .val (.long p3), .second, .val (.long p4), .second, .val (.long p5), .second, .val (.int v1001), .val (.int v1002), .val (.long v1004), .second, .val (.long v1006), .second, .val (.long v1008), .second, .val (.long (own_ps p5)), .second, .unset, .unset, .unset] []))
  generalize hv_v1010 : (own_ps p5) = v1010
  have hcap : v1001 = (1 : Int32) ∨ v1001 = (2 : Int32) ∨ v1001 = (3 : Int32) ∨ v1001 = (4 : Int32) := by rw [← hv_v1001]; exact own_cap p1
  have hma : ¬ v1004 = (-1 : Int64) := by rw [← hv_v1004]; exact own_ps_ne _
  have hmr : ¬ v1010 = (-1 : Int64) := by rw [← hv_v1010]; exact own_ps_ne _
  have hla : v1004 < (9223372036854775807 : Int64) := by rw [← hv_v1004]; exact own_ps_lt _
  have hlr : v1010 < (9223372036854775807 : Int64) := by rw [← hv_v1010]; exact own_ps_lt _
  have rest51_1011 : ∀ (T1011 : State) (L1011 : List Loc) (h1011 : Heap) (X1011 : Stand p l e room_1 s m #[(.int p1), (.long p2), (.long p3), (.long p4), (.long p5)] below meth c T1011 L1011 3 25) (e1011 : T1011.heap = h1011) (N1011 : Fr n0 L1011) (KK1011 : Keep h0 h1011 []) (Z1011 : n0 ≤ h1011.size) (cz : Int32) (ps : Addr) (sa : Addr) (ta : Addr) (ks : ClassId) (kt : ClassId) (z : Int32) (M : Nat) (C : Nat) (f1012 : Exa Z h1011 ps "com/example/clearingd/clearingd/store/PositionSet") (f1013 : Fld Z h1011 ps "com/example/clearingd/clearingd/store/PositionSet" "slots" "[J" (.ref sa)) (f1014 : Fld Z h1011 ps "com/example/clearingd/clearingd/store/PositionSet" "taken" "[I" (.ref ta)) (f1015 : Fld Z h1011 ps "com/example/clearingd/clearingd/store/PositionSet" "capacity" "I" (.int cz)) (f1016 : Fld Z h1011 ps "com/example/clearingd/clearingd/store/PositionSet" "size" "I" (.int (0 : Int32))) (f1017 : Fld Z h1011 ps "com/example/clearingd/clearingd/store/PositionSet" "overflowed" "Z" (.int (0 : Int32))) (f1018 : Arv Z h1011 sa ks .long z (own_T M own_E) (.long (0 : Int64))) (f1019 : Arv Z h1011 ta kt .int cz (own_G C own_Z) (.int (0 : Int32))) (ne1020 : sa ≠ ps) (ne1021 : ta ≠ ps) (ne1022 : sa ≠ ta) (g_ps : n0 ≤ ps) (g_sa : n0 ≤ sa) (g_ta : n0 ≤ ta) (z_ps : h0.size ≤ ps) (z_sa : h0.size ≤ sa) (z_ta : h0.size ≤ ta) (hz : z.toInt = (M : Int)) (hM : 4 ≤ M ∧ M ≤ 16) (hmk : ∀ x : Int32, (x &&& (z - (1 : Int32))).toInt = x.toInt % (M : Int)) (hcz : cz.toInt = (C : Int)) (hc0 : ¬ (0 : Int32) = cz), OEnds p.tables e below G (T1011.setTop (mkF m 51 #[.val (.int p1), .val (.long p2), .second, .val (.long p3), .second, .val (.long p4), .second, .val (.long p5), .second, .val (.int cz), .val (.int v1002), .val (.long v1004), .second, .val (.long v1006), .second, .val (.long v1008), .second, .val (.long v1010), .second, .val (.ref ps), .unset, .unset] [])) := by
    intro T1011 L1011 h1011 X1011 e1011 N1011 KK1011 Z1011 cz ps sa ta ks kt z M C f1012 f1013 f1014 f1015 f1016 f1017 f1018 f1019 ne1020 ne1021 ne1022 g_ps g_sa g_ta z_ps z_sa z_ta hz hM hmk hcz hc0
    have hI0 := own_InvE M own_Z 0 C
    have rest64_1023 : ∀ (T1023 : State) (L1023 : List Loc) (h1023 : Heap) (X1023 : Stand p l e room_1 s m #[(.int p1), (.long p2), (.long p3), (.long p4), (.long p5)] below meth c T1023 L1023 3 25) (e1023 : T1023.heap = h1023) (N1023 : Fr n0 L1023) (KK1023 : Keep h0 h1023 []) (Z1023 : n0 ≤ h1023.size) (f1 : Nat → Int64) (g1 : Nat → Int32) (nn1 : Int32) (ov1 : Int32) (f1024 : Exa Z h1023 ps "com/example/clearingd/clearingd/store/PositionSet") (f1025 : Fld Z h1023 ps "com/example/clearingd/clearingd/store/PositionSet" "slots" "[J" (.ref sa)) (f1026 : Fld Z h1023 ps "com/example/clearingd/clearingd/store/PositionSet" "taken" "[I" (.ref ta)) (f1027 : Fld Z h1023 ps "com/example/clearingd/clearingd/store/PositionSet" "capacity" "I" (.int cz)) (f1028 : Fld Z h1023 ps "com/example/clearingd/clearingd/store/PositionSet" "size" "I" (.int nn1)) (f1029 : Fld Z h1023 ps "com/example/clearingd/clearingd/store/PositionSet" "overflowed" "Z" (.int ov1)) (f1030 : Arv Z h1023 sa ks .long z (own_T M f1) (.long (0 : Int64))) (f1031 : Arv Z h1023 ta kt .int cz (own_G C g1) (.int (0 : Int32))) (hI1 : own_Inv M f1 g1 nn1 1 C), OEnds p.tables e below G (T1023.setTop (mkF m 64 #[.val (.int p1), .val (.long p2), .second, .val (.long p3), .second, .val (.long p4), .second, .val (.long p5), .second, .val (.int cz), .val (.int v1002), .val (.long v1004), .second, .val (.long v1006), .second, .val (.long v1008), .second, .val (.long v1010), .second, .val (.ref ps), .unset, .unset] [])) := by
      intro T1023 L1023 h1023 X1023 e1023 N1023 KK1023 Z1023 f1 g1 nn1 ov1 f1024 f1025 f1026 f1027 f1028 f1029 f1030 f1031 hI1
      have rest77_1032 : ∀ (T1032 : State) (L1032 : List Loc) (h1032 : Heap) (X1032 : Stand p l e room_1 s m #[(.int p1), (.long p2), (.long p3), (.long p4), (.long p5)] below meth c T1032 L1032 3 25) (e1032 : T1032.heap = h1032) (N1032 : Fr n0 L1032) (KK1032 : Keep h0 h1032 []) (Z1032 : n0 ≤ h1032.size) (f2 : Nat → Int64) (g2 : Nat → Int32) (nn2 : Int32) (ov2 : Int32) (f1033 : Exa Z h1032 ps "com/example/clearingd/clearingd/store/PositionSet") (f1034 : Fld Z h1032 ps "com/example/clearingd/clearingd/store/PositionSet" "slots" "[J" (.ref sa)) (f1035 : Fld Z h1032 ps "com/example/clearingd/clearingd/store/PositionSet" "taken" "[I" (.ref ta)) (f1036 : Fld Z h1032 ps "com/example/clearingd/clearingd/store/PositionSet" "capacity" "I" (.int cz)) (f1037 : Fld Z h1032 ps "com/example/clearingd/clearingd/store/PositionSet" "size" "I" (.int nn2)) (f1038 : Fld Z h1032 ps "com/example/clearingd/clearingd/store/PositionSet" "overflowed" "Z" (.int ov2)) (f1039 : Arv Z h1032 sa ks .long z (own_T M f2) (.long (0 : Int64))) (f1040 : Arv Z h1032 ta kt .int cz (own_G C g2) (.int (0 : Int32))) (hI2 : own_Inv M f2 g2 nn2 2 C), OEnds p.tables e below G (T1032.setTop (mkF m 77 #[.val (.int p1), .val (.long p2), .second, .val (.long p3), .second, .val (.long p4), .second, .val (.long p5), .second, .val (.int cz), .val (.int v1002), .val (.long v1004), .second, .val (.long v1006), .second, .val (.long v1008), .second, .val (.long v1010), .second, .val (.ref ps), .unset, .unset] [])) := by
        intro T1032 L1032 h1032 X1032 e1032 N1032 KK1032 Z1032 f2 g2 nn2 ov2 f1033 f1034 f1035 f1036 f1037 f1038 f1039 f1040 hI2
        have rest90_1041 : ∀ (T1041 : State) (L1041 : List Loc) (h1041 : Heap) (X1041 : Stand p l e room_1 s m #[(.int p1), (.long p2), (.long p3), (.long p4), (.long p5)] below meth c T1041 L1041 3 25) (e1041 : T1041.heap = h1041) (N1041 : Fr n0 L1041) (KK1041 : Keep h0 h1041 []) (Z1041 : n0 ≤ h1041.size) (f3 : Nat → Int64) (g3 : Nat → Int32) (nn3 : Int32) (ov3 : Int32) (f1042 : Exa Z h1041 ps "com/example/clearingd/clearingd/store/PositionSet") (f1043 : Fld Z h1041 ps "com/example/clearingd/clearingd/store/PositionSet" "slots" "[J" (.ref sa)) (f1044 : Fld Z h1041 ps "com/example/clearingd/clearingd/store/PositionSet" "taken" "[I" (.ref ta)) (f1045 : Fld Z h1041 ps "com/example/clearingd/clearingd/store/PositionSet" "capacity" "I" (.int cz)) (f1046 : Fld Z h1041 ps "com/example/clearingd/clearingd/store/PositionSet" "size" "I" (.int nn3)) (f1047 : Fld Z h1041 ps "com/example/clearingd/clearingd/store/PositionSet" "overflowed" "Z" (.int ov3)) (f1048 : Arv Z h1041 sa ks .long z (own_T M f3) (.long (0 : Int64))) (f1049 : Arv Z h1041 ta kt .int cz (own_G C g3) (.int (0 : Int32))) (hI3 : own_Inv M f3 g3 nn3 3 C), OEnds p.tables e below G (T1041.setTop (mkF m 90 #[.val (.int p1), .val (.long p2), .second, .val (.long p3), .second, .val (.long p4), .second, .val (.long p5), .second, .val (.int cz), .val (.int v1002), .val (.long v1004), .second, .val (.long v1006), .second, .val (.long v1008), .second, .val (.long v1010), .second, .val (.ref ps), .unset, .unset] [])) := by
          intro T1041 L1041 h1041 X1041 e1041 N1041 KK1041 Z1041 f3 g3 nn3 ov3 f1042 f1043 f1044 f1045 f1046 f1047 f1048 f1049 hI3
          show OEnds p.tables e below G (T1041.setTop (mkF m 90 #[.val (.int p1), .val (.long p2), .second, .val (.long p3), .second, .val (.long p4), .second, .val (.long p5), .second, .val (.int cz), .val (.int v1002), .val (.long v1004), .second, .val (.long v1006), .second, .val (.long v1008), .second, .val (.long v1010), .second, .val (.ref ps), .unset, .unset] []))
          refine OEnds.st (fun _ k => XS.aload X1041.here hx rfl (hb hby at_90) rfl rfl k) ?_
          have rest95_1050 : ∀ (T1050 : State) (L1050 : List Loc) (h1050 : Heap) (X1050 : Stand p l e room_1 s m #[(.int p1), (.long p2), (.long p3), (.long p4), (.long p5)] below meth c T1050 L1050 3 25) (e1050 : T1050.heap = h1050) (N1050 : Fr n0 L1050) (KK1050 : Keep h0 h1050 []) (Z1050 : n0 ≤ h1050.size) (g4 : Nat → Int32) (f1051 : Exa Z h1050 ps "com/example/clearingd/clearingd/store/PositionSet") (f1052 : Fld Z h1050 ps "com/example/clearingd/clearingd/store/PositionSet" "slots" "[J" (.ref sa)) (f1053 : Fld Z h1050 ps "com/example/clearingd/clearingd/store/PositionSet" "taken" "[I" (.ref ta)) (f1054 : Fld Z h1050 ps "com/example/clearingd/clearingd/store/PositionSet" "capacity" "I" (.int cz)) (f1055 : Fld Z h1050 ps "com/example/clearingd/clearingd/store/PositionSet" "size" "I" (.int (0 : Int32))) (f1056 : Fld Z h1050 ps "com/example/clearingd/clearingd/store/PositionSet" "overflowed" "Z" (.int (0 : Int32))) (f1057 : Arv Z h1050 sa ks .long z (own_T M own_E) (.long (0 : Int64))) (f1058 : Arv Z h1050 ta kt .int cz (own_G C g4) (.int (0 : Int32))), OEnds p.tables e below G (T1050.setTop (mkF m 95 #[.val (.int p1), .val (.long p2), .second, .val (.long p3), .second, .val (.long p4), .second, .val (.long p5), .second, .val (.int cz), .val (.int v1002), .val (.long v1004), .second, .val (.long v1006), .second, .val (.long v1008), .second, .val (.long v1010), .second, .val (.ref ps), .unset, .unset] [])) := by
            intro T1050 L1050 h1050 X1050 e1050 N1050 KK1050 Z1050 g4 f1051 f1052 f1053 f1054 f1055 f1056 f1057 f1058
            show OEnds p.tables e below G (T1050.setTop (mkF m 95 #[.val (.int p1), .val (.long p2), .second, .val (.long p3), .second, .val (.long p4), .second, .val (.long p5), .second, .val (.int cz), .val (.int v1002), .val (.long v1004), .second, .val (.long v1006), .second, .val (.long v1008), .second, .val (.long v1010), .second, .val (.ref ps), .unset, .unset] []))
            refine OEnds.st (fun _ k => XS.aload X1050.here hx rfl (hb hby at_95) rfl rfl k) ?_
            show OEnds p.tables e below G (T1050.setTop (mkF m 97 #[.val (.int p1), .val (.long p2), .second, .val (.long p3), .second, .val (.long p4), .second, .val (.long p5), .second, .val (.int cz), .val (.int v1002), .val (.long v1004), .second, .val (.long v1006), .second, .val (.long v1008), .second, .val (.long v1010), .second, .val (.ref ps), .unset, .unset] [(.ref ps)]))
            obtain ⟨cq1059, kq1059, q1059a, q1059b, q1059c⟩ := isOf hZ e1050 f1051
            obtain ⟨_, _, ⟨T1059, L1059, k1059c, n1059c⟩, -, X1059, ⟨Lc1059, hQ1059, l1059, y1059, z1059⟩, st1059⟩ := X1050.virtualBack hx (y := (⟨"com/example/clearingd/clearingd/store/PositionSet", "overflowed", "()Z"⟩ : MethodName)) (z := (⟨"com/example/clearingd/clearingd/store/PositionSet", "overflowed", "()Z"⟩ : MethodName)) hown (mvT hZ (hw _ (List.mem_of_getElem? (i := 49) rfl))) (mvT hZ (hw _ (List.mem_of_getElem? (i := 50) rfl))) (notFace_of_selects (args := #[]) (mvT hZ (hw _ (List.mem_of_getElem? (i := 52) rfl)))) (mvT hZ (hw _ (List.mem_of_getElem? (i := 52) rfl))) (mvT hZ (hw _ (List.mem_of_getElem? (i := 51) rfl))) (by decide) (backOf (W := 0) (rm9 l Z a0 hw [] ps (0 : Int32) h1050 n0 Z1050 f1056 rfl) hZ (hw _ (List.mem_of_getElem? (i := 53) rfl)) (hw _ (List.mem_of_getElem? (i := 7) rfl)) (by decide) (by decide)) q1059a q1059c (g := (mkF m 97 #[.val (.int p1), .val (.long p2), .second, .val (.long p3), .second, .val (.long p4), .second, .val (.long p5), .second, .val (.int cz), .val (.int v1002), .val (.long v1004), .second, .val (.long v1006), .second, .val (.long v1008), .second, .val (.long v1010), .second, .val (.ref ps), .unset, .unset] [(.ref ps)])) rfl (by rw [hml]; rfl) (Steps.refl _) (argsL := []) (rest := []) (lenOf pd_9 rfl) rfl (by show 2 * 0 + _ ≤ _; exact Nat.le_of_eq rfl) (hb hby at_97) (fun _ _ => ⟨rfl, e1050, (by decide : 3 + 0 ≤ _), (by decide : 25 + 0 ≤ _)⟩)
            dsimp only [Pt.U, Pt.locs, Pt.cells, Pt.slots] at X1059 l1059 y1059 z1059 st1059 hQ1059
            subst l1059 y1059 z1059
            obtain ⟨rfl, N1059q, e1059⟩ := hQ1059
            have N1059 := Fr.app N1050 N1059q
            refine OEnds.st (fun _ k => st1059.trans k) ?_
            clear st1059
            show OEnds p.tables e below G (T1059.setTop (mkF m 100 #[.val (.int p1), .val (.long p2), .second, .val (.long p3), .second, .val (.long p4), .second, .val (.long p5), .second, .val (.int cz), .val (.int v1002), .val (.long v1004), .second, .val (.long v1006), .second, .val (.long v1008), .second, .val (.long v1010), .second, .val (.ref ps), .unset, .unset] [(.int (0 : Int32))]))
            refine OEnds.st (fun _ k => XS.ifYes X1059.here hx rfl (pc0 := 100) (pc' := 105) rfl (hb hby at_100) rfl ((if0 _ _).trans (teq (by decide : (0 : Int32) = (0 : Int32))).1) (by decide) (by decide) k) ?_
            show OEnds p.tables e below G (T1059.setTop (mkF m 105 #[.val (.int p1), .val (.long p2), .second, .val (.long p3), .second, .val (.long p4), .second, .val (.long p5), .second, .val (.int cz), .val (.int v1002), .val (.long v1004), .second, .val (.long v1006), .second, .val (.long v1008), .second, .val (.long v1010), .second, .val (.ref ps), .unset, .unset] []))
            refine OEnds.st (fun _ k => XS.aload X1059.here hx rfl (hb hby at_105) rfl rfl k) ?_
            show OEnds p.tables e below G (T1059.setTop (mkF m 107 #[.val (.int p1), .val (.long p2), .second, .val (.long p3), .second, .val (.long p4), .second, .val (.long p5), .second, .val (.int cz), .val (.int v1002), .val (.long v1004), .second, .val (.long v1006), .second, .val (.long v1008), .second, .val (.long v1010), .second, .val (.ref ps), .unset, .unset] [(.ref ps)]))
            refine OEnds.st (X1059.ldc2Long hx hown (mvT hZ (hw _ (List.mem_of_getElem? (i := 4) rfl))) (g := (mkF m 107 #[.val (.int p1), .val (.long p2), .second, .val (.long p3), .second, .val (.long p4), .second, .val (.long p5), .second, .val (.int cz), .val (.int v1002), .val (.long v1004), .second, .val (.long v1006), .second, .val (.long v1008), .second, .val (.long v1010), .second, .val (.ref ps), .unset, .unset] [(.ref ps)])) rfl (hb hby at_107)) ?_
            show OEnds p.tables e below G (T1059.setTop (mkF m 110 #[.val (.int p1), .val (.long p2), .second, .val (.long p3), .second, .val (.long p4), .second, .val (.long p5), .second, .val (.int cz), .val (.int v1002), .val (.long v1004), .second, .val (.long v1006), .second, .val (.long v1008), .second, .val (.long v1010), .second, .val (.ref ps), .unset, .unset] [(.long (9223372036854775807 : Int64)), (.ref ps)]))
            obtain ⟨cq1060, kq1060, q1060a, q1060b, q1060c⟩ := isOf hZ e1059 f1051
            obtain ⟨_, _, ⟨T1060, L1060, k1060c, n1060c⟩, -, X1060, ⟨Lc1060, hQ1060, l1060, y1060, z1060⟩, st1060⟩ := X1059.virtualBack hx (y := (⟨"com/example/clearingd/clearingd/store/PositionSet", "sortedBelow", "(J)[J"⟩ : MethodName)) (z := (⟨"com/example/clearingd/clearingd/store/PositionSet", "sortedBelow", "(J)[J"⟩ : MethodName)) hown (mvT hZ (hw _ (List.mem_of_getElem? (i := 54) rfl))) (mvT hZ (hw _ (List.mem_of_getElem? (i := 55) rfl))) (notFace_of_selects (args := #[]) (mvT hZ (hw _ (List.mem_of_getElem? (i := 57) rfl)))) (mvT hZ (hw _ (List.mem_of_getElem? (i := 57) rfl))) (mvT hZ (hw _ (List.mem_of_getElem? (i := 56) rfl))) (by decide) (backOf (W := 0) (rmsb0 l Z a0 hw [] ps sa ta ks kt z M cz C own_E g4 (0 : Int32) h1050 n0 Z1050 f1051 f1052 f1053 f1054 f1055 f1056 f1057 f1058 ne1020 ne1021 ne1022 hz hM hmk hcz (own_InvE M _ 3 C)) hZ (hw _ (List.mem_of_getElem? (i := 58) rfl)) (hw _ (List.mem_of_getElem? (i := 7) rfl)) (by decide) (by decide)) q1060a q1060c (g := (mkF m 110 #[.val (.int p1), .val (.long p2), .second, .val (.long p3), .second, .val (.long p4), .second, .val (.long p5), .second, .val (.int cz), .val (.int v1002), .val (.long v1004), .second, .val (.long v1006), .second, .val (.long v1008), .second, .val (.long v1010), .second, .val (.ref ps), .unset, .unset] [(.long (9223372036854775807 : Int64)), (.ref ps)])) rfl (by rw [hml]; rfl) (Steps.refl _) (argsL := [(.long (9223372036854775807 : Int64))]) (rest := []) (lenOf pd_10 rfl) rfl (by show 2 * 0 + _ ≤ _; exact Nat.le_of_eq rfl) (hb hby at_110) (fun _ _ => ⟨rfl, e1059, (by decide : 3 + 0 + 1 ≤ _), (by decide : 25 + 0 + 0 ≤ _)⟩)
            dsimp only [Pt.U, Pt.locs, Pt.cells, Pt.slots] at X1060 l1060 y1060 z1060 st1060 hQ1060
            subst l1060 y1060 z1060
            obtain ⟨rv_1060, kv_1060, rfl, N1060q, p1061, p1062, p1063⟩ := hQ1060
            have N1060 := Fr.app N1059 N1060q
            refine OEnds.st (fun _ k => st1060.trans k) ?_
            clear st1060
            have ne1064 : ps ≠ rv_1060 := Nat.ne_of_lt (Nat.lt_of_lt_of_le (f1051).lt p1062)
            have ne1065 : sa ≠ rv_1060 := Nat.ne_of_lt (Nat.lt_of_lt_of_le (f1057).lt p1062)
            have ne1066 : ta ≠ rv_1060 := Nat.ne_of_lt (Nat.lt_of_lt_of_le (f1058).lt p1062)
            have sz_rv_1060 : h0.size ≤ rv_1060 := Nat.le_trans KK1050.1 p1062
            have ge_rv_1060 : n0 ≤ rv_1060 := Nat.le_trans Z1050 p1062
            have f1067 : Exa Z T1060.heap ps "com/example/clearingd/clearingd/store/PositionSet" := f1051.keep p1061
            have f1068 : Fld Z T1060.heap ps "com/example/clearingd/clearingd/store/PositionSet" "slots" "[J" (.ref sa) := f1052.keep p1061 (List.not_mem_nil)
            have f1069 : Fld Z T1060.heap ps "com/example/clearingd/clearingd/store/PositionSet" "taken" "[I" (.ref ta) := f1053.keep p1061 (List.not_mem_nil)
            have f1070 : Fld Z T1060.heap ps "com/example/clearingd/clearingd/store/PositionSet" "capacity" "I" (.int cz) := f1054.keep p1061 (List.not_mem_nil)
            have f1071 : Fld Z T1060.heap ps "com/example/clearingd/clearingd/store/PositionSet" "size" "I" (.int (0 : Int32)) := f1055.keep p1061 (List.not_mem_nil)
            have f1072 : Fld Z T1060.heap ps "com/example/clearingd/clearingd/store/PositionSet" "overflowed" "Z" (.int (0 : Int32)) := f1056.keep p1061 (List.not_mem_nil)
            have f1073 : Arv Z T1060.heap sa ks .long z (own_T M own_E) (.long (0 : Int64)) := f1057.keep p1061 (List.not_mem_nil)
            have f1074 : Arv Z T1060.heap ta kt .int cz (own_G C g4) (.int (0 : Int32)) := f1058.keep p1061 (List.not_mem_nil)
            have KK1060 : Keep h0 T1060.heap [] := KK1050.trans p1061 (fun x hx => absurd hx List.not_mem_nil)
            have Z1060 := Nat.le_trans Z1050 p1061.1
            show OEnds p.tables e below G (T1060.setTop (mkF m 113 #[.val (.int p1), .val (.long p2), .second, .val (.long p3), .second, .val (.long p4), .second, .val (.long p5), .second, .val (.int cz), .val (.int v1002), .val (.long v1004), .second, .val (.long v1006), .second, .val (.long v1008), .second, .val (.long v1010), .second, .val (.ref ps), .unset, .unset] [(.ref rv_1060)]))
            obtain ⟨cl1075, Ar1075, -, S1075, N1075n, -, -⟩ := id p1063
            refine OEnds.st (X1060.arraylength hx Ar1075.1 (State.isArrayOf_alike hZ.alike Ar1075.2.1) (g := (mkF m 113 #[.val (.int p1), .val (.long p2), .second, .val (.long p3), .second, .val (.long p4), .second, .val (.long p5), .second, .val (.int cz), .val (.int v1002), .val (.long v1004), .second, .val (.long v1006), .second, .val (.long v1008), .second, .val (.long v1010), .second, .val (.ref ps), .unset, .unset] [(.ref rv_1060)])) rfl rfl (hb hby at_113)) ?_
            rw [len_of S1075 N1075n]
            show OEnds p.tables e below G (T1060.setTop (mkF m 114 #[.val (.int p1), .val (.long p2), .second, .val (.long p3), .second, .val (.long p4), .second, .val (.long p5), .second, .val (.int cz), .val (.int v1002), .val (.long v1004), .second, .val (.long v1006), .second, .val (.long v1008), .second, .val (.long v1010), .second, .val (.ref ps), .unset, .unset] [(.int (0 : Int32))]))
            refine OEnds.st (fun _ k => XS.ifYes X1060.here hx rfl (pc0 := 114) (pc' := 119) rfl (hb hby at_114) rfl ((if0 _ _).trans (teq (by decide : (0 : Int32) = (0 : Int32))).1) (by decide) (by decide) k) ?_
            show OEnds p.tables e below G (T1060.setTop (mkF m 119 #[.val (.int p1), .val (.long p2), .second, .val (.long p3), .second, .val (.long p4), .second, .val (.long p5), .second, .val (.int cz), .val (.int v1002), .val (.long v1004), .second, .val (.long v1006), .second, .val (.long v1008), .second, .val (.long v1010), .second, .val (.ref ps), .unset, .unset] []))
            refine OEnds.st (fun _ k => XS.aload X1060.here hx rfl (hb hby at_119) rfl rfl k) ?_
            show OEnds p.tables e below G (T1060.setTop (mkF m 121 #[.val (.int p1), .val (.long p2), .second, .val (.long p3), .second, .val (.long p4), .second, .val (.long p5), .second, .val (.int cz), .val (.int v1002), .val (.long v1004), .second, .val (.long v1006), .second, .val (.long v1008), .second, .val (.long v1010), .second, .val (.ref ps), .unset, .unset] [(.ref ps)]))
            refine OEnds.st (fun _ k => XS.lload X1060.here hx rfl (hb hby at_121) rfl k) ?_
            show OEnds p.tables e below G (T1060.setTop (mkF m 123 #[.val (.int p1), .val (.long p2), .second, .val (.long p3), .second, .val (.long p4), .second, .val (.long p5), .second, .val (.int cz), .val (.int v1002), .val (.long v1004), .second, .val (.long v1006), .second, .val (.long v1008), .second, .val (.long v1010), .second, .val (.ref ps), .unset, .unset] [(.long v1004), (.ref ps)]))
            obtain ⟨cq1076, kq1076, q1076a, q1076b, q1076c⟩ := isOf hZ rfl f1067
            obtain ⟨_, _, ⟨T1076, L1076, k1076c, n1076c⟩, -, X1076, ⟨Lc1076, hQ1076, l1076, y1076, z1076⟩, st1076⟩ := X1060.virtualBack hx (y := (⟨"com/example/clearingd/clearingd/store/PositionSet", "add", "(J)V"⟩ : MethodName)) (z := (⟨"com/example/clearingd/clearingd/store/PositionSet", "add", "(J)V"⟩ : MethodName)) hown (mvT hZ (hw _ (List.mem_of_getElem? (i := 72) rfl))) (mvT hZ (hw _ (List.mem_of_getElem? (i := 73) rfl))) (notFace_of_selects (args := #[]) (mvT hZ (hw _ (List.mem_of_getElem? (i := 75) rfl)))) (mvT hZ (hw _ (List.mem_of_getElem? (i := 75) rfl))) (mvT hZ (hw _ (List.mem_of_getElem? (i := 74) rfl))) (by decide) (backOf (W := 0) (rm15 l Z a0 hw [] ps v1004 sa ta ks kt z M cz C own_E g4 (0 : Int32) (0 : Int32) T1060.heap n0 Z1060 f1067 f1068 f1069 f1070 f1071 f1072 f1073 f1074 g_ps g_sa g_ta ne1020 ne1021 ne1022 hz hM hmk hcz (own_InvE M _ 2 C)) hZ (hw _ (List.mem_of_getElem? (i := 76) rfl)) (hw _ (List.mem_of_getElem? (i := 7) rfl)) (by decide) (by decide)) q1076a q1076c (g := (mkF m 123 #[.val (.int p1), .val (.long p2), .second, .val (.long p3), .second, .val (.long p4), .second, .val (.long p5), .second, .val (.int cz), .val (.int v1002), .val (.long v1004), .second, .val (.long v1006), .second, .val (.long v1008), .second, .val (.long v1010), .second, .val (.ref ps), .unset, .unset] [(.long v1004), (.ref ps)])) rfl (by rw [hml]; rfl) (Steps.refl _) (argsL := [(.long v1004)]) (rest := []) (lenOf pd_11 rfl) rfl (by show 2 * 0 + _ ≤ _; exact Nat.le_of_eq rfl) (hb hby at_123) (fun _ _ => ⟨rfl, rfl, (by decide : 3 + 0 + 1 + 0 ≤ _), (by decide : 25 + 0 + 0 + 0 ≤ _)⟩)
            dsimp only [Pt.U, Pt.locs, Pt.cells, Pt.slots] at X1076 l1076 y1076 z1076 st1076 hQ1076
            subst l1076 y1076 z1076
            obtain ⟨f1_1076, g1_1076, m1_1076, o1_1076, rfl, N1076q, p1077, p1078, p1079, p1080, p1081, p1082, p1083, p1084, p1085, p1086⟩ := hQ1076
            have N1076 := Fr.app N1060 N1076q
            refine OEnds.st (fun _ k => st1076.trans k) ?_
            clear st1076
            have f1087 : Exa Z T1076.heap ps "com/example/clearingd/clearingd/store/PositionSet" := f1067.keep p1077
            have f1095 : Arv Z T1076.heap rv_1060 kv_1060 .long (0 : Int32) [] (.long (0 : Int64)) := p1063.keep p1077 (by simp only [List.mem_cons, List.not_mem_nil, or_false, not_or]; exact ⟨(Ne.symm ne1064), (Ne.symm ne1065), (Ne.symm ne1066)⟩)
            have KK1076 : Keep h0 T1076.heap [] := KK1060.trans p1077 (fun x hx => by rcases List.mem_cons.mp hx with rfl | hx; exact Or.inr z_ps; rcases List.mem_cons.mp hx with rfl | hx; exact Or.inr z_sa; cases List.mem_singleton.mp hx; exact Or.inr z_ta)
            have Z1076 := Nat.le_trans Z1060 p1077.1
            have hK1 := own_keepI (by decide) hcz (own_InvE M _ 0 C) p1086
            obtain ⟨v1, hv1, ef1, eg1, em1, eo1⟩ := own_S1 p1086 hc0
            subst em1 eo1
            show OEnds p.tables e below G (T1076.setTop (mkF m 126 #[.val (.int p1), .val (.long p2), .second, .val (.long p3), .second, .val (.long p4), .second, .val (.long p5), .second, .val (.int cz), .val (.int v1002), .val (.long v1004), .second, .val (.long v1006), .second, .val (.long v1008), .second, .val (.long v1010), .second, .val (.ref ps), .unset, .unset] []))
            refine OEnds.st (fun _ k => XS.aload X1076.here hx rfl (hb hby at_126) rfl rfl k) ?_
            show OEnds p.tables e below G (T1076.setTop (mkF m 128 #[.val (.int p1), .val (.long p2), .second, .val (.long p3), .second, .val (.long p4), .second, .val (.long p5), .second, .val (.int cz), .val (.int v1002), .val (.long v1004), .second, .val (.long v1006), .second, .val (.long v1008), .second, .val (.long v1010), .second, .val (.ref ps), .unset, .unset] [(.ref ps)]))
            refine OEnds.st (fun _ k => XS.lload X1076.here hx rfl (hb hby at_128) rfl k) ?_
            show OEnds p.tables e below G (T1076.setTop (mkF m 130 #[.val (.int p1), .val (.long p2), .second, .val (.long p3), .second, .val (.long p4), .second, .val (.long p5), .second, .val (.int cz), .val (.int v1002), .val (.long v1004), .second, .val (.long v1006), .second, .val (.long v1008), .second, .val (.long v1010), .second, .val (.ref ps), .unset, .unset] [(.long v1010), (.ref ps)]))
            obtain ⟨cq1096, kq1096, q1096a, q1096b, q1096c⟩ := isOf hZ rfl p1078
            obtain ⟨_, _, ⟨T1096, L1096, k1096c, n1096c⟩, -, X1096, ⟨Lc1096, hQ1096, l1096, y1096, z1096⟩, st1096⟩ := X1076.virtualBack hx (y := (⟨"com/example/clearingd/clearingd/store/PositionSet", "add", "(J)V"⟩ : MethodName)) (z := (⟨"com/example/clearingd/clearingd/store/PositionSet", "add", "(J)V"⟩ : MethodName)) hown (mvT hZ (hw _ (List.mem_of_getElem? (i := 72) rfl))) (mvT hZ (hw _ (List.mem_of_getElem? (i := 73) rfl))) (notFace_of_selects (args := #[]) (mvT hZ (hw _ (List.mem_of_getElem? (i := 75) rfl)))) (mvT hZ (hw _ (List.mem_of_getElem? (i := 75) rfl))) (mvT hZ (hw _ (List.mem_of_getElem? (i := 74) rfl))) (by decide) (backOf (W := 0) (rm15 l Z a0 hw [] ps v1010 sa ta ks kt z M cz C f1_1076 g1_1076 (1 : Int32) (0 : Int32) T1076.heap n0 Z1076 p1078 p1079 p1080 p1081 p1082 p1083 p1084 p1085 g_ps g_sa g_ta ne1020 ne1021 ne1022 hz hM hmk hcz (own_wid (by decide) hK1)) hZ (hw _ (List.mem_of_getElem? (i := 76) rfl)) (hw _ (List.mem_of_getElem? (i := 7) rfl)) (by decide) (by decide)) q1096a q1096c (g := (mkF m 130 #[.val (.int p1), .val (.long p2), .second, .val (.long p3), .second, .val (.long p4), .second, .val (.long p5), .second, .val (.int cz), .val (.int v1002), .val (.long v1004), .second, .val (.long v1006), .second, .val (.long v1008), .second, .val (.long v1010), .second, .val (.ref ps), .unset, .unset] [(.long v1010), (.ref ps)])) rfl (by rw [hml]; rfl) (Steps.refl _) (argsL := [(.long v1010)]) (rest := []) (lenOf pd_11 rfl) rfl (by show 2 * 0 + _ ≤ _; exact Nat.le_of_eq rfl) (hb hby at_130) (fun _ _ => ⟨rfl, rfl, (by decide : 3 + 0 + 1 + 0 + 0 ≤ _), (by decide : 25 + 0 + 0 + 0 + 0 ≤ _)⟩)
            dsimp only [Pt.U, Pt.locs, Pt.cells, Pt.slots] at X1096 l1096 y1096 z1096 st1096 hQ1096
            subst l1096 y1096 z1096
            obtain ⟨f1_1096, g1_1096, m1_1096, o1_1096, rfl, N1096q, p1097, p1098, p1099, p1100, p1101, p1102, p1103, p1104, p1105, p1106⟩ := hQ1096
            have N1096 := Fr.app N1076 N1096q
            refine OEnds.st (fun _ k => st1096.trans k) ?_
            clear st1096
            have f1107 : Exa Z T1096.heap ps "com/example/clearingd/clearingd/store/PositionSet" := p1078.keep p1097
            have f1108 : Arv Z T1096.heap rv_1060 kv_1060 .long (0 : Int32) [] (.long (0 : Int64)) := f1095.keep p1097 (by simp only [List.mem_cons, List.not_mem_nil, or_false, not_or]; exact ⟨(Ne.symm ne1064), (Ne.symm ne1065), (Ne.symm ne1066)⟩)
            have KK1096 : Keep h0 T1096.heap [] := KK1076.trans p1097 (fun x hx => by rcases List.mem_cons.mp hx with rfl | hx; exact Or.inr z_ps; rcases List.mem_cons.mp hx with rfl | hx; exact Or.inr z_sa; cases List.mem_singleton.mp hx; exact Or.inr z_ta)
            have Z1096 := Nat.le_trans Z1076 p1097.1
            have hK2 := own_keepI (by decide) hcz hK1 p1106
            have hK3 := own_wid (b' := 3) (by decide) hK2
            by_cases har : v1004 = v1010
            ·
              have hS2 := p1106
              rw [← har] at hS2
              obtain ⟨em2, eo2, hx0⟩ := own_S2a hma hv1 ef1 eg1 hS2
              subst em2 eo2
              show OEnds p.tables e below G (T1096.setTop (mkF m 133 #[.val (.int p1), .val (.long p2), .second, .val (.long p3), .second, .val (.long p4), .second, .val (.long p5), .second, .val (.int cz), .val (.int v1002), .val (.long v1004), .second, .val (.long v1006), .second, .val (.long v1008), .second, .val (.long v1010), .second, .val (.ref ps), .unset, .unset] []))
              refine OEnds.st (fun _ k => XS.aload X1096.here hx rfl (hb hby at_133) rfl rfl k) ?_
              show OEnds p.tables e below G (T1096.setTop (mkF m 135 #[.val (.int p1), .val (.long p2), .second, .val (.long p3), .second, .val (.long p4), .second, .val (.long p5), .second, .val (.int cz), .val (.int v1002), .val (.long v1004), .second, .val (.long v1006), .second, .val (.long v1008), .second, .val (.long v1010), .second, .val (.ref ps), .unset, .unset] [(.ref ps)]))
              refine OEnds.st (X1096.ldc2Long hx hown (mvT hZ (hw _ (List.mem_of_getElem? (i := 4) rfl))) (g := (mkF m 135 #[.val (.int p1), .val (.long p2), .second, .val (.long p3), .second, .val (.long p4), .second, .val (.long p5), .second, .val (.int cz), .val (.int v1002), .val (.long v1004), .second, .val (.long v1006), .second, .val (.long v1008), .second, .val (.long v1010), .second, .val (.ref ps), .unset, .unset] [(.ref ps)])) rfl (hb hby at_135)) ?_
              show OEnds p.tables e below G (T1096.setTop (mkF m 138 #[.val (.int p1), .val (.long p2), .second, .val (.long p3), .second, .val (.long p4), .second, .val (.long p5), .second, .val (.int cz), .val (.int v1002), .val (.long v1004), .second, .val (.long v1006), .second, .val (.long v1008), .second, .val (.long v1010), .second, .val (.ref ps), .unset, .unset] [(.long (9223372036854775807 : Int64)), (.ref ps)]))
              obtain ⟨cq1116, kq1116, q1116a, q1116b, q1116c⟩ := isOf hZ rfl p1098
              obtain ⟨_, _, ⟨T1116, L1116, k1116c, n1116c⟩, -, X1116, ⟨Lc1116, hQ1116, l1116, y1116, z1116⟩, st1116⟩ := X1096.virtualBack hx (y := (⟨"com/example/clearingd/clearingd/store/PositionSet", "sortedBelow", "(J)[J"⟩ : MethodName)) (z := (⟨"com/example/clearingd/clearingd/store/PositionSet", "sortedBelow", "(J)[J"⟩ : MethodName)) hown (mvT hZ (hw _ (List.mem_of_getElem? (i := 54) rfl))) (mvT hZ (hw _ (List.mem_of_getElem? (i := 55) rfl))) (notFace_of_selects (args := #[]) (mvT hZ (hw _ (List.mem_of_getElem? (i := 57) rfl)))) (mvT hZ (hw _ (List.mem_of_getElem? (i := 57) rfl))) (mvT hZ (hw _ (List.mem_of_getElem? (i := 56) rfl))) (by decide) (backOf (W := 0) (rmsb1 l Z a0 hw [] ps sa ta ks kt z M cz C f1_1096 g1_1096 (0 : Int32) v1004 T1096.heap n0 Z1096 p1098 p1099 p1100 p1101 p1102 p1103 p1104 p1105 ne1020 ne1021 ne1022 hz hM hmk hcz hK3 hx0 hla) hZ (hw _ (List.mem_of_getElem? (i := 58) rfl)) (hw _ (List.mem_of_getElem? (i := 7) rfl)) (by decide) (by decide)) q1116a q1116c (g := (mkF m 138 #[.val (.int p1), .val (.long p2), .second, .val (.long p3), .second, .val (.long p4), .second, .val (.long p5), .second, .val (.int cz), .val (.int v1002), .val (.long v1004), .second, .val (.long v1006), .second, .val (.long v1008), .second, .val (.long v1010), .second, .val (.ref ps), .unset, .unset] [(.long (9223372036854775807 : Int64)), (.ref ps)])) rfl (by rw [hml]; rfl) (Steps.refl _) (argsL := [(.long (9223372036854775807 : Int64))]) (rest := []) (lenOf pd_10 rfl) rfl (by show 2 * 0 + _ ≤ _; exact Nat.le_of_eq rfl) (hb hby at_138) (fun _ _ => ⟨rfl, rfl, (by decide : 3 + 0 + 1 + 0 + 0 + 1 ≤ _), (by decide : 25 + 0 + 0 + 0 + 0 + 1 ≤ _)⟩)
              dsimp only [Pt.U, Pt.locs, Pt.cells, Pt.slots] at X1116 l1116 y1116 z1116 st1116 hQ1116
              subst l1116 y1116 z1116
              obtain ⟨rv_1116, kv_1116, rfl, N1116q, p1117, p1118, p1119⟩ := hQ1116
              have N1116 := Fr.app N1096 N1116q
              refine OEnds.st (fun _ k => st1116.trans k) ?_
              clear st1116
              have ne1120 : ps ≠ rv_1116 := Nat.ne_of_lt (Nat.lt_of_lt_of_le (p1098).lt p1118)
              have ne1121 : rv_1060 ≠ rv_1116 := Nat.ne_of_lt (Nat.lt_of_lt_of_le (f1108).lt p1118)
              have ne1122 : sa ≠ rv_1116 := Nat.ne_of_lt (Nat.lt_of_lt_of_le (p1104).lt p1118)
              have ne1123 : ta ≠ rv_1116 := Nat.ne_of_lt (Nat.lt_of_lt_of_le (p1105).lt p1118)
              have sz_rv_1116 : h0.size ≤ rv_1116 := Nat.le_trans KK1096.1 p1118
              have ge_rv_1116 : n0 ≤ rv_1116 := Nat.le_trans Z1096 p1118
              have f1124 : Exa Z T1116.heap ps "com/example/clearingd/clearingd/store/PositionSet" := p1098.keep p1117
              have f1125 : Arv Z T1116.heap rv_1060 kv_1060 .long (0 : Int32) [] (.long (0 : Int64)) := f1108.keep p1117 (List.not_mem_nil)
              have f1126 : Fld Z T1116.heap ps "com/example/clearingd/clearingd/store/PositionSet" "slots" "[J" (.ref sa) := p1099.keep p1117 (List.not_mem_nil)
              have f1127 : Fld Z T1116.heap ps "com/example/clearingd/clearingd/store/PositionSet" "taken" "[I" (.ref ta) := p1100.keep p1117 (List.not_mem_nil)
              have f1128 : Fld Z T1116.heap ps "com/example/clearingd/clearingd/store/PositionSet" "capacity" "I" (.int cz) := p1101.keep p1117 (List.not_mem_nil)
              have f1129 : Fld Z T1116.heap ps "com/example/clearingd/clearingd/store/PositionSet" "size" "I" (.int (1 : Int32)) := p1102.keep p1117 (List.not_mem_nil)
              have f1130 : Fld Z T1116.heap ps "com/example/clearingd/clearingd/store/PositionSet" "overflowed" "Z" (.int (0 : Int32)) := p1103.keep p1117 (List.not_mem_nil)
              have f1131 : Arv Z T1116.heap sa ks .long z (own_T M f1_1096) (.long (0 : Int64)) := p1104.keep p1117 (List.not_mem_nil)
              have f1132 : Arv Z T1116.heap ta kt .int cz (own_G C g1_1096) (.int (0 : Int32)) := p1105.keep p1117 (List.not_mem_nil)
              have KK1116 : Keep h0 T1116.heap [] := KK1096.trans p1117 (fun x hx => absurd hx List.not_mem_nil)
              have Z1116 := Nat.le_trans Z1096 p1117.1
              show OEnds p.tables e below G (T1116.setTop (mkF m 141 #[.val (.int p1), .val (.long p2), .second, .val (.long p3), .second, .val (.long p4), .second, .val (.long p5), .second, .val (.int cz), .val (.int v1002), .val (.long v1004), .second, .val (.long v1006), .second, .val (.long v1008), .second, .val (.long v1010), .second, .val (.ref ps), .unset, .unset] [(.ref rv_1116)]))
              refine OEnds.st (fun _ k => XS.astore X1116.here hx rfl (hb hby at_141) rfl rfl (l' := #[.val (.int p1), .val (.long p2), .second, .val (.long p3), .second, .val (.long p4), .second, .val (.long p5), .second, .val (.int cz), .val (.int v1002), .val (.long v1004), .second, .val (.long v1006), .second, .val (.long v1008), .second, .val (.long v1010), .second, .val (.ref ps), .val (.ref rv_1116), .unset]) rfl k) ?_
              show OEnds p.tables e below G (T1116.setTop (mkF m 143 #[.val (.int p1), .val (.long p2), .second, .val (.long p3), .second, .val (.long p4), .second, .val (.long p5), .second, .val (.int cz), .val (.int v1002), .val (.long v1004), .second, .val (.long v1006), .second, .val (.long v1008), .second, .val (.long v1010), .second, .val (.ref ps), .val (.ref rv_1116), .unset] []))
              refine OEnds.st (fun _ k => XS.aload X1116.here hx rfl (hb hby at_143) rfl rfl k) ?_
              show OEnds p.tables e below G (T1116.setTop (mkF m 145 #[.val (.int p1), .val (.long p2), .second, .val (.long p3), .second, .val (.long p4), .second, .val (.long p5), .second, .val (.int cz), .val (.int v1002), .val (.long v1004), .second, .val (.long v1006), .second, .val (.long v1008), .second, .val (.long v1010), .second, .val (.ref ps), .val (.ref rv_1116), .unset] [(.ref ps)]))
              obtain ⟨cq1133, kq1133, q1133a, q1133b, q1133c⟩ := isOf hZ rfl f1124
              obtain ⟨_, _, ⟨T1133, L1133, k1133c, n1133c⟩, -, X1133, ⟨Lc1133, hQ1133, l1133, y1133, z1133⟩, st1133⟩ := X1116.virtualBack hx (y := (⟨"com/example/clearingd/clearingd/store/PositionSet", "overflowed", "()Z"⟩ : MethodName)) (z := (⟨"com/example/clearingd/clearingd/store/PositionSet", "overflowed", "()Z"⟩ : MethodName)) hown (mvT hZ (hw _ (List.mem_of_getElem? (i := 49) rfl))) (mvT hZ (hw _ (List.mem_of_getElem? (i := 50) rfl))) (notFace_of_selects (args := #[]) (mvT hZ (hw _ (List.mem_of_getElem? (i := 52) rfl)))) (mvT hZ (hw _ (List.mem_of_getElem? (i := 52) rfl))) (mvT hZ (hw _ (List.mem_of_getElem? (i := 51) rfl))) (by decide) (backOf (W := 0) (rm9 l Z a0 hw [] ps (0 : Int32) T1116.heap n0 Z1116 f1130 rfl) hZ (hw _ (List.mem_of_getElem? (i := 53) rfl)) (hw _ (List.mem_of_getElem? (i := 7) rfl)) (by decide) (by decide)) q1133a q1133c (g := (mkF m 145 #[.val (.int p1), .val (.long p2), .second, .val (.long p3), .second, .val (.long p4), .second, .val (.long p5), .second, .val (.int cz), .val (.int v1002), .val (.long v1004), .second, .val (.long v1006), .second, .val (.long v1008), .second, .val (.long v1010), .second, .val (.ref ps), .val (.ref rv_1116), .unset] [(.ref ps)])) rfl (by rw [hml]; rfl) (Steps.refl _) (argsL := []) (rest := []) (lenOf pd_9 rfl) rfl (by show 2 * 0 + _ ≤ _; exact Nat.le_of_eq rfl) (hb hby at_145) (fun _ _ => ⟨rfl, rfl, (by decide : 3 + 0 + 1 + 0 + 0 + 1 + 0 ≤ _), (by decide : 25 + 0 + 0 + 0 + 0 + 1 + 0 ≤ _)⟩)
              dsimp only [Pt.U, Pt.locs, Pt.cells, Pt.slots] at X1133 l1133 y1133 z1133 st1133 hQ1133
              subst l1133 y1133 z1133
              obtain ⟨rfl, N1133q, e1133⟩ := hQ1133
              have N1133 := Fr.app N1116 N1133q
              refine OEnds.st (fun _ k => st1133.trans k) ?_
              clear st1133
              show OEnds p.tables e below G (T1133.setTop (mkF m 148 #[.val (.int p1), .val (.long p2), .second, .val (.long p3), .second, .val (.long p4), .second, .val (.long p5), .second, .val (.int cz), .val (.int v1002), .val (.long v1004), .second, .val (.long v1006), .second, .val (.long v1008), .second, .val (.long v1010), .second, .val (.ref ps), .val (.ref rv_1116), .unset] [(.int (0 : Int32))]))
              refine OEnds.st (fun _ k => XS.istore X1133.here hx rfl (hb hby at_148) rfl (l' := #[.val (.int p1), .val (.long p2), .second, .val (.long p3), .second, .val (.long p4), .second, .val (.long p5), .second, .val (.int cz), .val (.int v1002), .val (.long v1004), .second, .val (.long v1006), .second, .val (.long v1008), .second, .val (.long v1010), .second, .val (.ref ps), .val (.ref rv_1116), .val (.int (0 : Int32))]) rfl k) ?_
              show OEnds p.tables e below G (T1133.setTop (mkF m 150 #[.val (.int p1), .val (.long p2), .second, .val (.long p3), .second, .val (.long p4), .second, .val (.long p5), .second, .val (.int cz), .val (.int v1002), .val (.long v1004), .second, .val (.long v1006), .second, .val (.long v1008), .second, .val (.long v1010), .second, .val (.ref ps), .val (.ref rv_1116), .val (.int (0 : Int32))] []))
              refine OEnds.st (fun _ k => XS.lload X1133.here hx rfl (hb hby at_150) rfl k) ?_
              show OEnds p.tables e below G (T1133.setTop (mkF m 152 #[.val (.int p1), .val (.long p2), .second, .val (.long p3), .second, .val (.long p4), .second, .val (.long p5), .second, .val (.int cz), .val (.int v1002), .val (.long v1004), .second, .val (.long v1006), .second, .val (.long v1008), .second, .val (.long v1010), .second, .val (.ref ps), .val (.ref rv_1116), .val (.int (0 : Int32))] [(.long v1004)]))
              refine OEnds.st (fun _ k => XS.lload X1133.here hx rfl (hb hby at_152) rfl k) ?_
              show OEnds p.tables e below G (T1133.setTop (mkF m 154 #[.val (.int p1), .val (.long p2), .second, .val (.long p3), .second, .val (.long p4), .second, .val (.long p5), .second, .val (.int cz), .val (.int v1002), .val (.long v1004), .second, .val (.long v1006), .second, .val (.long v1008), .second, .val (.long v1010), .second, .val (.ref ps), .val (.ref rv_1116), .val (.int (0 : Int32))] [(.long v1010), (.long v1004)]))
              refine OEnds.st (fun _ k => XS.lcmp X1133.here hx rfl (hb hby at_154) rfl k) ?_
              show OEnds p.tables e below G (T1133.setTop (mkF m 155 #[.val (.int p1), .val (.long p2), .second, .val (.long p3), .second, .val (.long p4), .second, .val (.long p5), .second, .val (.int cz), .val (.int v1002), .val (.long v1004), .second, .val (.long v1006), .second, .val (.long v1008), .second, .val (.long v1010), .second, .val (.ref ps), .val (.ref rv_1116), .val (.int (0 : Int32))] [(.int (lcmpW v1004 v1010))]))
              refine OEnds.st (fun _ k => XS.ifNo X1133.here hx rfl (hb hby at_155) rfl ((if0 _ _).trans (teq ((lw_eq v1004 v1010).mpr har)).2) k) ?_
              show OEnds p.tables e below G (T1133.setTop (mkF m 158 #[.val (.int p1), .val (.long p2), .second, .val (.long p3), .second, .val (.long p4), .second, .val (.long p5), .second, .val (.int cz), .val (.int v1002), .val (.long v1004), .second, .val (.long v1006), .second, .val (.long v1008), .second, .val (.long v1010), .second, .val (.ref ps), .val (.ref rv_1116), .val (.int (0 : Int32))] []))
              refine OEnds.st (fun _ k => XS.aload X1133.here hx rfl (hb hby at_158) rfl rfl k) ?_
              show OEnds p.tables e below G (T1133.setTop (mkF m 160 #[.val (.int p1), .val (.long p2), .second, .val (.long p3), .second, .val (.long p4), .second, .val (.long p5), .second, .val (.int cz), .val (.int v1002), .val (.long v1004), .second, .val (.long v1006), .second, .val (.long v1008), .second, .val (.long v1010), .second, .val (.ref ps), .val (.ref rv_1116), .val (.int (0 : Int32))] [(.ref rv_1116)]))
              obtain ⟨cl1134, Ar1134, -, S1134, N1134n, -, -⟩ := id p1119
              refine OEnds.st (X1133.arraylength hx (by rw [e1133]; exact Ar1134.1) (State.isArrayOf_alike hZ.alike Ar1134.2.1) (g := (mkF m 160 #[.val (.int p1), .val (.long p2), .second, .val (.long p3), .second, .val (.long p4), .second, .val (.long p5), .second, .val (.int cz), .val (.int v1002), .val (.long v1004), .second, .val (.long v1006), .second, .val (.long v1008), .second, .val (.long v1010), .second, .val (.ref ps), .val (.ref rv_1116), .val (.int (0 : Int32))] [(.ref rv_1116)])) rfl rfl (hb hby at_160)) ?_
              rw [len_of S1134 N1134n]
              show OEnds p.tables e below G (T1133.setTop (mkF m 161 #[.val (.int p1), .val (.long p2), .second, .val (.long p3), .second, .val (.long p4), .second, .val (.long p5), .second, .val (.int cz), .val (.int v1002), .val (.long v1004), .second, .val (.long v1006), .second, .val (.long v1008), .second, .val (.long v1010), .second, .val (.ref ps), .val (.ref rv_1116), .val (.int (0 : Int32))] [(.int (1 : Int32))]))
              refine OEnds.st (fun _ k => XS.iconst X1133.here hx rfl (hb hby at_161) k) ?_
              show OEnds p.tables e below G (T1133.setTop (mkF m 162 #[.val (.int p1), .val (.long p2), .second, .val (.long p3), .second, .val (.long p4), .second, .val (.long p5), .second, .val (.int cz), .val (.int v1002), .val (.long v1004), .second, .val (.long v1006), .second, .val (.long v1008), .second, .val (.long v1010), .second, .val (.ref ps), .val (.ref rv_1116), .val (.int (0 : Int32))] [(.int (1 : Int32)), (.int (1 : Int32))]))
              refine OEnds.st (fun _ k => XS.icmpNo X1133.here hx rfl (hb hby at_162) rfl (teq (by decide : (1 : Int32) = (1 : Int32))).2 k) ?_
              show OEnds p.tables e below G (T1133.setTop (mkF m 165 #[.val (.int p1), .val (.long p2), .second, .val (.long p3), .second, .val (.long p4), .second, .val (.long p5), .second, .val (.int cz), .val (.int v1002), .val (.long v1004), .second, .val (.long v1006), .second, .val (.long v1008), .second, .val (.long v1010), .second, .val (.ref ps), .val (.ref rv_1116), .val (.int (0 : Int32))] []))
              refine OEnds.st (fun _ k => XS.aload X1133.here hx rfl (hb hby at_165) rfl rfl k) ?_
              show OEnds p.tables e below G (T1133.setTop (mkF m 167 #[.val (.int p1), .val (.long p2), .second, .val (.long p3), .second, .val (.long p4), .second, .val (.long p5), .second, .val (.int cz), .val (.int v1002), .val (.long v1004), .second, .val (.long v1006), .second, .val (.long v1008), .second, .val (.long v1010), .second, .val (.ref ps), .val (.ref rv_1116), .val (.int (0 : Int32))] [(.ref rv_1116)]))
              refine OEnds.st (fun _ k => XS.iconst X1133.here hx rfl (hb hby at_167) k) ?_
              show OEnds p.tables e below G (T1133.setTop (mkF m 168 #[.val (.int p1), .val (.long p2), .second, .val (.long p3), .second, .val (.long p4), .second, .val (.long p5), .second, .val (.int cz), .val (.int v1002), .val (.long v1004), .second, .val (.long v1006), .second, .val (.long v1008), .second, .val (.long v1010), .second, .val (.ref ps), .val (.ref rv_1116), .val (.int (0 : Int32))] [(.int (0 : Int32)), (.ref rv_1116)]))
              obtain ⟨cl1135, Ar1135, q1135, S1135, N1135n, H1135, G1135⟩ := id p1119
              have hin1135 : ¬ ((0 : Int32) < 0 ∨ cl1135.slots.size ≤ ((0 : Int32)).toNatClampNeg) := inb_of S1135 ⟨by decide, by decide⟩
              have hat1135 : cl1135.slots[((0 : Int32)).toNatClampNeg]? = some (.long v1004) := H1135.at hin1135 rfl
              refine OEnds.st (X1133.laload hx (j := (0 : Int32)) (v := (.long v1004)) (by rw [e1133]; exact Ar1135.1) (State.isArrayOf_alike hZ.alike Ar1135.2.1) Ar1135.2.2 hin1135 hat1135 (g := (mkF m 168 #[.val (.int p1), .val (.long p2), .second, .val (.long p3), .second, .val (.long p4), .second, .val (.long p5), .second, .val (.int cz), .val (.int v1002), .val (.long v1004), .second, .val (.long v1006), .second, .val (.long v1008), .second, .val (.long v1010), .second, .val (.ref ps), .val (.ref rv_1116), .val (.int (0 : Int32))] [(.int (0 : Int32)), (.ref rv_1116)])) rfl rfl (hb hby at_168)) ?_
              show OEnds p.tables e below G (T1133.setTop (mkF m 169 #[.val (.int p1), .val (.long p2), .second, .val (.long p3), .second, .val (.long p4), .second, .val (.long p5), .second, .val (.int cz), .val (.int v1002), .val (.long v1004), .second, .val (.long v1006), .second, .val (.long v1008), .second, .val (.long v1010), .second, .val (.ref ps), .val (.ref rv_1116), .val (.int (0 : Int32))] [(.long v1004)]))
              refine OEnds.st (fun _ k => XS.lload X1133.here hx rfl (hb hby at_169) rfl k) ?_
              show OEnds p.tables e below G (T1133.setTop (mkF m 171 #[.val (.int p1), .val (.long p2), .second, .val (.long p3), .second, .val (.long p4), .second, .val (.long p5), .second, .val (.int cz), .val (.int v1002), .val (.long v1004), .second, .val (.long v1006), .second, .val (.long v1008), .second, .val (.long v1010), .second, .val (.ref ps), .val (.ref rv_1116), .val (.int (0 : Int32))] [(.long v1004), (.long v1004)]))
              refine OEnds.st (fun _ k => XS.lcmp X1133.here hx rfl (hb hby at_171) rfl k) ?_
              show OEnds p.tables e below G (T1133.setTop (mkF m 172 #[.val (.int p1), .val (.long p2), .second, .val (.long p3), .second, .val (.long p4), .second, .val (.long p5), .second, .val (.int cz), .val (.int v1002), .val (.long v1004), .second, .val (.long v1006), .second, .val (.long v1008), .second, .val (.long v1010), .second, .val (.ref ps), .val (.ref rv_1116), .val (.int (0 : Int32))] [(.int (lcmpW v1004 v1004))]))
              have hc172_1136 : v1004 = v1004 := rfl
              refine OEnds.st (fun _ k => XS.ifNo X1133.here hx rfl (hb hby at_172) rfl ((if0 _ _).trans (teq ((lw_eq v1004 v1004).mpr hc172_1136)).2) k) ?_
              show OEnds p.tables e below G (T1133.setTop (mkF m 175 #[.val (.int p1), .val (.long p2), .second, .val (.long p3), .second, .val (.long p4), .second, .val (.long p5), .second, .val (.int cz), .val (.int v1002), .val (.long v1004), .second, .val (.long v1006), .second, .val (.long v1008), .second, .val (.long v1010), .second, .val (.ref ps), .val (.ref rv_1116), .val (.int (0 : Int32))] []))
              refine OEnds.st (fun _ k => XS.iload X1133.here hx rfl (hb hby at_175) rfl k) ?_
              show OEnds p.tables e below G (T1133.setTop (mkF m 177 #[.val (.int p1), .val (.long p2), .second, .val (.long p3), .second, .val (.long p4), .second, .val (.long p5), .second, .val (.int cz), .val (.int v1002), .val (.long v1004), .second, .val (.long v1006), .second, .val (.long v1008), .second, .val (.long v1010), .second, .val (.ref ps), .val (.ref rv_1116), .val (.int (0 : Int32))] [(.int (0 : Int32))]))
              refine OEnds.st (fun _ k => XS.ifNo X1133.here hx rfl (hb hby at_177) rfl ((if0 _ _).trans (teq (by decide : (0 : Int32) = (0 : Int32))).2) k) ?_
              show OEnds p.tables e below G (T1133.setTop (mkF m 180 #[.val (.int p1), .val (.long p2), .second, .val (.long p3), .second, .val (.long p4), .second, .val (.long p5), .second, .val (.int cz), .val (.int v1002), .val (.long v1004), .second, .val (.long v1006), .second, .val (.long v1008), .second, .val (.long v1010), .second, .val (.ref ps), .val (.ref rv_1116), .val (.int (0 : Int32))] []))
              refine OEnds.st (fun _ k => XS.iconst X1133.here hx rfl (hb hby at_180) k) ?_
              show OEnds p.tables e below G (T1133.setTop (mkF m 181 #[.val (.int p1), .val (.long p2), .second, .val (.long p3), .second, .val (.long p4), .second, .val (.long p5), .second, .val (.int cz), .val (.int v1002), .val (.long v1004), .second, .val (.long v1006), .second, .val (.long v1008), .second, .val (.long v1010), .second, .val (.ref ps), .val (.ref rv_1116), .val (.int (0 : Int32))] [(.int (1 : Int32))]))
              refine OEnds.st (fun _ k => XS.goto X1133.here hx rfl (pc0 := 181) (pc' := 185) rfl (hb hby at_181) (by decide) (by decide) k) ?_
              show OEnds p.tables e below G (T1133.setTop (mkF m 185 #[.val (.int p1), .val (.long p2), .second, .val (.long p3), .second, .val (.long p4), .second, .val (.long p5), .second, .val (.int cz), .val (.int v1002), .val (.long v1004), .second, .val (.long v1006), .second, .val (.long v1008), .second, .val (.long v1010), .second, .val (.ref ps), .val (.ref rv_1116), .val (.int (0 : Int32))] [(.int (1 : Int32))]))
              rw [← hG]
              refine OEnds.retZ X1133 hx hlk Bd.returns rfl (hb hby at_185) (by decide) (by decide) ?_
              rw [e1133]
              exact ⟨rfl, N1133⟩
            ·
              by_cases hcz1 : cz = (1 : Int32)
              ·
                obtain ⟨em2, eo2, hx0⟩ := own_S2b hmr har hcz1 ef1 eg1 p1106
                subst em2 eo2
                show OEnds p.tables e below G (T1096.setTop (mkF m 133 #[.val (.int p1), .val (.long p2), .second, .val (.long p3), .second, .val (.long p4), .second, .val (.long p5), .second, .val (.int cz), .val (.int v1002), .val (.long v1004), .second, .val (.long v1006), .second, .val (.long v1008), .second, .val (.long v1010), .second, .val (.ref ps), .unset, .unset] []))
                refine OEnds.st (fun _ k => XS.aload X1096.here hx rfl (hb hby at_133) rfl rfl k) ?_
                show OEnds p.tables e below G (T1096.setTop (mkF m 135 #[.val (.int p1), .val (.long p2), .second, .val (.long p3), .second, .val (.long p4), .second, .val (.long p5), .second, .val (.int cz), .val (.int v1002), .val (.long v1004), .second, .val (.long v1006), .second, .val (.long v1008), .second, .val (.long v1010), .second, .val (.ref ps), .unset, .unset] [(.ref ps)]))
                refine OEnds.st (X1096.ldc2Long hx hown (mvT hZ (hw _ (List.mem_of_getElem? (i := 4) rfl))) (g := (mkF m 135 #[.val (.int p1), .val (.long p2), .second, .val (.long p3), .second, .val (.long p4), .second, .val (.long p5), .second, .val (.int cz), .val (.int v1002), .val (.long v1004), .second, .val (.long v1006), .second, .val (.long v1008), .second, .val (.long v1010), .second, .val (.ref ps), .unset, .unset] [(.ref ps)])) rfl (hb hby at_135)) ?_
                show OEnds p.tables e below G (T1096.setTop (mkF m 138 #[.val (.int p1), .val (.long p2), .second, .val (.long p3), .second, .val (.long p4), .second, .val (.long p5), .second, .val (.int cz), .val (.int v1002), .val (.long v1004), .second, .val (.long v1006), .second, .val (.long v1008), .second, .val (.long v1010), .second, .val (.ref ps), .unset, .unset] [(.long (9223372036854775807 : Int64)), (.ref ps)]))
                obtain ⟨cq1137, kq1137, q1137a, q1137b, q1137c⟩ := isOf hZ rfl p1098
                obtain ⟨_, _, ⟨T1137, L1137, k1137c, n1137c⟩, -, X1137, ⟨Lc1137, hQ1137, l1137, y1137, z1137⟩, st1137⟩ := X1096.virtualBack hx (y := (⟨"com/example/clearingd/clearingd/store/PositionSet", "sortedBelow", "(J)[J"⟩ : MethodName)) (z := (⟨"com/example/clearingd/clearingd/store/PositionSet", "sortedBelow", "(J)[J"⟩ : MethodName)) hown (mvT hZ (hw _ (List.mem_of_getElem? (i := 54) rfl))) (mvT hZ (hw _ (List.mem_of_getElem? (i := 55) rfl))) (notFace_of_selects (args := #[]) (mvT hZ (hw _ (List.mem_of_getElem? (i := 57) rfl)))) (mvT hZ (hw _ (List.mem_of_getElem? (i := 57) rfl))) (mvT hZ (hw _ (List.mem_of_getElem? (i := 56) rfl))) (by decide) (backOf (W := 0) (rmsb1 l Z a0 hw [] ps sa ta ks kt z M cz C f1_1096 g1_1096 (1 : Int32) v1004 T1096.heap n0 Z1096 p1098 p1099 p1100 p1101 p1102 p1103 p1104 p1105 ne1020 ne1021 ne1022 hz hM hmk hcz hK3 hx0 hla) hZ (hw _ (List.mem_of_getElem? (i := 58) rfl)) (hw _ (List.mem_of_getElem? (i := 7) rfl)) (by decide) (by decide)) q1137a q1137c (g := (mkF m 138 #[.val (.int p1), .val (.long p2), .second, .val (.long p3), .second, .val (.long p4), .second, .val (.long p5), .second, .val (.int cz), .val (.int v1002), .val (.long v1004), .second, .val (.long v1006), .second, .val (.long v1008), .second, .val (.long v1010), .second, .val (.ref ps), .unset, .unset] [(.long (9223372036854775807 : Int64)), (.ref ps)])) rfl (by rw [hml]; rfl) (Steps.refl _) (argsL := [(.long (9223372036854775807 : Int64))]) (rest := []) (lenOf pd_10 rfl) rfl (by show 2 * 0 + _ ≤ _; exact Nat.le_of_eq rfl) (hb hby at_138) (fun _ _ => ⟨rfl, rfl, (by decide : 3 + 0 + 1 + 0 + 0 + 1 ≤ _), (by decide : 25 + 0 + 0 + 0 + 0 + 1 ≤ _)⟩)
                dsimp only [Pt.U, Pt.locs, Pt.cells, Pt.slots] at X1137 l1137 y1137 z1137 st1137 hQ1137
                subst l1137 y1137 z1137
                obtain ⟨rv_1137, kv_1137, rfl, N1137q, p1138, p1139, p1140⟩ := hQ1137
                have N1137 := Fr.app N1096 N1137q
                refine OEnds.st (fun _ k => st1137.trans k) ?_
                clear st1137
                have ne1141 : ps ≠ rv_1137 := Nat.ne_of_lt (Nat.lt_of_lt_of_le (p1098).lt p1139)
                have ne1142 : rv_1060 ≠ rv_1137 := Nat.ne_of_lt (Nat.lt_of_lt_of_le (f1108).lt p1139)
                have ne1143 : sa ≠ rv_1137 := Nat.ne_of_lt (Nat.lt_of_lt_of_le (p1104).lt p1139)
                have ne1144 : ta ≠ rv_1137 := Nat.ne_of_lt (Nat.lt_of_lt_of_le (p1105).lt p1139)
                have sz_rv_1137 : h0.size ≤ rv_1137 := Nat.le_trans KK1096.1 p1139
                have ge_rv_1137 : n0 ≤ rv_1137 := Nat.le_trans Z1096 p1139
                have f1145 : Exa Z T1137.heap ps "com/example/clearingd/clearingd/store/PositionSet" := p1098.keep p1138
                have f1146 : Arv Z T1137.heap rv_1060 kv_1060 .long (0 : Int32) [] (.long (0 : Int64)) := f1108.keep p1138 (List.not_mem_nil)
                have f1147 : Fld Z T1137.heap ps "com/example/clearingd/clearingd/store/PositionSet" "slots" "[J" (.ref sa) := p1099.keep p1138 (List.not_mem_nil)
                have f1148 : Fld Z T1137.heap ps "com/example/clearingd/clearingd/store/PositionSet" "taken" "[I" (.ref ta) := p1100.keep p1138 (List.not_mem_nil)
                have f1149 : Fld Z T1137.heap ps "com/example/clearingd/clearingd/store/PositionSet" "capacity" "I" (.int cz) := p1101.keep p1138 (List.not_mem_nil)
                have f1150 : Fld Z T1137.heap ps "com/example/clearingd/clearingd/store/PositionSet" "size" "I" (.int (1 : Int32)) := p1102.keep p1138 (List.not_mem_nil)
                have f1151 : Fld Z T1137.heap ps "com/example/clearingd/clearingd/store/PositionSet" "overflowed" "Z" (.int (1 : Int32)) := p1103.keep p1138 (List.not_mem_nil)
                have f1152 : Arv Z T1137.heap sa ks .long z (own_T M f1_1096) (.long (0 : Int64)) := p1104.keep p1138 (List.not_mem_nil)
                have f1153 : Arv Z T1137.heap ta kt .int cz (own_G C g1_1096) (.int (0 : Int32)) := p1105.keep p1138 (List.not_mem_nil)
                have KK1137 : Keep h0 T1137.heap [] := KK1096.trans p1138 (fun x hx => absurd hx List.not_mem_nil)
                have Z1137 := Nat.le_trans Z1096 p1138.1
                show OEnds p.tables e below G (T1137.setTop (mkF m 141 #[.val (.int p1), .val (.long p2), .second, .val (.long p3), .second, .val (.long p4), .second, .val (.long p5), .second, .val (.int cz), .val (.int v1002), .val (.long v1004), .second, .val (.long v1006), .second, .val (.long v1008), .second, .val (.long v1010), .second, .val (.ref ps), .unset, .unset] [(.ref rv_1137)]))
                refine OEnds.st (fun _ k => XS.astore X1137.here hx rfl (hb hby at_141) rfl rfl (l' := #[.val (.int p1), .val (.long p2), .second, .val (.long p3), .second, .val (.long p4), .second, .val (.long p5), .second, .val (.int cz), .val (.int v1002), .val (.long v1004), .second, .val (.long v1006), .second, .val (.long v1008), .second, .val (.long v1010), .second, .val (.ref ps), .val (.ref rv_1137), .unset]) rfl k) ?_
                show OEnds p.tables e below G (T1137.setTop (mkF m 143 #[.val (.int p1), .val (.long p2), .second, .val (.long p3), .second, .val (.long p4), .second, .val (.long p5), .second, .val (.int cz), .val (.int v1002), .val (.long v1004), .second, .val (.long v1006), .second, .val (.long v1008), .second, .val (.long v1010), .second, .val (.ref ps), .val (.ref rv_1137), .unset] []))
                refine OEnds.st (fun _ k => XS.aload X1137.here hx rfl (hb hby at_143) rfl rfl k) ?_
                show OEnds p.tables e below G (T1137.setTop (mkF m 145 #[.val (.int p1), .val (.long p2), .second, .val (.long p3), .second, .val (.long p4), .second, .val (.long p5), .second, .val (.int cz), .val (.int v1002), .val (.long v1004), .second, .val (.long v1006), .second, .val (.long v1008), .second, .val (.long v1010), .second, .val (.ref ps), .val (.ref rv_1137), .unset] [(.ref ps)]))
                obtain ⟨cq1154, kq1154, q1154a, q1154b, q1154c⟩ := isOf hZ rfl f1145
                obtain ⟨_, _, ⟨T1154, L1154, k1154c, n1154c⟩, -, X1154, ⟨Lc1154, hQ1154, l1154, y1154, z1154⟩, st1154⟩ := X1137.virtualBack hx (y := (⟨"com/example/clearingd/clearingd/store/PositionSet", "overflowed", "()Z"⟩ : MethodName)) (z := (⟨"com/example/clearingd/clearingd/store/PositionSet", "overflowed", "()Z"⟩ : MethodName)) hown (mvT hZ (hw _ (List.mem_of_getElem? (i := 49) rfl))) (mvT hZ (hw _ (List.mem_of_getElem? (i := 50) rfl))) (notFace_of_selects (args := #[]) (mvT hZ (hw _ (List.mem_of_getElem? (i := 52) rfl)))) (mvT hZ (hw _ (List.mem_of_getElem? (i := 52) rfl))) (mvT hZ (hw _ (List.mem_of_getElem? (i := 51) rfl))) (by decide) (backOf (W := 0) (rm9 l Z a0 hw [] ps (1 : Int32) T1137.heap n0 Z1137 f1151 rfl) hZ (hw _ (List.mem_of_getElem? (i := 53) rfl)) (hw _ (List.mem_of_getElem? (i := 7) rfl)) (by decide) (by decide)) q1154a q1154c (g := (mkF m 145 #[.val (.int p1), .val (.long p2), .second, .val (.long p3), .second, .val (.long p4), .second, .val (.long p5), .second, .val (.int cz), .val (.int v1002), .val (.long v1004), .second, .val (.long v1006), .second, .val (.long v1008), .second, .val (.long v1010), .second, .val (.ref ps), .val (.ref rv_1137), .unset] [(.ref ps)])) rfl (by rw [hml]; rfl) (Steps.refl _) (argsL := []) (rest := []) (lenOf pd_9 rfl) rfl (by show 2 * 0 + _ ≤ _; exact Nat.le_of_eq rfl) (hb hby at_145) (fun _ _ => ⟨rfl, rfl, (by decide : 3 + 0 + 1 + 0 + 0 + 1 + 0 ≤ _), (by decide : 25 + 0 + 0 + 0 + 0 + 1 + 0 ≤ _)⟩)
                dsimp only [Pt.U, Pt.locs, Pt.cells, Pt.slots] at X1154 l1154 y1154 z1154 st1154 hQ1154
                subst l1154 y1154 z1154
                obtain ⟨rfl, N1154q, e1154⟩ := hQ1154
                have N1154 := Fr.app N1137 N1154q
                refine OEnds.st (fun _ k => st1154.trans k) ?_
                clear st1154
                show OEnds p.tables e below G (T1154.setTop (mkF m 148 #[.val (.int p1), .val (.long p2), .second, .val (.long p3), .second, .val (.long p4), .second, .val (.long p5), .second, .val (.int cz), .val (.int v1002), .val (.long v1004), .second, .val (.long v1006), .second, .val (.long v1008), .second, .val (.long v1010), .second, .val (.ref ps), .val (.ref rv_1137), .unset] [(.int (1 : Int32))]))
                refine OEnds.st (fun _ k => XS.istore X1154.here hx rfl (hb hby at_148) rfl (l' := #[.val (.int p1), .val (.long p2), .second, .val (.long p3), .second, .val (.long p4), .second, .val (.long p5), .second, .val (.int cz), .val (.int v1002), .val (.long v1004), .second, .val (.long v1006), .second, .val (.long v1008), .second, .val (.long v1010), .second, .val (.ref ps), .val (.ref rv_1137), .val (.int (1 : Int32))]) rfl k) ?_
                show OEnds p.tables e below G (T1154.setTop (mkF m 150 #[.val (.int p1), .val (.long p2), .second, .val (.long p3), .second, .val (.long p4), .second, .val (.long p5), .second, .val (.int cz), .val (.int v1002), .val (.long v1004), .second, .val (.long v1006), .second, .val (.long v1008), .second, .val (.long v1010), .second, .val (.ref ps), .val (.ref rv_1137), .val (.int (1 : Int32))] []))
                refine OEnds.st (fun _ k => XS.lload X1154.here hx rfl (hb hby at_150) rfl k) ?_
                show OEnds p.tables e below G (T1154.setTop (mkF m 152 #[.val (.int p1), .val (.long p2), .second, .val (.long p3), .second, .val (.long p4), .second, .val (.long p5), .second, .val (.int cz), .val (.int v1002), .val (.long v1004), .second, .val (.long v1006), .second, .val (.long v1008), .second, .val (.long v1010), .second, .val (.ref ps), .val (.ref rv_1137), .val (.int (1 : Int32))] [(.long v1004)]))
                refine OEnds.st (fun _ k => XS.lload X1154.here hx rfl (hb hby at_152) rfl k) ?_
                show OEnds p.tables e below G (T1154.setTop (mkF m 154 #[.val (.int p1), .val (.long p2), .second, .val (.long p3), .second, .val (.long p4), .second, .val (.long p5), .second, .val (.int cz), .val (.int v1002), .val (.long v1004), .second, .val (.long v1006), .second, .val (.long v1008), .second, .val (.long v1010), .second, .val (.ref ps), .val (.ref rv_1137), .val (.int (1 : Int32))] [(.long v1010), (.long v1004)]))
                refine OEnds.st (fun _ k => XS.lcmp X1154.here hx rfl (hb hby at_154) rfl k) ?_
                show OEnds p.tables e below G (T1154.setTop (mkF m 155 #[.val (.int p1), .val (.long p2), .second, .val (.long p3), .second, .val (.long p4), .second, .val (.long p5), .second, .val (.int cz), .val (.int v1002), .val (.long v1004), .second, .val (.long v1006), .second, .val (.long v1008), .second, .val (.long v1010), .second, .val (.ref ps), .val (.ref rv_1137), .val (.int (1 : Int32))] [(.int (lcmpW v1004 v1010))]))
                refine OEnds.st (fun _ k => XS.ifYes X1154.here hx rfl (pc0 := 155) (pc' := 186) rfl (hb hby at_155) rfl ((if0 _ _).trans (feq (fun q => har ((lw_eq v1004 v1010).mp q))).2) (by decide) (by decide) k) ?_
                show OEnds p.tables e below G (T1154.setTop (mkF m 186 #[.val (.int p1), .val (.long p2), .second, .val (.long p3), .second, .val (.long p4), .second, .val (.long p5), .second, .val (.int cz), .val (.int v1002), .val (.long v1004), .second, .val (.long v1006), .second, .val (.long v1008), .second, .val (.long v1010), .second, .val (.ref ps), .val (.ref rv_1137), .val (.int (1 : Int32))] []))
                refine OEnds.st (fun _ k => XS.iload X1154.here hx rfl (hb hby at_186) rfl k) ?_
                show OEnds p.tables e below G (T1154.setTop (mkF m 188 #[.val (.int p1), .val (.long p2), .second, .val (.long p3), .second, .val (.long p4), .second, .val (.long p5), .second, .val (.int cz), .val (.int v1002), .val (.long v1004), .second, .val (.long v1006), .second, .val (.long v1008), .second, .val (.long v1010), .second, .val (.ref ps), .val (.ref rv_1137), .val (.int (1 : Int32))] [(.int cz)]))
                refine OEnds.st (fun _ k => XS.iconst X1154.here hx rfl (hb hby at_188) k) ?_
                show OEnds p.tables e below G (T1154.setTop (mkF m 189 #[.val (.int p1), .val (.long p2), .second, .val (.long p3), .second, .val (.long p4), .second, .val (.long p5), .second, .val (.int cz), .val (.int v1002), .val (.long v1004), .second, .val (.long v1006), .second, .val (.long v1008), .second, .val (.long v1010), .second, .val (.ref ps), .val (.ref rv_1137), .val (.int (1 : Int32))] [(.int (1 : Int32)), (.int cz)]))
                refine OEnds.st (fun _ k => XS.icmpNo X1154.here hx rfl (hb hby at_189) rfl (teq hcz1).2 k) ?_
                show OEnds p.tables e below G (T1154.setTop (mkF m 192 #[.val (.int p1), .val (.long p2), .second, .val (.long p3), .second, .val (.long p4), .second, .val (.long p5), .second, .val (.int cz), .val (.int v1002), .val (.long v1004), .second, .val (.long v1006), .second, .val (.long v1008), .second, .val (.long v1010), .second, .val (.ref ps), .val (.ref rv_1137), .val (.int (1 : Int32))] []))
                refine OEnds.st (fun _ k => XS.aload X1154.here hx rfl (hb hby at_192) rfl rfl k) ?_
                show OEnds p.tables e below G (T1154.setTop (mkF m 194 #[.val (.int p1), .val (.long p2), .second, .val (.long p3), .second, .val (.long p4), .second, .val (.long p5), .second, .val (.int cz), .val (.int v1002), .val (.long v1004), .second, .val (.long v1006), .second, .val (.long v1008), .second, .val (.long v1010), .second, .val (.ref ps), .val (.ref rv_1137), .val (.int (1 : Int32))] [(.ref rv_1137)]))
                obtain ⟨cl1155, Ar1155, -, S1155, N1155n, -, -⟩ := id p1140
                refine OEnds.st (X1154.arraylength hx (by rw [e1154]; exact Ar1155.1) (State.isArrayOf_alike hZ.alike Ar1155.2.1) (g := (mkF m 194 #[.val (.int p1), .val (.long p2), .second, .val (.long p3), .second, .val (.long p4), .second, .val (.long p5), .second, .val (.int cz), .val (.int v1002), .val (.long v1004), .second, .val (.long v1006), .second, .val (.long v1008), .second, .val (.long v1010), .second, .val (.ref ps), .val (.ref rv_1137), .val (.int (1 : Int32))] [(.ref rv_1137)])) rfl rfl (hb hby at_194)) ?_
                rw [len_of S1155 N1155n]
                show OEnds p.tables e below G (T1154.setTop (mkF m 195 #[.val (.int p1), .val (.long p2), .second, .val (.long p3), .second, .val (.long p4), .second, .val (.long p5), .second, .val (.int cz), .val (.int v1002), .val (.long v1004), .second, .val (.long v1006), .second, .val (.long v1008), .second, .val (.long v1010), .second, .val (.ref ps), .val (.ref rv_1137), .val (.int (1 : Int32))] [(.int (1 : Int32))]))
                refine OEnds.st (fun _ k => XS.iconst X1154.here hx rfl (hb hby at_195) k) ?_
                show OEnds p.tables e below G (T1154.setTop (mkF m 196 #[.val (.int p1), .val (.long p2), .second, .val (.long p3), .second, .val (.long p4), .second, .val (.long p5), .second, .val (.int cz), .val (.int v1002), .val (.long v1004), .second, .val (.long v1006), .second, .val (.long v1008), .second, .val (.long v1010), .second, .val (.ref ps), .val (.ref rv_1137), .val (.int (1 : Int32))] [(.int (1 : Int32)), (.int (1 : Int32))]))
                refine OEnds.st (fun _ k => XS.icmpNo X1154.here hx rfl (hb hby at_196) rfl (teq (by decide : (1 : Int32) = (1 : Int32))).2 k) ?_
                show OEnds p.tables e below G (T1154.setTop (mkF m 199 #[.val (.int p1), .val (.long p2), .second, .val (.long p3), .second, .val (.long p4), .second, .val (.long p5), .second, .val (.int cz), .val (.int v1002), .val (.long v1004), .second, .val (.long v1006), .second, .val (.long v1008), .second, .val (.long v1010), .second, .val (.ref ps), .val (.ref rv_1137), .val (.int (1 : Int32))] []))
                refine OEnds.st (fun _ k => XS.aload X1154.here hx rfl (hb hby at_199) rfl rfl k) ?_
                show OEnds p.tables e below G (T1154.setTop (mkF m 201 #[.val (.int p1), .val (.long p2), .second, .val (.long p3), .second, .val (.long p4), .second, .val (.long p5), .second, .val (.int cz), .val (.int v1002), .val (.long v1004), .second, .val (.long v1006), .second, .val (.long v1008), .second, .val (.long v1010), .second, .val (.ref ps), .val (.ref rv_1137), .val (.int (1 : Int32))] [(.ref rv_1137)]))
                refine OEnds.st (fun _ k => XS.iconst X1154.here hx rfl (hb hby at_201) k) ?_
                show OEnds p.tables e below G (T1154.setTop (mkF m 202 #[.val (.int p1), .val (.long p2), .second, .val (.long p3), .second, .val (.long p4), .second, .val (.long p5), .second, .val (.int cz), .val (.int v1002), .val (.long v1004), .second, .val (.long v1006), .second, .val (.long v1008), .second, .val (.long v1010), .second, .val (.ref ps), .val (.ref rv_1137), .val (.int (1 : Int32))] [(.int (0 : Int32)), (.ref rv_1137)]))
                obtain ⟨cl1156, Ar1156, q1156, S1156, N1156n, H1156, G1156⟩ := id p1140
                have hin1156 : ¬ ((0 : Int32) < 0 ∨ cl1156.slots.size ≤ ((0 : Int32)).toNatClampNeg) := inb_of S1156 ⟨by decide, by decide⟩
                have hat1156 : cl1156.slots[((0 : Int32)).toNatClampNeg]? = some (.long v1004) := H1156.at hin1156 rfl
                refine OEnds.st (X1154.laload hx (j := (0 : Int32)) (v := (.long v1004)) (by rw [e1154]; exact Ar1156.1) (State.isArrayOf_alike hZ.alike Ar1156.2.1) Ar1156.2.2 hin1156 hat1156 (g := (mkF m 202 #[.val (.int p1), .val (.long p2), .second, .val (.long p3), .second, .val (.long p4), .second, .val (.long p5), .second, .val (.int cz), .val (.int v1002), .val (.long v1004), .second, .val (.long v1006), .second, .val (.long v1008), .second, .val (.long v1010), .second, .val (.ref ps), .val (.ref rv_1137), .val (.int (1 : Int32))] [(.int (0 : Int32)), (.ref rv_1137)])) rfl rfl (hb hby at_202)) ?_
                show OEnds p.tables e below G (T1154.setTop (mkF m 203 #[.val (.int p1), .val (.long p2), .second, .val (.long p3), .second, .val (.long p4), .second, .val (.long p5), .second, .val (.int cz), .val (.int v1002), .val (.long v1004), .second, .val (.long v1006), .second, .val (.long v1008), .second, .val (.long v1010), .second, .val (.ref ps), .val (.ref rv_1137), .val (.int (1 : Int32))] [(.long v1004)]))
                refine OEnds.st (fun _ k => XS.lload X1154.here hx rfl (hb hby at_203) rfl k) ?_
                show OEnds p.tables e below G (T1154.setTop (mkF m 205 #[.val (.int p1), .val (.long p2), .second, .val (.long p3), .second, .val (.long p4), .second, .val (.long p5), .second, .val (.int cz), .val (.int v1002), .val (.long v1004), .second, .val (.long v1006), .second, .val (.long v1008), .second, .val (.long v1010), .second, .val (.ref ps), .val (.ref rv_1137), .val (.int (1 : Int32))] [(.long v1004), (.long v1004)]))
                refine OEnds.st (fun _ k => XS.lcmp X1154.here hx rfl (hb hby at_205) rfl k) ?_
                show OEnds p.tables e below G (T1154.setTop (mkF m 206 #[.val (.int p1), .val (.long p2), .second, .val (.long p3), .second, .val (.long p4), .second, .val (.long p5), .second, .val (.int cz), .val (.int v1002), .val (.long v1004), .second, .val (.long v1006), .second, .val (.long v1008), .second, .val (.long v1010), .second, .val (.ref ps), .val (.ref rv_1137), .val (.int (1 : Int32))] [(.int (lcmpW v1004 v1004))]))
                have hc206_1157 : v1004 = v1004 := rfl
                refine OEnds.st (fun _ k => XS.ifNo X1154.here hx rfl (hb hby at_206) rfl ((if0 _ _).trans (teq ((lw_eq v1004 v1004).mpr hc206_1157)).2) k) ?_
                show OEnds p.tables e below G (T1154.setTop (mkF m 209 #[.val (.int p1), .val (.long p2), .second, .val (.long p3), .second, .val (.long p4), .second, .val (.long p5), .second, .val (.int cz), .val (.int v1002), .val (.long v1004), .second, .val (.long v1006), .second, .val (.long v1008), .second, .val (.long v1010), .second, .val (.ref ps), .val (.ref rv_1137), .val (.int (1 : Int32))] []))
                refine OEnds.st (fun _ k => XS.iload X1154.here hx rfl (hb hby at_209) rfl k) ?_
                show OEnds p.tables e below G (T1154.setTop (mkF m 211 #[.val (.int p1), .val (.long p2), .second, .val (.long p3), .second, .val (.long p4), .second, .val (.long p5), .second, .val (.int cz), .val (.int v1002), .val (.long v1004), .second, .val (.long v1006), .second, .val (.long v1008), .second, .val (.long v1010), .second, .val (.ref ps), .val (.ref rv_1137), .val (.int (1 : Int32))] [(.int (1 : Int32))]))
                refine OEnds.st (fun _ k => XS.ifNo X1154.here hx rfl (hb hby at_211) rfl ((if0 _ _).trans (feq (by decide : ¬ ((1 : Int32) = (0 : Int32)))).1) k) ?_
                show OEnds p.tables e below G (T1154.setTop (mkF m 214 #[.val (.int p1), .val (.long p2), .second, .val (.long p3), .second, .val (.long p4), .second, .val (.long p5), .second, .val (.int cz), .val (.int v1002), .val (.long v1004), .second, .val (.long v1006), .second, .val (.long v1008), .second, .val (.long v1010), .second, .val (.ref ps), .val (.ref rv_1137), .val (.int (1 : Int32))] []))
                refine OEnds.st (fun _ k => XS.iconst X1154.here hx rfl (hb hby at_214) k) ?_
                show OEnds p.tables e below G (T1154.setTop (mkF m 215 #[.val (.int p1), .val (.long p2), .second, .val (.long p3), .second, .val (.long p4), .second, .val (.long p5), .second, .val (.int cz), .val (.int v1002), .val (.long v1004), .second, .val (.long v1006), .second, .val (.long v1008), .second, .val (.long v1010), .second, .val (.ref ps), .val (.ref rv_1137), .val (.int (1 : Int32))] [(.int (1 : Int32))]))
                refine OEnds.st (fun _ k => XS.goto X1154.here hx rfl (pc0 := 215) (pc' := 219) rfl (hb hby at_215) (by decide) (by decide) k) ?_
                show OEnds p.tables e below G (T1154.setTop (mkF m 219 #[.val (.int p1), .val (.long p2), .second, .val (.long p3), .second, .val (.long p4), .second, .val (.long p5), .second, .val (.int cz), .val (.int v1002), .val (.long v1004), .second, .val (.long v1006), .second, .val (.long v1008), .second, .val (.long v1010), .second, .val (.ref ps), .val (.ref rv_1137), .val (.int (1 : Int32))] [(.int (1 : Int32))]))
                rw [← hG]
                refine OEnds.retZ X1154 hx hlk Bd.returns rfl (hb hby at_219) (by decide) (by decide) ?_
                rw [e1154]
                exact ⟨rfl, N1154⟩
              ·
                obtain ⟨em2, eo2, hx0, hx1⟩ := own_S2c hma hmr har hcz1 ef1 eg1 p1106
                subst em2 eo2
                show OEnds p.tables e below G (T1096.setTop (mkF m 133 #[.val (.int p1), .val (.long p2), .second, .val (.long p3), .second, .val (.long p4), .second, .val (.long p5), .second, .val (.int cz), .val (.int v1002), .val (.long v1004), .second, .val (.long v1006), .second, .val (.long v1008), .second, .val (.long v1010), .second, .val (.ref ps), .unset, .unset] []))
                refine OEnds.st (fun _ k => XS.aload X1096.here hx rfl (hb hby at_133) rfl rfl k) ?_
                show OEnds p.tables e below G (T1096.setTop (mkF m 135 #[.val (.int p1), .val (.long p2), .second, .val (.long p3), .second, .val (.long p4), .second, .val (.long p5), .second, .val (.int cz), .val (.int v1002), .val (.long v1004), .second, .val (.long v1006), .second, .val (.long v1008), .second, .val (.long v1010), .second, .val (.ref ps), .unset, .unset] [(.ref ps)]))
                refine OEnds.st (X1096.ldc2Long hx hown (mvT hZ (hw _ (List.mem_of_getElem? (i := 4) rfl))) (g := (mkF m 135 #[.val (.int p1), .val (.long p2), .second, .val (.long p3), .second, .val (.long p4), .second, .val (.long p5), .second, .val (.int cz), .val (.int v1002), .val (.long v1004), .second, .val (.long v1006), .second, .val (.long v1008), .second, .val (.long v1010), .second, .val (.ref ps), .unset, .unset] [(.ref ps)])) rfl (hb hby at_135)) ?_
                show OEnds p.tables e below G (T1096.setTop (mkF m 138 #[.val (.int p1), .val (.long p2), .second, .val (.long p3), .second, .val (.long p4), .second, .val (.long p5), .second, .val (.int cz), .val (.int v1002), .val (.long v1004), .second, .val (.long v1006), .second, .val (.long v1008), .second, .val (.long v1010), .second, .val (.ref ps), .unset, .unset] [(.long (9223372036854775807 : Int64)), (.ref ps)]))
                obtain ⟨cq1158, kq1158, q1158a, q1158b, q1158c⟩ := isOf hZ rfl p1098
                obtain ⟨_, _, ⟨T1158, L1158, k1158c, n1158c⟩, -, X1158, ⟨Lc1158, hQ1158, l1158, y1158, z1158⟩, st1158⟩ := X1096.virtualBack hx (y := (⟨"com/example/clearingd/clearingd/store/PositionSet", "sortedBelow", "(J)[J"⟩ : MethodName)) (z := (⟨"com/example/clearingd/clearingd/store/PositionSet", "sortedBelow", "(J)[J"⟩ : MethodName)) hown (mvT hZ (hw _ (List.mem_of_getElem? (i := 54) rfl))) (mvT hZ (hw _ (List.mem_of_getElem? (i := 55) rfl))) (notFace_of_selects (args := #[]) (mvT hZ (hw _ (List.mem_of_getElem? (i := 57) rfl)))) (mvT hZ (hw _ (List.mem_of_getElem? (i := 57) rfl))) (mvT hZ (hw _ (List.mem_of_getElem? (i := 56) rfl))) (by decide) (backOf (W := 0) (rmsb2 l Z a0 hw [] ps sa ta ks kt z M cz C f1_1096 g1_1096 (0 : Int32) v1004 v1010 T1096.heap n0 Z1096 p1098 p1099 p1100 p1101 p1102 p1103 p1104 p1105 ne1020 ne1021 ne1022 hz hM hmk hcz hK3 hx0 hx1 hla hlr) hZ (hw _ (List.mem_of_getElem? (i := 58) rfl)) (hw _ (List.mem_of_getElem? (i := 7) rfl)) (by decide) (by decide)) q1158a q1158c (g := (mkF m 138 #[.val (.int p1), .val (.long p2), .second, .val (.long p3), .second, .val (.long p4), .second, .val (.long p5), .second, .val (.int cz), .val (.int v1002), .val (.long v1004), .second, .val (.long v1006), .second, .val (.long v1008), .second, .val (.long v1010), .second, .val (.ref ps), .unset, .unset] [(.long (9223372036854775807 : Int64)), (.ref ps)])) rfl (by rw [hml]; rfl) (Steps.refl _) (argsL := [(.long (9223372036854775807 : Int64))]) (rest := []) (lenOf pd_10 rfl) rfl (by show 2 * 0 + _ ≤ _; exact Nat.le_of_eq rfl) (hb hby at_138) (fun _ _ => ⟨rfl, rfl, (by decide : 3 + 0 + 1 + 0 + 0 + 1 ≤ _), (by decide : 25 + 0 + 0 + 0 + 0 + 2 ≤ _)⟩)
                dsimp only [Pt.U, Pt.locs, Pt.cells, Pt.slots] at X1158 l1158 y1158 z1158 st1158 hQ1158
                subst l1158 y1158 z1158
                obtain ⟨rv_1158, kv_1158, rfl, N1158q, p1159, p1160, p1161⟩ := hQ1158
                have N1158 := Fr.app N1096 N1158q
                refine OEnds.st (fun _ k => st1158.trans k) ?_
                clear st1158
                have ne1162 : ps ≠ rv_1158 := Nat.ne_of_lt (Nat.lt_of_lt_of_le (p1098).lt p1160)
                have ne1163 : rv_1060 ≠ rv_1158 := Nat.ne_of_lt (Nat.lt_of_lt_of_le (f1108).lt p1160)
                have ne1164 : sa ≠ rv_1158 := Nat.ne_of_lt (Nat.lt_of_lt_of_le (p1104).lt p1160)
                have ne1165 : ta ≠ rv_1158 := Nat.ne_of_lt (Nat.lt_of_lt_of_le (p1105).lt p1160)
                have sz_rv_1158 : h0.size ≤ rv_1158 := Nat.le_trans KK1096.1 p1160
                have ge_rv_1158 : n0 ≤ rv_1158 := Nat.le_trans Z1096 p1160
                have f1166 : Exa Z T1158.heap ps "com/example/clearingd/clearingd/store/PositionSet" := p1098.keep p1159
                have f1167 : Arv Z T1158.heap rv_1060 kv_1060 .long (0 : Int32) [] (.long (0 : Int64)) := f1108.keep p1159 (List.not_mem_nil)
                have f1168 : Fld Z T1158.heap ps "com/example/clearingd/clearingd/store/PositionSet" "slots" "[J" (.ref sa) := p1099.keep p1159 (List.not_mem_nil)
                have f1169 : Fld Z T1158.heap ps "com/example/clearingd/clearingd/store/PositionSet" "taken" "[I" (.ref ta) := p1100.keep p1159 (List.not_mem_nil)
                have f1170 : Fld Z T1158.heap ps "com/example/clearingd/clearingd/store/PositionSet" "capacity" "I" (.int cz) := p1101.keep p1159 (List.not_mem_nil)
                have f1171 : Fld Z T1158.heap ps "com/example/clearingd/clearingd/store/PositionSet" "size" "I" (.int (2 : Int32)) := p1102.keep p1159 (List.not_mem_nil)
                have f1172 : Fld Z T1158.heap ps "com/example/clearingd/clearingd/store/PositionSet" "overflowed" "Z" (.int (0 : Int32)) := p1103.keep p1159 (List.not_mem_nil)
                have f1173 : Arv Z T1158.heap sa ks .long z (own_T M f1_1096) (.long (0 : Int64)) := p1104.keep p1159 (List.not_mem_nil)
                have f1174 : Arv Z T1158.heap ta kt .int cz (own_G C g1_1096) (.int (0 : Int32)) := p1105.keep p1159 (List.not_mem_nil)
                have KK1158 : Keep h0 T1158.heap [] := KK1096.trans p1159 (fun x hx => absurd hx List.not_mem_nil)
                have Z1158 := Nat.le_trans Z1096 p1159.1
                show OEnds p.tables e below G (T1158.setTop (mkF m 141 #[.val (.int p1), .val (.long p2), .second, .val (.long p3), .second, .val (.long p4), .second, .val (.long p5), .second, .val (.int cz), .val (.int v1002), .val (.long v1004), .second, .val (.long v1006), .second, .val (.long v1008), .second, .val (.long v1010), .second, .val (.ref ps), .unset, .unset] [(.ref rv_1158)]))
                refine OEnds.st (fun _ k => XS.astore X1158.here hx rfl (hb hby at_141) rfl rfl (l' := #[.val (.int p1), .val (.long p2), .second, .val (.long p3), .second, .val (.long p4), .second, .val (.long p5), .second, .val (.int cz), .val (.int v1002), .val (.long v1004), .second, .val (.long v1006), .second, .val (.long v1008), .second, .val (.long v1010), .second, .val (.ref ps), .val (.ref rv_1158), .unset]) rfl k) ?_
                show OEnds p.tables e below G (T1158.setTop (mkF m 143 #[.val (.int p1), .val (.long p2), .second, .val (.long p3), .second, .val (.long p4), .second, .val (.long p5), .second, .val (.int cz), .val (.int v1002), .val (.long v1004), .second, .val (.long v1006), .second, .val (.long v1008), .second, .val (.long v1010), .second, .val (.ref ps), .val (.ref rv_1158), .unset] []))
                refine OEnds.st (fun _ k => XS.aload X1158.here hx rfl (hb hby at_143) rfl rfl k) ?_
                show OEnds p.tables e below G (T1158.setTop (mkF m 145 #[.val (.int p1), .val (.long p2), .second, .val (.long p3), .second, .val (.long p4), .second, .val (.long p5), .second, .val (.int cz), .val (.int v1002), .val (.long v1004), .second, .val (.long v1006), .second, .val (.long v1008), .second, .val (.long v1010), .second, .val (.ref ps), .val (.ref rv_1158), .unset] [(.ref ps)]))
                obtain ⟨cq1175, kq1175, q1175a, q1175b, q1175c⟩ := isOf hZ rfl f1166
                obtain ⟨_, _, ⟨T1175, L1175, k1175c, n1175c⟩, -, X1175, ⟨Lc1175, hQ1175, l1175, y1175, z1175⟩, st1175⟩ := X1158.virtualBack hx (y := (⟨"com/example/clearingd/clearingd/store/PositionSet", "overflowed", "()Z"⟩ : MethodName)) (z := (⟨"com/example/clearingd/clearingd/store/PositionSet", "overflowed", "()Z"⟩ : MethodName)) hown (mvT hZ (hw _ (List.mem_of_getElem? (i := 49) rfl))) (mvT hZ (hw _ (List.mem_of_getElem? (i := 50) rfl))) (notFace_of_selects (args := #[]) (mvT hZ (hw _ (List.mem_of_getElem? (i := 52) rfl)))) (mvT hZ (hw _ (List.mem_of_getElem? (i := 52) rfl))) (mvT hZ (hw _ (List.mem_of_getElem? (i := 51) rfl))) (by decide) (backOf (W := 0) (rm9 l Z a0 hw [] ps (0 : Int32) T1158.heap n0 Z1158 f1172 rfl) hZ (hw _ (List.mem_of_getElem? (i := 53) rfl)) (hw _ (List.mem_of_getElem? (i := 7) rfl)) (by decide) (by decide)) q1175a q1175c (g := (mkF m 145 #[.val (.int p1), .val (.long p2), .second, .val (.long p3), .second, .val (.long p4), .second, .val (.long p5), .second, .val (.int cz), .val (.int v1002), .val (.long v1004), .second, .val (.long v1006), .second, .val (.long v1008), .second, .val (.long v1010), .second, .val (.ref ps), .val (.ref rv_1158), .unset] [(.ref ps)])) rfl (by rw [hml]; rfl) (Steps.refl _) (argsL := []) (rest := []) (lenOf pd_9 rfl) rfl (by show 2 * 0 + _ ≤ _; exact Nat.le_of_eq rfl) (hb hby at_145) (fun _ _ => ⟨rfl, rfl, (by decide : 3 + 0 + 1 + 0 + 0 + 1 + 0 ≤ _), (by decide : 25 + 0 + 0 + 0 + 0 + 2 + 0 ≤ _)⟩)
                dsimp only [Pt.U, Pt.locs, Pt.cells, Pt.slots] at X1175 l1175 y1175 z1175 st1175 hQ1175
                subst l1175 y1175 z1175
                obtain ⟨rfl, N1175q, e1175⟩ := hQ1175
                have N1175 := Fr.app N1158 N1175q
                refine OEnds.st (fun _ k => st1175.trans k) ?_
                clear st1175
                show OEnds p.tables e below G (T1175.setTop (mkF m 148 #[.val (.int p1), .val (.long p2), .second, .val (.long p3), .second, .val (.long p4), .second, .val (.long p5), .second, .val (.int cz), .val (.int v1002), .val (.long v1004), .second, .val (.long v1006), .second, .val (.long v1008), .second, .val (.long v1010), .second, .val (.ref ps), .val (.ref rv_1158), .unset] [(.int (0 : Int32))]))
                refine OEnds.st (fun _ k => XS.istore X1175.here hx rfl (hb hby at_148) rfl (l' := #[.val (.int p1), .val (.long p2), .second, .val (.long p3), .second, .val (.long p4), .second, .val (.long p5), .second, .val (.int cz), .val (.int v1002), .val (.long v1004), .second, .val (.long v1006), .second, .val (.long v1008), .second, .val (.long v1010), .second, .val (.ref ps), .val (.ref rv_1158), .val (.int (0 : Int32))]) rfl k) ?_
                show OEnds p.tables e below G (T1175.setTop (mkF m 150 #[.val (.int p1), .val (.long p2), .second, .val (.long p3), .second, .val (.long p4), .second, .val (.long p5), .second, .val (.int cz), .val (.int v1002), .val (.long v1004), .second, .val (.long v1006), .second, .val (.long v1008), .second, .val (.long v1010), .second, .val (.ref ps), .val (.ref rv_1158), .val (.int (0 : Int32))] []))
                refine OEnds.st (fun _ k => XS.lload X1175.here hx rfl (hb hby at_150) rfl k) ?_
                show OEnds p.tables e below G (T1175.setTop (mkF m 152 #[.val (.int p1), .val (.long p2), .second, .val (.long p3), .second, .val (.long p4), .second, .val (.long p5), .second, .val (.int cz), .val (.int v1002), .val (.long v1004), .second, .val (.long v1006), .second, .val (.long v1008), .second, .val (.long v1010), .second, .val (.ref ps), .val (.ref rv_1158), .val (.int (0 : Int32))] [(.long v1004)]))
                refine OEnds.st (fun _ k => XS.lload X1175.here hx rfl (hb hby at_152) rfl k) ?_
                show OEnds p.tables e below G (T1175.setTop (mkF m 154 #[.val (.int p1), .val (.long p2), .second, .val (.long p3), .second, .val (.long p4), .second, .val (.long p5), .second, .val (.int cz), .val (.int v1002), .val (.long v1004), .second, .val (.long v1006), .second, .val (.long v1008), .second, .val (.long v1010), .second, .val (.ref ps), .val (.ref rv_1158), .val (.int (0 : Int32))] [(.long v1010), (.long v1004)]))
                refine OEnds.st (fun _ k => XS.lcmp X1175.here hx rfl (hb hby at_154) rfl k) ?_
                show OEnds p.tables e below G (T1175.setTop (mkF m 155 #[.val (.int p1), .val (.long p2), .second, .val (.long p3), .second, .val (.long p4), .second, .val (.long p5), .second, .val (.int cz), .val (.int v1002), .val (.long v1004), .second, .val (.long v1006), .second, .val (.long v1008), .second, .val (.long v1010), .second, .val (.ref ps), .val (.ref rv_1158), .val (.int (0 : Int32))] [(.int (lcmpW v1004 v1010))]))
                refine OEnds.st (fun _ k => XS.ifYes X1175.here hx rfl (pc0 := 155) (pc' := 186) rfl (hb hby at_155) rfl ((if0 _ _).trans (feq (fun q => har ((lw_eq v1004 v1010).mp q))).2) (by decide) (by decide) k) ?_
                show OEnds p.tables e below G (T1175.setTop (mkF m 186 #[.val (.int p1), .val (.long p2), .second, .val (.long p3), .second, .val (.long p4), .second, .val (.long p5), .second, .val (.int cz), .val (.int v1002), .val (.long v1004), .second, .val (.long v1006), .second, .val (.long v1008), .second, .val (.long v1010), .second, .val (.ref ps), .val (.ref rv_1158), .val (.int (0 : Int32))] []))
                refine OEnds.st (fun _ k => XS.iload X1175.here hx rfl (hb hby at_186) rfl k) ?_
                show OEnds p.tables e below G (T1175.setTop (mkF m 188 #[.val (.int p1), .val (.long p2), .second, .val (.long p3), .second, .val (.long p4), .second, .val (.long p5), .second, .val (.int cz), .val (.int v1002), .val (.long v1004), .second, .val (.long v1006), .second, .val (.long v1008), .second, .val (.long v1010), .second, .val (.ref ps), .val (.ref rv_1158), .val (.int (0 : Int32))] [(.int cz)]))
                refine OEnds.st (fun _ k => XS.iconst X1175.here hx rfl (hb hby at_188) k) ?_
                show OEnds p.tables e below G (T1175.setTop (mkF m 189 #[.val (.int p1), .val (.long p2), .second, .val (.long p3), .second, .val (.long p4), .second, .val (.long p5), .second, .val (.int cz), .val (.int v1002), .val (.long v1004), .second, .val (.long v1006), .second, .val (.long v1008), .second, .val (.long v1010), .second, .val (.ref ps), .val (.ref rv_1158), .val (.int (0 : Int32))] [(.int (1 : Int32)), (.int cz)]))
                refine OEnds.st (fun _ k => XS.icmpYes X1175.here hx rfl (pc0 := 189) (pc' := 220) rfl (hb hby at_189) rfl (feq hcz1).2 (by decide) (by decide) k) ?_
                show OEnds p.tables e below G (T1175.setTop (mkF m 220 #[.val (.int p1), .val (.long p2), .second, .val (.long p3), .second, .val (.long p4), .second, .val (.long p5), .second, .val (.int cz), .val (.int v1002), .val (.long v1004), .second, .val (.long v1006), .second, .val (.long v1008), .second, .val (.long v1010), .second, .val (.ref ps), .val (.ref rv_1158), .val (.int (0 : Int32))] []))
                refine OEnds.st (fun _ k => XS.aload X1175.here hx rfl (hb hby at_220) rfl rfl k) ?_
                show OEnds p.tables e below G (T1175.setTop (mkF m 222 #[.val (.int p1), .val (.long p2), .second, .val (.long p3), .second, .val (.long p4), .second, .val (.long p5), .second, .val (.int cz), .val (.int v1002), .val (.long v1004), .second, .val (.long v1006), .second, .val (.long v1008), .second, .val (.long v1010), .second, .val (.ref ps), .val (.ref rv_1158), .val (.int (0 : Int32))] [(.ref rv_1158)]))
                obtain ⟨cl1176, Ar1176, -, S1176, N1176n, -, -⟩ := id p1161
                refine OEnds.st (X1175.arraylength hx (by rw [e1175]; exact Ar1176.1) (State.isArrayOf_alike hZ.alike Ar1176.2.1) (g := (mkF m 222 #[.val (.int p1), .val (.long p2), .second, .val (.long p3), .second, .val (.long p4), .second, .val (.long p5), .second, .val (.int cz), .val (.int v1002), .val (.long v1004), .second, .val (.long v1006), .second, .val (.long v1008), .second, .val (.long v1010), .second, .val (.ref ps), .val (.ref rv_1158), .val (.int (0 : Int32))] [(.ref rv_1158)])) rfl rfl (hb hby at_222)) ?_
                rw [len_of S1176 N1176n]
                show OEnds p.tables e below G (T1175.setTop (mkF m 223 #[.val (.int p1), .val (.long p2), .second, .val (.long p3), .second, .val (.long p4), .second, .val (.long p5), .second, .val (.int cz), .val (.int v1002), .val (.long v1004), .second, .val (.long v1006), .second, .val (.long v1008), .second, .val (.long v1010), .second, .val (.ref ps), .val (.ref rv_1158), .val (.int (0 : Int32))] [(.int (2 : Int32))]))
                refine OEnds.st (fun _ k => XS.iconst X1175.here hx rfl (hb hby at_223) k) ?_
                show OEnds p.tables e below G (T1175.setTop (mkF m 224 #[.val (.int p1), .val (.long p2), .second, .val (.long p3), .second, .val (.long p4), .second, .val (.long p5), .second, .val (.int cz), .val (.int v1002), .val (.long v1004), .second, .val (.long v1006), .second, .val (.long v1008), .second, .val (.long v1010), .second, .val (.ref ps), .val (.ref rv_1158), .val (.int (0 : Int32))] [(.int (2 : Int32)), (.int (2 : Int32))]))
                refine OEnds.st (fun _ k => XS.icmpNo X1175.here hx rfl (hb hby at_224) rfl (teq (by decide : (2 : Int32) = (2 : Int32))).2 k) ?_
                show OEnds p.tables e below G (T1175.setTop (mkF m 227 #[.val (.int p1), .val (.long p2), .second, .val (.long p3), .second, .val (.long p4), .second, .val (.long p5), .second, .val (.int cz), .val (.int v1002), .val (.long v1004), .second, .val (.long v1006), .second, .val (.long v1008), .second, .val (.long v1010), .second, .val (.ref ps), .val (.ref rv_1158), .val (.int (0 : Int32))] []))
                refine OEnds.st (fun _ k => XS.aload X1175.here hx rfl (hb hby at_227) rfl rfl k) ?_
                show OEnds p.tables e below G (T1175.setTop (mkF m 229 #[.val (.int p1), .val (.long p2), .second, .val (.long p3), .second, .val (.long p4), .second, .val (.long p5), .second, .val (.int cz), .val (.int v1002), .val (.long v1004), .second, .val (.long v1006), .second, .val (.long v1008), .second, .val (.long v1010), .second, .val (.ref ps), .val (.ref rv_1158), .val (.int (0 : Int32))] [(.ref rv_1158)]))
                refine OEnds.st (fun _ k => XS.iconst X1175.here hx rfl (hb hby at_229) k) ?_
                show OEnds p.tables e below G (T1175.setTop (mkF m 230 #[.val (.int p1), .val (.long p2), .second, .val (.long p3), .second, .val (.long p4), .second, .val (.long p5), .second, .val (.int cz), .val (.int v1002), .val (.long v1004), .second, .val (.long v1006), .second, .val (.long v1008), .second, .val (.long v1010), .second, .val (.ref ps), .val (.ref rv_1158), .val (.int (0 : Int32))] [(.int (0 : Int32)), (.ref rv_1158)]))
                obtain ⟨cl1177, Ar1177, q1177, S1177, N1177n, H1177, G1177⟩ := id p1161
                have hin1177 : ¬ ((0 : Int32) < 0 ∨ cl1177.slots.size ≤ ((0 : Int32)).toNatClampNeg) := inb_of S1177 ⟨by decide, by decide⟩
                have hat1177 : cl1177.slots[((0 : Int32)).toNatClampNeg]? = some (.long (own_min v1004 v1010)) := H1177.at hin1177 rfl
                refine OEnds.st (X1175.laload hx (j := (0 : Int32)) (v := (.long (own_min v1004 v1010))) (by rw [e1175]; exact Ar1177.1) (State.isArrayOf_alike hZ.alike Ar1177.2.1) Ar1177.2.2 hin1177 hat1177 (g := (mkF m 230 #[.val (.int p1), .val (.long p2), .second, .val (.long p3), .second, .val (.long p4), .second, .val (.long p5), .second, .val (.int cz), .val (.int v1002), .val (.long v1004), .second, .val (.long v1006), .second, .val (.long v1008), .second, .val (.long v1010), .second, .val (.ref ps), .val (.ref rv_1158), .val (.int (0 : Int32))] [(.int (0 : Int32)), (.ref rv_1158)])) rfl rfl (hb hby at_230)) ?_
                show OEnds p.tables e below G (T1175.setTop (mkF m 231 #[.val (.int p1), .val (.long p2), .second, .val (.long p3), .second, .val (.long p4), .second, .val (.long p5), .second, .val (.int cz), .val (.int v1002), .val (.long v1004), .second, .val (.long v1006), .second, .val (.long v1008), .second, .val (.long v1010), .second, .val (.ref ps), .val (.ref rv_1158), .val (.int (0 : Int32))] [(.long (own_min v1004 v1010))]))
                refine OEnds.st (fun _ k => XS.lload X1175.here hx rfl (hb hby at_231) rfl k) ?_
                show OEnds p.tables e below G (T1175.setTop (mkF m 233 #[.val (.int p1), .val (.long p2), .second, .val (.long p3), .second, .val (.long p4), .second, .val (.long p5), .second, .val (.int cz), .val (.int v1002), .val (.long v1004), .second, .val (.long v1006), .second, .val (.long v1008), .second, .val (.long v1010), .second, .val (.ref ps), .val (.ref rv_1158), .val (.int (0 : Int32))] [(.long v1004), (.long (own_min v1004 v1010))]))
                refine OEnds.st (fun _ k => XS.lload X1175.here hx rfl (hb hby at_233) rfl k) ?_
                show OEnds p.tables e below G (T1175.setTop (mkF m 235 #[.val (.int p1), .val (.long p2), .second, .val (.long p3), .second, .val (.long p4), .second, .val (.long p5), .second, .val (.int cz), .val (.int v1002), .val (.long v1004), .second, .val (.long v1006), .second, .val (.long v1008), .second, .val (.long v1010), .second, .val (.ref ps), .val (.ref rv_1158), .val (.int (0 : Int32))] [(.long v1010), (.long v1004), (.long (own_min v1004 v1010))]))
                obtain ⟨_, _, ⟨T1178, L1178, k1178c, n1178c⟩, -, X1178, ⟨Lc1178, hQ1178, l1178, y1178, z1178⟩, st1178⟩ := Jvm.LawKit.callS X1175 hx (y := (⟨"java/lang/Math", "min", "(JJ)J"⟩ : MethodName)) hown (mvT hZ (hw _ (List.mem_of_getElem? (i := 84) rfl))) (mvT hZ (hw _ (List.mem_of_getElem? (i := 85) rfl))) (mvT hZ (hw _ (List.mem_of_getElem? (i := 16) rfl))) (mvT hZ (hw _ (List.mem_of_getElem? (i := 86) rfl))) (by decide) (backOf (W := 2) (rm17 l Z a0 hw [] v1004 v1010 T1158.heap n0 Z1158 ) hZ (hw _ (List.mem_of_getElem? (i := 86) rfl)) (hw _ (List.mem_of_getElem? (i := 16) rfl)) (by decide) (by decide)) (g := (mkF m 235 #[.val (.int p1), .val (.long p2), .second, .val (.long p3), .second, .val (.long p4), .second, .val (.long p5), .second, .val (.int cz), .val (.int v1002), .val (.long v1004), .second, .val (.long v1006), .second, .val (.long v1008), .second, .val (.long v1010), .second, .val (.ref ps), .val (.ref rv_1158), .val (.int (0 : Int32))] [(.long v1010), (.long v1004), (.long (own_min v1004 v1010))])) rfl (by rw [hml]; rfl) (argsL := [(.long v1004), (.long v1010)]) (rest := [(.long (own_min v1004 v1010))]) (lenOf pd_3 rfl) rfl (by show 2 * 0 + _ ≤ _; exact Nat.le_of_eq rfl) (hb hby at_235) (fun _ _ => ⟨rfl, e1175, (by decide : 3 + 0 + 1 + 0 + 0 + 1 + 0 + 0 ≤ _), (by decide : 25 + 0 + 0 + 0 + 0 + 2 + 0 + 0 ≤ _)⟩)
                dsimp only [Pt.U, Pt.locs, Pt.cells, Pt.slots] at X1178 l1178 y1178 z1178 st1178 hQ1178
                subst l1178 y1178 z1178
                obtain ⟨rfl, N1178q, e1178⟩ := hQ1178
                have N1178 := Fr.app N1175 N1178q
                refine OEnds.st st1178 ?_
                clear st1178
                show OEnds p.tables e below G (T1178.setTop (mkF m 238 #[.val (.int p1), .val (.long p2), .second, .val (.long p3), .second, .val (.long p4), .second, .val (.long p5), .second, .val (.int cz), .val (.int v1002), .val (.long v1004), .second, .val (.long v1006), .second, .val (.long v1008), .second, .val (.long v1010), .second, .val (.ref ps), .val (.ref rv_1158), .val (.int (0 : Int32))] [(.long (own_min v1004 v1010)), (.long (own_min v1004 v1010))]))
                refine OEnds.st (fun _ k => XS.lcmp X1178.here hx rfl (hb hby at_238) rfl k) ?_
                show OEnds p.tables e below G (T1178.setTop (mkF m 239 #[.val (.int p1), .val (.long p2), .second, .val (.long p3), .second, .val (.long p4), .second, .val (.long p5), .second, .val (.int cz), .val (.int v1002), .val (.long v1004), .second, .val (.long v1006), .second, .val (.long v1008), .second, .val (.long v1010), .second, .val (.ref ps), .val (.ref rv_1158), .val (.int (0 : Int32))] [(.int (lcmpW (own_min v1004 v1010) (own_min v1004 v1010)))]))
                have hc239_1179 : (own_min v1004 v1010) = (own_min v1004 v1010) := rfl
                refine OEnds.st (fun _ k => XS.ifNo X1178.here hx rfl (hb hby at_239) rfl ((if0 _ _).trans (teq ((lw_eq (own_min v1004 v1010) (own_min v1004 v1010)).mpr hc239_1179)).2) k) ?_
                show OEnds p.tables e below G (T1178.setTop (mkF m 242 #[.val (.int p1), .val (.long p2), .second, .val (.long p3), .second, .val (.long p4), .second, .val (.long p5), .second, .val (.int cz), .val (.int v1002), .val (.long v1004), .second, .val (.long v1006), .second, .val (.long v1008), .second, .val (.long v1010), .second, .val (.ref ps), .val (.ref rv_1158), .val (.int (0 : Int32))] []))
                refine OEnds.st (fun _ k => XS.aload X1178.here hx rfl (hb hby at_242) rfl rfl k) ?_
                show OEnds p.tables e below G (T1178.setTop (mkF m 244 #[.val (.int p1), .val (.long p2), .second, .val (.long p3), .second, .val (.long p4), .second, .val (.long p5), .second, .val (.int cz), .val (.int v1002), .val (.long v1004), .second, .val (.long v1006), .second, .val (.long v1008), .second, .val (.long v1010), .second, .val (.ref ps), .val (.ref rv_1158), .val (.int (0 : Int32))] [(.ref rv_1158)]))
                refine OEnds.st (fun _ k => XS.iconst X1178.here hx rfl (hb hby at_244) k) ?_
                show OEnds p.tables e below G (T1178.setTop (mkF m 245 #[.val (.int p1), .val (.long p2), .second, .val (.long p3), .second, .val (.long p4), .second, .val (.long p5), .second, .val (.int cz), .val (.int v1002), .val (.long v1004), .second, .val (.long v1006), .second, .val (.long v1008), .second, .val (.long v1010), .second, .val (.ref ps), .val (.ref rv_1158), .val (.int (0 : Int32))] [(.int (1 : Int32)), (.ref rv_1158)]))
                obtain ⟨cl1180, Ar1180, q1180, S1180, N1180n, H1180, G1180⟩ := id p1161
                have hin1180 : ¬ ((1 : Int32) < 0 ∨ cl1180.slots.size ≤ ((1 : Int32)).toNatClampNeg) := inb_of S1180 ⟨by decide, by decide⟩
                have hat1180 : cl1180.slots[((1 : Int32)).toNatClampNeg]? = some (.long (own_max v1004 v1010)) := H1180.at hin1180 rfl
                refine OEnds.st (X1178.laload hx (j := (1 : Int32)) (v := (.long (own_max v1004 v1010))) (by rw [e1178]; exact Ar1180.1) (State.isArrayOf_alike hZ.alike Ar1180.2.1) Ar1180.2.2 hin1180 hat1180 (g := (mkF m 245 #[.val (.int p1), .val (.long p2), .second, .val (.long p3), .second, .val (.long p4), .second, .val (.long p5), .second, .val (.int cz), .val (.int v1002), .val (.long v1004), .second, .val (.long v1006), .second, .val (.long v1008), .second, .val (.long v1010), .second, .val (.ref ps), .val (.ref rv_1158), .val (.int (0 : Int32))] [(.int (1 : Int32)), (.ref rv_1158)])) rfl rfl (hb hby at_245)) ?_
                show OEnds p.tables e below G (T1178.setTop (mkF m 246 #[.val (.int p1), .val (.long p2), .second, .val (.long p3), .second, .val (.long p4), .second, .val (.long p5), .second, .val (.int cz), .val (.int v1002), .val (.long v1004), .second, .val (.long v1006), .second, .val (.long v1008), .second, .val (.long v1010), .second, .val (.ref ps), .val (.ref rv_1158), .val (.int (0 : Int32))] [(.long (own_max v1004 v1010))]))
                refine OEnds.st (fun _ k => XS.lload X1178.here hx rfl (hb hby at_246) rfl k) ?_
                show OEnds p.tables e below G (T1178.setTop (mkF m 248 #[.val (.int p1), .val (.long p2), .second, .val (.long p3), .second, .val (.long p4), .second, .val (.long p5), .second, .val (.int cz), .val (.int v1002), .val (.long v1004), .second, .val (.long v1006), .second, .val (.long v1008), .second, .val (.long v1010), .second, .val (.ref ps), .val (.ref rv_1158), .val (.int (0 : Int32))] [(.long v1004), (.long (own_max v1004 v1010))]))
                refine OEnds.st (fun _ k => XS.lload X1178.here hx rfl (hb hby at_248) rfl k) ?_
                show OEnds p.tables e below G (T1178.setTop (mkF m 250 #[.val (.int p1), .val (.long p2), .second, .val (.long p3), .second, .val (.long p4), .second, .val (.long p5), .second, .val (.int cz), .val (.int v1002), .val (.long v1004), .second, .val (.long v1006), .second, .val (.long v1008), .second, .val (.long v1010), .second, .val (.ref ps), .val (.ref rv_1158), .val (.int (0 : Int32))] [(.long v1010), (.long v1004), (.long (own_max v1004 v1010))]))
                obtain ⟨_, _, ⟨T1181, L1181, k1181c, n1181c⟩, -, X1181, ⟨Lc1181, hQ1181, l1181, y1181, z1181⟩, st1181⟩ := Jvm.LawKit.callS X1178 hx (y := (⟨"java/lang/Math", "max", "(JJ)J"⟩ : MethodName)) hown (mvT hZ (hw _ (List.mem_of_getElem? (i := 87) rfl))) (mvT hZ (hw _ (List.mem_of_getElem? (i := 88) rfl))) (mvT hZ (hw _ (List.mem_of_getElem? (i := 16) rfl))) (mvT hZ (hw _ (List.mem_of_getElem? (i := 89) rfl))) (by decide) (backOf (W := 2) (rm18 l Z a0 hw [] v1004 v1010 T1158.heap n0 Z1158 ) hZ (hw _ (List.mem_of_getElem? (i := 89) rfl)) (hw _ (List.mem_of_getElem? (i := 16) rfl)) (by decide) (by decide)) (g := (mkF m 250 #[.val (.int p1), .val (.long p2), .second, .val (.long p3), .second, .val (.long p4), .second, .val (.long p5), .second, .val (.int cz), .val (.int v1002), .val (.long v1004), .second, .val (.long v1006), .second, .val (.long v1008), .second, .val (.long v1010), .second, .val (.ref ps), .val (.ref rv_1158), .val (.int (0 : Int32))] [(.long v1010), (.long v1004), (.long (own_max v1004 v1010))])) rfl (by rw [hml]; rfl) (argsL := [(.long v1004), (.long v1010)]) (rest := [(.long (own_max v1004 v1010))]) (lenOf pd_3 rfl) rfl (by show 2 * 0 + _ ≤ _; exact Nat.le_of_eq rfl) (hb hby at_250) (fun _ _ => ⟨rfl, e1178, (by decide : 3 + 0 + 1 + 0 + 0 + 1 + 0 + 0 + 0 ≤ _), (by decide : 25 + 0 + 0 + 0 + 0 + 2 + 0 + 0 + 0 ≤ _)⟩)
                dsimp only [Pt.U, Pt.locs, Pt.cells, Pt.slots] at X1181 l1181 y1181 z1181 st1181 hQ1181
                subst l1181 y1181 z1181
                obtain ⟨rfl, N1181q, e1181⟩ := hQ1181
                have N1181 := Fr.app N1178 N1181q
                refine OEnds.st st1181 ?_
                clear st1181
                show OEnds p.tables e below G (T1181.setTop (mkF m 253 #[.val (.int p1), .val (.long p2), .second, .val (.long p3), .second, .val (.long p4), .second, .val (.long p5), .second, .val (.int cz), .val (.int v1002), .val (.long v1004), .second, .val (.long v1006), .second, .val (.long v1008), .second, .val (.long v1010), .second, .val (.ref ps), .val (.ref rv_1158), .val (.int (0 : Int32))] [(.long (own_max v1004 v1010)), (.long (own_max v1004 v1010))]))
                refine OEnds.st (fun _ k => XS.lcmp X1181.here hx rfl (hb hby at_253) rfl k) ?_
                show OEnds p.tables e below G (T1181.setTop (mkF m 254 #[.val (.int p1), .val (.long p2), .second, .val (.long p3), .second, .val (.long p4), .second, .val (.long p5), .second, .val (.int cz), .val (.int v1002), .val (.long v1004), .second, .val (.long v1006), .second, .val (.long v1008), .second, .val (.long v1010), .second, .val (.ref ps), .val (.ref rv_1158), .val (.int (0 : Int32))] [(.int (lcmpW (own_max v1004 v1010) (own_max v1004 v1010)))]))
                have hc254_1182 : (own_max v1004 v1010) = (own_max v1004 v1010) := rfl
                refine OEnds.st (fun _ k => XS.ifNo X1181.here hx rfl (hb hby at_254) rfl ((if0 _ _).trans (teq ((lw_eq (own_max v1004 v1010) (own_max v1004 v1010)).mpr hc254_1182)).2) k) ?_
                show OEnds p.tables e below G (T1181.setTop (mkF m 257 #[.val (.int p1), .val (.long p2), .second, .val (.long p3), .second, .val (.long p4), .second, .val (.long p5), .second, .val (.int cz), .val (.int v1002), .val (.long v1004), .second, .val (.long v1006), .second, .val (.long v1008), .second, .val (.long v1010), .second, .val (.ref ps), .val (.ref rv_1158), .val (.int (0 : Int32))] []))
                refine OEnds.st (fun _ k => XS.iload X1181.here hx rfl (hb hby at_257) rfl k) ?_
                show OEnds p.tables e below G (T1181.setTop (mkF m 259 #[.val (.int p1), .val (.long p2), .second, .val (.long p3), .second, .val (.long p4), .second, .val (.long p5), .second, .val (.int cz), .val (.int v1002), .val (.long v1004), .second, .val (.long v1006), .second, .val (.long v1008), .second, .val (.long v1010), .second, .val (.ref ps), .val (.ref rv_1158), .val (.int (0 : Int32))] [(.int (0 : Int32))]))
                refine OEnds.st (fun _ k => XS.ifNo X1181.here hx rfl (hb hby at_259) rfl ((if0 _ _).trans (teq (by decide : (0 : Int32) = (0 : Int32))).2) k) ?_
                show OEnds p.tables e below G (T1181.setTop (mkF m 262 #[.val (.int p1), .val (.long p2), .second, .val (.long p3), .second, .val (.long p4), .second, .val (.long p5), .second, .val (.int cz), .val (.int v1002), .val (.long v1004), .second, .val (.long v1006), .second, .val (.long v1008), .second, .val (.long v1010), .second, .val (.ref ps), .val (.ref rv_1158), .val (.int (0 : Int32))] []))
                refine OEnds.st (fun _ k => XS.iconst X1181.here hx rfl (hb hby at_262) k) ?_
                show OEnds p.tables e below G (T1181.setTop (mkF m 263 #[.val (.int p1), .val (.long p2), .second, .val (.long p3), .second, .val (.long p4), .second, .val (.long p5), .second, .val (.int cz), .val (.int v1002), .val (.long v1004), .second, .val (.long v1006), .second, .val (.long v1008), .second, .val (.long v1010), .second, .val (.ref ps), .val (.ref rv_1158), .val (.int (0 : Int32))] [(.int (1 : Int32))]))
                refine OEnds.st (fun _ k => XS.goto X1181.here hx rfl (pc0 := 263) (pc' := 267) rfl (hb hby at_263) (by decide) (by decide) k) ?_
                show OEnds p.tables e below G (T1181.setTop (mkF m 267 #[.val (.int p1), .val (.long p2), .second, .val (.long p3), .second, .val (.long p4), .second, .val (.long p5), .second, .val (.int cz), .val (.int v1002), .val (.long v1004), .second, .val (.long v1006), .second, .val (.long v1008), .second, .val (.long v1010), .second, .val (.ref ps), .val (.ref rv_1158), .val (.int (0 : Int32))] [(.int (1 : Int32))]))
                rw [← hG]
                refine OEnds.retZ X1181 hx hlk Bd.returns rfl (hb hby at_267) (by decide) (by decide) ?_
                rw [e1181]
                exact ⟨rfl, N1181⟩
          rcases own_n3 hI3 with hnn | hnn | hnn | hnn
          · subst hnn
            show OEnds p.tables e below G (T1041.setTop (mkF m 92 #[.val (.int p1), .val (.long p2), .second, .val (.long p3), .second, .val (.long p4), .second, .val (.long p5), .second, .val (.int cz), .val (.int v1002), .val (.long v1004), .second, .val (.long v1006), .second, .val (.long v1008), .second, .val (.long v1010), .second, .val (.ref ps), .unset, .unset] [(.ref ps)]))
            obtain ⟨cq1183, kq1183, q1183a, q1183b, q1183c⟩ := isOf hZ e1041 f1042
            obtain ⟨_, _, ⟨T1183, L1183, k1183c, n1183c⟩, -, X1183, ⟨Lc1183, hQ1183, l1183, y1183, z1183⟩, st1183⟩ := X1041.virtualBack hx (y := (⟨"com/example/clearingd/clearingd/store/PositionSet", "clear", "()V"⟩ : MethodName)) (z := (⟨"com/example/clearingd/clearingd/store/PositionSet", "clear", "()V"⟩ : MethodName)) hown (mvT hZ (hw _ (List.mem_of_getElem? (i := 40) rfl))) (mvT hZ (hw _ (List.mem_of_getElem? (i := 41) rfl))) (notFace_of_selects (args := #[]) (mvT hZ (hw _ (List.mem_of_getElem? (i := 43) rfl)))) (mvT hZ (hw _ (List.mem_of_getElem? (i := 43) rfl))) (mvT hZ (hw _ (List.mem_of_getElem? (i := 42) rfl))) (by decide) (backOf (W := 0) (rmclr0 l Z a0 hw [] ps sa ta ks kt z M cz C f3 g3 ov3 h1041 n0 Z1041 f1042 f1043 f1044 f1045 f1046 f1047 f1048 f1049 g_ps g_sa g_ta ne1020 ne1021 ne1022 hz hM hmk hcz hI3) hZ (hw _ (List.mem_of_getElem? (i := 44) rfl)) (hw _ (List.mem_of_getElem? (i := 7) rfl)) (by decide) (by decide)) q1183a q1183c (g := (mkF m 92 #[.val (.int p1), .val (.long p2), .second, .val (.long p3), .second, .val (.long p4), .second, .val (.long p5), .second, .val (.int cz), .val (.int v1002), .val (.long v1004), .second, .val (.long v1006), .second, .val (.long v1008), .second, .val (.long v1010), .second, .val (.ref ps), .unset, .unset] [(.ref ps)])) rfl (by rw [hml]; rfl) (Steps.refl _) (argsL := []) (rest := []) (lenOf pd_12 rfl) rfl (by show 2 * 0 + _ ≤ _; exact Nat.le_of_eq rfl) (hb hby at_92) (fun _ _ => ⟨rfl, e1041, (by decide : 3 + 0 ≤ _), (by decide : 25 + 0 ≤ _)⟩)
            dsimp only [Pt.U, Pt.locs, Pt.cells, Pt.slots] at X1183 l1183 y1183 z1183 st1183 hQ1183
            subst l1183 y1183 z1183
            obtain ⟨rfl, N1183q, p1184, p1185, p1186, p1187, p1188, p1189, p1190, p1191, p1192⟩ := hQ1183
            have N1183 := Fr.app N1041 N1183q
            refine OEnds.st (fun _ k => st1183.trans k) ?_
            clear st1183
            have f1193 : Exa Z T1183.heap ps "com/example/clearingd/clearingd/store/PositionSet" := f1042.keep p1184
            have KK1183 : Keep h0 T1183.heap [] := KK1041.trans p1184 (fun x hx => by rcases List.mem_cons.mp hx with rfl | hx; exact Or.inr z_ps; rcases List.mem_cons.mp hx with rfl | hx; exact Or.inr z_sa; cases List.mem_singleton.mp hx; exact Or.inr z_ta)
            have Z1183 := Nat.le_trans Z1041 p1184.1
            exact rest95_1050 T1183 _ _ (own_grow X1183 (by decide) (by decide)) rfl N1183 KK1183 Z1183 g3 p1185 p1186 p1187 p1188 p1189 p1190 p1191 p1192 
          · subst hnn
            show OEnds p.tables e below G (T1041.setTop (mkF m 92 #[.val (.int p1), .val (.long p2), .second, .val (.long p3), .second, .val (.long p4), .second, .val (.long p5), .second, .val (.int cz), .val (.int v1002), .val (.long v1004), .second, .val (.long v1006), .second, .val (.long v1008), .second, .val (.long v1010), .second, .val (.ref ps), .unset, .unset] [(.ref ps)]))
            obtain ⟨cq1201, kq1201, q1201a, q1201b, q1201c⟩ := isOf hZ e1041 f1042
            obtain ⟨_, _, ⟨T1201, L1201, k1201c, n1201c⟩, -, X1201, ⟨Lc1201, hQ1201, l1201, y1201, z1201⟩, st1201⟩ := X1041.virtualBack hx (y := (⟨"com/example/clearingd/clearingd/store/PositionSet", "clear", "()V"⟩ : MethodName)) (z := (⟨"com/example/clearingd/clearingd/store/PositionSet", "clear", "()V"⟩ : MethodName)) hown (mvT hZ (hw _ (List.mem_of_getElem? (i := 40) rfl))) (mvT hZ (hw _ (List.mem_of_getElem? (i := 41) rfl))) (notFace_of_selects (args := #[]) (mvT hZ (hw _ (List.mem_of_getElem? (i := 43) rfl)))) (mvT hZ (hw _ (List.mem_of_getElem? (i := 43) rfl))) (mvT hZ (hw _ (List.mem_of_getElem? (i := 42) rfl))) (by decide) (backOf (W := 0) (rmclr1 l Z a0 hw [] ps sa ta ks kt z M cz C f3 g3 ov3 h1041 n0 Z1041 f1042 f1043 f1044 f1045 f1046 f1047 f1048 f1049 g_ps g_sa g_ta ne1020 ne1021 ne1022 hz hM hmk hcz hI3) hZ (hw _ (List.mem_of_getElem? (i := 44) rfl)) (hw _ (List.mem_of_getElem? (i := 7) rfl)) (by decide) (by decide)) q1201a q1201c (g := (mkF m 92 #[.val (.int p1), .val (.long p2), .second, .val (.long p3), .second, .val (.long p4), .second, .val (.long p5), .second, .val (.int cz), .val (.int v1002), .val (.long v1004), .second, .val (.long v1006), .second, .val (.long v1008), .second, .val (.long v1010), .second, .val (.ref ps), .unset, .unset] [(.ref ps)])) rfl (by rw [hml]; rfl) (Steps.refl _) (argsL := []) (rest := []) (lenOf pd_12 rfl) rfl (by show 2 * 0 + _ ≤ _; exact Nat.le_of_eq rfl) (hb hby at_92) (fun _ _ => ⟨rfl, e1041, (by decide : 3 + 0 ≤ _), (by decide : 25 + 0 ≤ _)⟩)
            dsimp only [Pt.U, Pt.locs, Pt.cells, Pt.slots] at X1201 l1201 y1201 z1201 st1201 hQ1201
            subst l1201 y1201 z1201
            obtain ⟨rfl, N1201q, p1202, p1203, p1204, p1205, p1206, p1207, p1208, p1209, p1210⟩ := hQ1201
            have N1201 := Fr.app N1041 N1201q
            refine OEnds.st (fun _ k => st1201.trans k) ?_
            clear st1201
            have f1211 : Exa Z T1201.heap ps "com/example/clearingd/clearingd/store/PositionSet" := f1042.keep p1202
            have KK1201 : Keep h0 T1201.heap [] := KK1041.trans p1202 (fun x hx => by rcases List.mem_cons.mp hx with rfl | hx; exact Or.inr z_ps; rcases List.mem_cons.mp hx with rfl | hx; exact Or.inr z_sa; cases List.mem_singleton.mp hx; exact Or.inr z_ta)
            have Z1201 := Nat.le_trans Z1041 p1202.1
            exact rest95_1050 T1201 _ _ (own_grow X1201 (by decide) (by decide)) rfl N1201 KK1201 Z1201 g3 p1203 p1204 p1205 p1206 p1207 p1208 p1209 p1210 
          · subst hnn
            show OEnds p.tables e below G (T1041.setTop (mkF m 92 #[.val (.int p1), .val (.long p2), .second, .val (.long p3), .second, .val (.long p4), .second, .val (.long p5), .second, .val (.int cz), .val (.int v1002), .val (.long v1004), .second, .val (.long v1006), .second, .val (.long v1008), .second, .val (.long v1010), .second, .val (.ref ps), .unset, .unset] [(.ref ps)]))
            obtain ⟨cq1219, kq1219, q1219a, q1219b, q1219c⟩ := isOf hZ e1041 f1042
            obtain ⟨_, _, ⟨T1219, L1219, k1219c, n1219c⟩, -, X1219, ⟨Lc1219, hQ1219, l1219, y1219, z1219⟩, st1219⟩ := X1041.virtualBack hx (y := (⟨"com/example/clearingd/clearingd/store/PositionSet", "clear", "()V"⟩ : MethodName)) (z := (⟨"com/example/clearingd/clearingd/store/PositionSet", "clear", "()V"⟩ : MethodName)) hown (mvT hZ (hw _ (List.mem_of_getElem? (i := 40) rfl))) (mvT hZ (hw _ (List.mem_of_getElem? (i := 41) rfl))) (notFace_of_selects (args := #[]) (mvT hZ (hw _ (List.mem_of_getElem? (i := 43) rfl)))) (mvT hZ (hw _ (List.mem_of_getElem? (i := 43) rfl))) (mvT hZ (hw _ (List.mem_of_getElem? (i := 42) rfl))) (by decide) (backOf (W := 0) (rmclr2 l Z a0 hw [] ps sa ta ks kt z M cz C f3 g3 ov3 h1041 n0 Z1041 f1042 f1043 f1044 f1045 f1046 f1047 f1048 f1049 g_ps g_sa g_ta ne1020 ne1021 ne1022 hz hM hmk hcz hI3) hZ (hw _ (List.mem_of_getElem? (i := 44) rfl)) (hw _ (List.mem_of_getElem? (i := 7) rfl)) (by decide) (by decide)) q1219a q1219c (g := (mkF m 92 #[.val (.int p1), .val (.long p2), .second, .val (.long p3), .second, .val (.long p4), .second, .val (.long p5), .second, .val (.int cz), .val (.int v1002), .val (.long v1004), .second, .val (.long v1006), .second, .val (.long v1008), .second, .val (.long v1010), .second, .val (.ref ps), .unset, .unset] [(.ref ps)])) rfl (by rw [hml]; rfl) (Steps.refl _) (argsL := []) (rest := []) (lenOf pd_12 rfl) rfl (by show 2 * 0 + _ ≤ _; exact Nat.le_of_eq rfl) (hb hby at_92) (fun _ _ => ⟨rfl, e1041, (by decide : 3 + 0 ≤ _), (by decide : 25 + 0 ≤ _)⟩)
            dsimp only [Pt.U, Pt.locs, Pt.cells, Pt.slots] at X1219 l1219 y1219 z1219 st1219 hQ1219
            subst l1219 y1219 z1219
            obtain ⟨rfl, N1219q, p1220, p1221, p1222, p1223, p1224, p1225, p1226, p1227, p1228⟩ := hQ1219
            have N1219 := Fr.app N1041 N1219q
            refine OEnds.st (fun _ k => st1219.trans k) ?_
            clear st1219
            have f1229 : Exa Z T1219.heap ps "com/example/clearingd/clearingd/store/PositionSet" := f1042.keep p1220
            have KK1219 : Keep h0 T1219.heap [] := KK1041.trans p1220 (fun x hx => by rcases List.mem_cons.mp hx with rfl | hx; exact Or.inr z_ps; rcases List.mem_cons.mp hx with rfl | hx; exact Or.inr z_sa; cases List.mem_singleton.mp hx; exact Or.inr z_ta)
            have Z1219 := Nat.le_trans Z1041 p1220.1
            exact rest95_1050 T1219 _ _ (own_grow X1219 (by decide) (by decide)) rfl N1219 KK1219 Z1219 g3 p1221 p1222 p1223 p1224 p1225 p1226 p1227 p1228 
          · subst hnn
            show OEnds p.tables e below G (T1041.setTop (mkF m 92 #[.val (.int p1), .val (.long p2), .second, .val (.long p3), .second, .val (.long p4), .second, .val (.long p5), .second, .val (.int cz), .val (.int v1002), .val (.long v1004), .second, .val (.long v1006), .second, .val (.long v1008), .second, .val (.long v1010), .second, .val (.ref ps), .unset, .unset] [(.ref ps)]))
            obtain ⟨cq1237, kq1237, q1237a, q1237b, q1237c⟩ := isOf hZ e1041 f1042
            obtain ⟨_, _, ⟨T1237, L1237, k1237c, n1237c⟩, -, X1237, ⟨Lc1237, hQ1237, l1237, y1237, z1237⟩, st1237⟩ := X1041.virtualBack hx (y := (⟨"com/example/clearingd/clearingd/store/PositionSet", "clear", "()V"⟩ : MethodName)) (z := (⟨"com/example/clearingd/clearingd/store/PositionSet", "clear", "()V"⟩ : MethodName)) hown (mvT hZ (hw _ (List.mem_of_getElem? (i := 40) rfl))) (mvT hZ (hw _ (List.mem_of_getElem? (i := 41) rfl))) (notFace_of_selects (args := #[]) (mvT hZ (hw _ (List.mem_of_getElem? (i := 43) rfl)))) (mvT hZ (hw _ (List.mem_of_getElem? (i := 43) rfl))) (mvT hZ (hw _ (List.mem_of_getElem? (i := 42) rfl))) (by decide) (backOf (W := 0) (rmclr3 l Z a0 hw [] ps sa ta ks kt z M cz C f3 g3 ov3 h1041 n0 Z1041 f1042 f1043 f1044 f1045 f1046 f1047 f1048 f1049 g_ps g_sa g_ta ne1020 ne1021 ne1022 hz hM hmk hcz hI3) hZ (hw _ (List.mem_of_getElem? (i := 44) rfl)) (hw _ (List.mem_of_getElem? (i := 7) rfl)) (by decide) (by decide)) q1237a q1237c (g := (mkF m 92 #[.val (.int p1), .val (.long p2), .second, .val (.long p3), .second, .val (.long p4), .second, .val (.long p5), .second, .val (.int cz), .val (.int v1002), .val (.long v1004), .second, .val (.long v1006), .second, .val (.long v1008), .second, .val (.long v1010), .second, .val (.ref ps), .unset, .unset] [(.ref ps)])) rfl (by rw [hml]; rfl) (Steps.refl _) (argsL := []) (rest := []) (lenOf pd_12 rfl) rfl (by show 2 * 0 + _ ≤ _; exact Nat.le_of_eq rfl) (hb hby at_92) (fun _ _ => ⟨rfl, e1041, (by decide : 3 + 0 ≤ _), (by decide : 25 + 0 ≤ _)⟩)
            dsimp only [Pt.U, Pt.locs, Pt.cells, Pt.slots] at X1237 l1237 y1237 z1237 st1237 hQ1237
            subst l1237 y1237 z1237
            obtain ⟨rfl, N1237q, p1238, p1239, p1240, p1241, p1242, p1243, p1244, p1245, p1246⟩ := hQ1237
            have N1237 := Fr.app N1041 N1237q
            refine OEnds.st (fun _ k => st1237.trans k) ?_
            clear st1237
            have f1247 : Exa Z T1237.heap ps "com/example/clearingd/clearingd/store/PositionSet" := f1042.keep p1238
            have KK1237 : Keep h0 T1237.heap [] := KK1041.trans p1238 (fun x hx => by rcases List.mem_cons.mp hx with rfl | hx; exact Or.inr z_ps; rcases List.mem_cons.mp hx with rfl | hx; exact Or.inr z_sa; cases List.mem_singleton.mp hx; exact Or.inr z_ta)
            have Z1237 := Nat.le_trans Z1041 p1238.1
            exact rest95_1050 T1237 _ _ (own_grow X1237 (by decide) (by decide)) rfl N1237 KK1237 Z1237 g3 p1239 p1240 p1241 p1242 p1243 p1244 p1245 p1246 
        show OEnds p.tables e below G (T1032.setTop (mkF m 77 #[.val (.int p1), .val (.long p2), .second, .val (.long p3), .second, .val (.long p4), .second, .val (.long p5), .second, .val (.int cz), .val (.int v1002), .val (.long v1004), .second, .val (.long v1006), .second, .val (.long v1008), .second, .val (.long v1010), .second, .val (.ref ps), .unset, .unset] []))
        refine OEnds.st (fun _ k => XS.iload X1032.here hx rfl (hb hby at_77) rfl k) ?_
        show OEnds p.tables e below G (T1032.setTop (mkF m 79 #[.val (.int p1), .val (.long p2), .second, .val (.long p3), .second, .val (.long p4), .second, .val (.long p5), .second, .val (.int cz), .val (.int v1002), .val (.long v1004), .second, .val (.long v1006), .second, .val (.long v1008), .second, .val (.long v1010), .second, .val (.ref ps), .unset, .unset] [(.int v1002)]))
        refine OEnds.st (fun _ k => XS.iconst X1032.here hx rfl (hb hby at_79) k) ?_
        show OEnds p.tables e below G (T1032.setTop (mkF m 80 #[.val (.int p1), .val (.long p2), .second, .val (.long p3), .second, .val (.long p4), .second, .val (.long p5), .second, .val (.int cz), .val (.int v1002), .val (.long v1004), .second, .val (.long v1006), .second, .val (.long v1008), .second, .val (.long v1010), .second, .val (.ref ps), .unset, .unset] [(.int (3 : Int32)), (.int v1002)]))
        by_cases hc80_1255 : v1002 < (3 : Int32)
        · -- pc 80: yes
          refine OEnds.st (fun _ k => XS.icmpYes X1032.here hx rfl (pc0 := 80) (pc' := 90) rfl (hb hby at_80) rfl (tlt hc80_1255).1 (by decide) (by decide) k) ?_
          exact rest90_1041 T1032 _ _ (own_grow X1032 (by decide) (by decide)) e1032 N1032 KK1032 Z1032 f2 g2 nn2 ov2 f1033 f1034 f1035 f1036 f1037 f1038 f1039 f1040 (own_wid (by decide) hI2)
        · -- pc 80: no
          refine OEnds.st (fun _ k => XS.icmpNo X1032.here hx rfl (hb hby at_80) rfl (flt hc80_1255).1 k) ?_
          show OEnds p.tables e below G (T1032.setTop (mkF m 83 #[.val (.int p1), .val (.long p2), .second, .val (.long p3), .second, .val (.long p4), .second, .val (.long p5), .second, .val (.int cz), .val (.int v1002), .val (.long v1004), .second, .val (.long v1006), .second, .val (.long v1008), .second, .val (.long v1010), .second, .val (.ref ps), .unset, .unset] []))
          refine OEnds.st (fun _ k => XS.aload X1032.here hx rfl (hb hby at_83) rfl rfl k) ?_
          show OEnds p.tables e below G (T1032.setTop (mkF m 85 #[.val (.int p1), .val (.long p2), .second, .val (.long p3), .second, .val (.long p4), .second, .val (.long p5), .second, .val (.int cz), .val (.int v1002), .val (.long v1004), .second, .val (.long v1006), .second, .val (.long v1008), .second, .val (.long v1010), .second, .val (.ref ps), .unset, .unset] [(.ref ps)]))
          refine OEnds.st (fun _ k => XS.lload X1032.here hx rfl (hb hby at_85) rfl k) ?_
          show OEnds p.tables e below G (T1032.setTop (mkF m 87 #[.val (.int p1), .val (.long p2), .second, .val (.long p3), .second, .val (.long p4), .second, .val (.long p5), .second, .val (.int cz), .val (.int v1002), .val (.long v1004), .second, .val (.long v1006), .second, .val (.long v1008), .second, .val (.long v1010), .second, .val (.ref ps), .unset, .unset] [(.long v1008), (.ref ps)]))
          obtain ⟨cq1256, kq1256, q1256a, q1256b, q1256c⟩ := isOf hZ e1032 f1033
          obtain ⟨_, _, ⟨T1256, L1256, k1256c, n1256c⟩, -, X1256, ⟨Lc1256, hQ1256, l1256, y1256, z1256⟩, st1256⟩ := X1032.virtualBack hx (y := (⟨"com/example/clearingd/clearingd/store/PositionSet", "add", "(J)V"⟩ : MethodName)) (z := (⟨"com/example/clearingd/clearingd/store/PositionSet", "add", "(J)V"⟩ : MethodName)) hown (mvT hZ (hw _ (List.mem_of_getElem? (i := 72) rfl))) (mvT hZ (hw _ (List.mem_of_getElem? (i := 73) rfl))) (notFace_of_selects (args := #[]) (mvT hZ (hw _ (List.mem_of_getElem? (i := 75) rfl)))) (mvT hZ (hw _ (List.mem_of_getElem? (i := 75) rfl))) (mvT hZ (hw _ (List.mem_of_getElem? (i := 74) rfl))) (by decide) (backOf (W := 0) (rm15 l Z a0 hw [] ps v1008 sa ta ks kt z M cz C f2 g2 nn2 ov2 h1032 n0 Z1032 f1033 f1034 f1035 f1036 f1037 f1038 f1039 f1040 g_ps g_sa g_ta ne1020 ne1021 ne1022 hz hM hmk hcz (own_wid (by decide) hI2)) hZ (hw _ (List.mem_of_getElem? (i := 76) rfl)) (hw _ (List.mem_of_getElem? (i := 7) rfl)) (by decide) (by decide)) q1256a q1256c (g := (mkF m 87 #[.val (.int p1), .val (.long p2), .second, .val (.long p3), .second, .val (.long p4), .second, .val (.long p5), .second, .val (.int cz), .val (.int v1002), .val (.long v1004), .second, .val (.long v1006), .second, .val (.long v1008), .second, .val (.long v1010), .second, .val (.ref ps), .unset, .unset] [(.long v1008), (.ref ps)])) rfl (by rw [hml]; rfl) (Steps.refl _) (argsL := [(.long v1008)]) (rest := []) (lenOf pd_11 rfl) rfl (by show 2 * 0 + _ ≤ _; exact Nat.le_of_eq rfl) (hb hby at_87) (fun _ _ => ⟨rfl, e1032, (by decide : 3 + 0 ≤ _), (by decide : 25 + 0 ≤ _)⟩)
          dsimp only [Pt.U, Pt.locs, Pt.cells, Pt.slots] at X1256 l1256 y1256 z1256 st1256 hQ1256
          subst l1256 y1256 z1256
          obtain ⟨f1_1256, g1_1256, m1_1256, o1_1256, rfl, N1256q, p1257, p1258, p1259, p1260, p1261, p1262, p1263, p1264, p1265, p1266⟩ := hQ1256
          have N1256 := Fr.app N1032 N1256q
          refine OEnds.st (fun _ k => st1256.trans k) ?_
          clear st1256
          have f1267 : Exa Z T1256.heap ps "com/example/clearingd/clearingd/store/PositionSet" := f1033.keep p1257
          have KK1256 : Keep h0 T1256.heap [] := KK1032.trans p1257 (fun x hx => by rcases List.mem_cons.mp hx with rfl | hx; exact Or.inr z_ps; rcases List.mem_cons.mp hx with rfl | hx; exact Or.inr z_sa; cases List.mem_singleton.mp hx; exact Or.inr z_ta)
          have Z1256 := Nat.le_trans Z1032 p1257.1
          have hJ1275 := own_keepI (by decide) hcz hI2 p1266
          exact rest90_1041 T1256 _ _ (own_grow X1256 (by decide) (by decide)) rfl N1256 KK1256 Z1256 f1_1256 g1_1256 m1_1256 o1_1256 p1258 p1259 p1260 p1261 p1262 p1263 p1264 p1265 hJ1275
      show OEnds p.tables e below G (T1023.setTop (mkF m 64 #[.val (.int p1), .val (.long p2), .second, .val (.long p3), .second, .val (.long p4), .second, .val (.long p5), .second, .val (.int cz), .val (.int v1002), .val (.long v1004), .second, .val (.long v1006), .second, .val (.long v1008), .second, .val (.long v1010), .second, .val (.ref ps), .unset, .unset] []))
      refine OEnds.st (fun _ k => XS.iload X1023.here hx rfl (hb hby at_64) rfl k) ?_
      show OEnds p.tables e below G (T1023.setTop (mkF m 66 #[.val (.int p1), .val (.long p2), .second, .val (.long p3), .second, .val (.long p4), .second, .val (.long p5), .second, .val (.int cz), .val (.int v1002), .val (.long v1004), .second, .val (.long v1006), .second, .val (.long v1008), .second, .val (.long v1010), .second, .val (.ref ps), .unset, .unset] [(.int v1002)]))
      refine OEnds.st (fun _ k => XS.iconst X1023.here hx rfl (hb hby at_66) k) ?_
      show OEnds p.tables e below G (T1023.setTop (mkF m 67 #[.val (.int p1), .val (.long p2), .second, .val (.long p3), .second, .val (.long p4), .second, .val (.long p5), .second, .val (.int cz), .val (.int v1002), .val (.long v1004), .second, .val (.long v1006), .second, .val (.long v1008), .second, .val (.long v1010), .second, .val (.ref ps), .unset, .unset] [(.int (2 : Int32)), (.int v1002)]))
      by_cases hc67_1276 : v1002 < (2 : Int32)
      · -- pc 67: yes
        refine OEnds.st (fun _ k => XS.icmpYes X1023.here hx rfl (pc0 := 67) (pc' := 77) rfl (hb hby at_67) rfl (tlt hc67_1276).1 (by decide) (by decide) k) ?_
        exact rest77_1032 T1023 _ _ (own_grow X1023 (by decide) (by decide)) e1023 N1023 KK1023 Z1023 f1 g1 nn1 ov1 f1024 f1025 f1026 f1027 f1028 f1029 f1030 f1031 (own_wid (by decide) hI1)
      · -- pc 67: no
        refine OEnds.st (fun _ k => XS.icmpNo X1023.here hx rfl (hb hby at_67) rfl (flt hc67_1276).1 k) ?_
        show OEnds p.tables e below G (T1023.setTop (mkF m 70 #[.val (.int p1), .val (.long p2), .second, .val (.long p3), .second, .val (.long p4), .second, .val (.long p5), .second, .val (.int cz), .val (.int v1002), .val (.long v1004), .second, .val (.long v1006), .second, .val (.long v1008), .second, .val (.long v1010), .second, .val (.ref ps), .unset, .unset] []))
        refine OEnds.st (fun _ k => XS.aload X1023.here hx rfl (hb hby at_70) rfl rfl k) ?_
        show OEnds p.tables e below G (T1023.setTop (mkF m 72 #[.val (.int p1), .val (.long p2), .second, .val (.long p3), .second, .val (.long p4), .second, .val (.long p5), .second, .val (.int cz), .val (.int v1002), .val (.long v1004), .second, .val (.long v1006), .second, .val (.long v1008), .second, .val (.long v1010), .second, .val (.ref ps), .unset, .unset] [(.ref ps)]))
        refine OEnds.st (fun _ k => XS.lload X1023.here hx rfl (hb hby at_72) rfl k) ?_
        show OEnds p.tables e below G (T1023.setTop (mkF m 74 #[.val (.int p1), .val (.long p2), .second, .val (.long p3), .second, .val (.long p4), .second, .val (.long p5), .second, .val (.int cz), .val (.int v1002), .val (.long v1004), .second, .val (.long v1006), .second, .val (.long v1008), .second, .val (.long v1010), .second, .val (.ref ps), .unset, .unset] [(.long v1006), (.ref ps)]))
        obtain ⟨cq1277, kq1277, q1277a, q1277b, q1277c⟩ := isOf hZ e1023 f1024
        obtain ⟨_, _, ⟨T1277, L1277, k1277c, n1277c⟩, -, X1277, ⟨Lc1277, hQ1277, l1277, y1277, z1277⟩, st1277⟩ := X1023.virtualBack hx (y := (⟨"com/example/clearingd/clearingd/store/PositionSet", "add", "(J)V"⟩ : MethodName)) (z := (⟨"com/example/clearingd/clearingd/store/PositionSet", "add", "(J)V"⟩ : MethodName)) hown (mvT hZ (hw _ (List.mem_of_getElem? (i := 72) rfl))) (mvT hZ (hw _ (List.mem_of_getElem? (i := 73) rfl))) (notFace_of_selects (args := #[]) (mvT hZ (hw _ (List.mem_of_getElem? (i := 75) rfl)))) (mvT hZ (hw _ (List.mem_of_getElem? (i := 75) rfl))) (mvT hZ (hw _ (List.mem_of_getElem? (i := 74) rfl))) (by decide) (backOf (W := 0) (rm15 l Z a0 hw [] ps v1006 sa ta ks kt z M cz C f1 g1 nn1 ov1 h1023 n0 Z1023 f1024 f1025 f1026 f1027 f1028 f1029 f1030 f1031 g_ps g_sa g_ta ne1020 ne1021 ne1022 hz hM hmk hcz (own_wid (by decide) hI1)) hZ (hw _ (List.mem_of_getElem? (i := 76) rfl)) (hw _ (List.mem_of_getElem? (i := 7) rfl)) (by decide) (by decide)) q1277a q1277c (g := (mkF m 74 #[.val (.int p1), .val (.long p2), .second, .val (.long p3), .second, .val (.long p4), .second, .val (.long p5), .second, .val (.int cz), .val (.int v1002), .val (.long v1004), .second, .val (.long v1006), .second, .val (.long v1008), .second, .val (.long v1010), .second, .val (.ref ps), .unset, .unset] [(.long v1006), (.ref ps)])) rfl (by rw [hml]; rfl) (Steps.refl _) (argsL := [(.long v1006)]) (rest := []) (lenOf pd_11 rfl) rfl (by show 2 * 0 + _ ≤ _; exact Nat.le_of_eq rfl) (hb hby at_74) (fun _ _ => ⟨rfl, e1023, (by decide : 3 + 0 ≤ _), (by decide : 25 + 0 ≤ _)⟩)
        dsimp only [Pt.U, Pt.locs, Pt.cells, Pt.slots] at X1277 l1277 y1277 z1277 st1277 hQ1277
        subst l1277 y1277 z1277
        obtain ⟨f1_1277, g1_1277, m1_1277, o1_1277, rfl, N1277q, p1278, p1279, p1280, p1281, p1282, p1283, p1284, p1285, p1286, p1287⟩ := hQ1277
        have N1277 := Fr.app N1023 N1277q
        refine OEnds.st (fun _ k => st1277.trans k) ?_
        clear st1277
        have f1288 : Exa Z T1277.heap ps "com/example/clearingd/clearingd/store/PositionSet" := f1024.keep p1278
        have KK1277 : Keep h0 T1277.heap [] := KK1023.trans p1278 (fun x hx => by rcases List.mem_cons.mp hx with rfl | hx; exact Or.inr z_ps; rcases List.mem_cons.mp hx with rfl | hx; exact Or.inr z_sa; cases List.mem_singleton.mp hx; exact Or.inr z_ta)
        have Z1277 := Nat.le_trans Z1023 p1278.1
        have hJ1296 := own_keepI (by decide) hcz hI1 p1287
        exact rest77_1032 T1277 _ _ (own_grow X1277 (by decide) (by decide)) rfl N1277 KK1277 Z1277 f1_1277 g1_1277 m1_1277 o1_1277 p1279 p1280 p1281 p1282 p1283 p1284 p1285 p1286 hJ1296
    show OEnds p.tables e below G (T1011.setTop (mkF m 51 #[.val (.int p1), .val (.long p2), .second, .val (.long p3), .second, .val (.long p4), .second, .val (.long p5), .second, .val (.int cz), .val (.int v1002), .val (.long v1004), .second, .val (.long v1006), .second, .val (.long v1008), .second, .val (.long v1010), .second, .val (.ref ps), .unset, .unset] []))
    refine OEnds.st (fun _ k => XS.iload X1011.here hx rfl (hb hby at_51) rfl k) ?_
    show OEnds p.tables e below G (T1011.setTop (mkF m 53 #[.val (.int p1), .val (.long p2), .second, .val (.long p3), .second, .val (.long p4), .second, .val (.long p5), .second, .val (.int cz), .val (.int v1002), .val (.long v1004), .second, .val (.long v1006), .second, .val (.long v1008), .second, .val (.long v1010), .second, .val (.ref ps), .unset, .unset] [(.int v1002)]))
    refine OEnds.st (fun _ k => XS.iconst X1011.here hx rfl (hb hby at_53) k) ?_
    show OEnds p.tables e below G (T1011.setTop (mkF m 54 #[.val (.int p1), .val (.long p2), .second, .val (.long p3), .second, .val (.long p4), .second, .val (.long p5), .second, .val (.int cz), .val (.int v1002), .val (.long v1004), .second, .val (.long v1006), .second, .val (.long v1008), .second, .val (.long v1010), .second, .val (.ref ps), .unset, .unset] [(.int (1 : Int32)), (.int v1002)]))
    by_cases hc54_1297 : v1002 < (1 : Int32)
    · -- pc 54: yes
      refine OEnds.st (fun _ k => XS.icmpYes X1011.here hx rfl (pc0 := 54) (pc' := 64) rfl (hb hby at_54) rfl (tlt hc54_1297).1 (by decide) (by decide) k) ?_
      exact rest64_1023 T1011 _ _ (own_grow X1011 (by decide) (by decide)) e1011 N1011 KK1011 Z1011 own_E own_Z (0 : Int32) (0 : Int32) f1012 f1013 f1014 f1015 f1016 f1017 f1018 f1019 (own_wid (by decide) hI0)
    · -- pc 54: no
      refine OEnds.st (fun _ k => XS.icmpNo X1011.here hx rfl (hb hby at_54) rfl (flt hc54_1297).1 k) ?_
      show OEnds p.tables e below G (T1011.setTop (mkF m 57 #[.val (.int p1), .val (.long p2), .second, .val (.long p3), .second, .val (.long p4), .second, .val (.long p5), .second, .val (.int cz), .val (.int v1002), .val (.long v1004), .second, .val (.long v1006), .second, .val (.long v1008), .second, .val (.long v1010), .second, .val (.ref ps), .unset, .unset] []))
      refine OEnds.st (fun _ k => XS.aload X1011.here hx rfl (hb hby at_57) rfl rfl k) ?_
      show OEnds p.tables e below G (T1011.setTop (mkF m 59 #[.val (.int p1), .val (.long p2), .second, .val (.long p3), .second, .val (.long p4), .second, .val (.long p5), .second, .val (.int cz), .val (.int v1002), .val (.long v1004), .second, .val (.long v1006), .second, .val (.long v1008), .second, .val (.long v1010), .second, .val (.ref ps), .unset, .unset] [(.ref ps)]))
      refine OEnds.st (fun _ k => XS.lload X1011.here hx rfl (hb hby at_59) rfl k) ?_
      show OEnds p.tables e below G (T1011.setTop (mkF m 61 #[.val (.int p1), .val (.long p2), .second, .val (.long p3), .second, .val (.long p4), .second, .val (.long p5), .second, .val (.int cz), .val (.int v1002), .val (.long v1004), .second, .val (.long v1006), .second, .val (.long v1008), .second, .val (.long v1010), .second, .val (.ref ps), .unset, .unset] [(.long v1004), (.ref ps)]))
      obtain ⟨cq1298, kq1298, q1298a, q1298b, q1298c⟩ := isOf hZ e1011 f1012
      obtain ⟨_, _, ⟨T1298, L1298, k1298c, n1298c⟩, -, X1298, ⟨Lc1298, hQ1298, l1298, y1298, z1298⟩, st1298⟩ := X1011.virtualBack hx (y := (⟨"com/example/clearingd/clearingd/store/PositionSet", "add", "(J)V"⟩ : MethodName)) (z := (⟨"com/example/clearingd/clearingd/store/PositionSet", "add", "(J)V"⟩ : MethodName)) hown (mvT hZ (hw _ (List.mem_of_getElem? (i := 72) rfl))) (mvT hZ (hw _ (List.mem_of_getElem? (i := 73) rfl))) (notFace_of_selects (args := #[]) (mvT hZ (hw _ (List.mem_of_getElem? (i := 75) rfl)))) (mvT hZ (hw _ (List.mem_of_getElem? (i := 75) rfl))) (mvT hZ (hw _ (List.mem_of_getElem? (i := 74) rfl))) (by decide) (backOf (W := 0) (rm15 l Z a0 hw [] ps v1004 sa ta ks kt z M cz C own_E own_Z (0 : Int32) (0 : Int32) h1011 n0 Z1011 f1012 f1013 f1014 f1015 f1016 f1017 f1018 f1019 g_ps g_sa g_ta ne1020 ne1021 ne1022 hz hM hmk hcz (own_wid (by decide) hI0)) hZ (hw _ (List.mem_of_getElem? (i := 76) rfl)) (hw _ (List.mem_of_getElem? (i := 7) rfl)) (by decide) (by decide)) q1298a q1298c (g := (mkF m 61 #[.val (.int p1), .val (.long p2), .second, .val (.long p3), .second, .val (.long p4), .second, .val (.long p5), .second, .val (.int cz), .val (.int v1002), .val (.long v1004), .second, .val (.long v1006), .second, .val (.long v1008), .second, .val (.long v1010), .second, .val (.ref ps), .unset, .unset] [(.long v1004), (.ref ps)])) rfl (by rw [hml]; rfl) (Steps.refl _) (argsL := [(.long v1004)]) (rest := []) (lenOf pd_11 rfl) rfl (by show 2 * 0 + _ ≤ _; exact Nat.le_of_eq rfl) (hb hby at_61) (fun _ _ => ⟨rfl, e1011, (by decide : 3 + 0 ≤ _), (by decide : 25 + 0 ≤ _)⟩)
      dsimp only [Pt.U, Pt.locs, Pt.cells, Pt.slots] at X1298 l1298 y1298 z1298 st1298 hQ1298
      subst l1298 y1298 z1298
      obtain ⟨f1_1298, g1_1298, m1_1298, o1_1298, rfl, N1298q, p1299, p1300, p1301, p1302, p1303, p1304, p1305, p1306, p1307, p1308⟩ := hQ1298
      have N1298 := Fr.app N1011 N1298q
      refine OEnds.st (fun _ k => st1298.trans k) ?_
      clear st1298
      have f1309 : Exa Z T1298.heap ps "com/example/clearingd/clearingd/store/PositionSet" := f1012.keep p1299
      have KK1298 : Keep h0 T1298.heap [] := KK1011.trans p1299 (fun x hx => by rcases List.mem_cons.mp hx with rfl | hx; exact Or.inr z_ps; rcases List.mem_cons.mp hx with rfl | hx; exact Or.inr z_sa; cases List.mem_singleton.mp hx; exact Or.inr z_ta)
      have Z1298 := Nat.le_trans Z1011 p1299.1
      have hJ1317 := own_keepI (by decide) hcz hI0 p1308
      exact rest64_1023 T1298 _ _ (own_grow X1298 (by decide) (by decide)) rfl N1298 KK1298 Z1298 f1_1298 g1_1298 m1_1298 o1_1298 p1300 p1301 p1302 p1303 p1304 p1305 p1306 p1307 hJ1317
  rcases hcap with hcp | hcp | hcp | hcp
  · -- capacity 1
    rw [hcp]
    show OEnds p.tables e below G (T1009.setTop (mkF m 40 #[.val (.int p1), .val (.long p2), .second, .val (.long p3), .second, .val (.long p4), .second, .val (.long p5), .second, .val (.int (1 : Int32)), .val (.int v1002), .val (.long v1004), .second, .val (.long v1006), .second, .val (.long v1008), .second, .val (.long v1010), .second, .unset, .unset, .unset] []))
    obtain ⟨T1318, h1318, X1318, e1318, E1318, A1318, D1318, -, st1318⟩ := newO X1009 hx hZ hown (hw _ (List.mem_of_getElem? (i := 5) rfl)) (hw _ (List.mem_of_getElem? (i := 6) rfl)) (hw _ (List.mem_of_getElem? (i := 7) rfl)) e1009 (g := (mkF m 40 #[.val (.int p1), .val (.long p2), .second, .val (.long p3), .second, .val (.long p4), .second, .val (.long p5), .second, .val (.int (1 : Int32)), .val (.int v1002), .val (.long v1004), .second, .val (.long v1006), .second, .val (.long v1008), .second, .val (.long v1010), .second, .unset, .unset, .unset] [])) rfl (hb hby at_40) (by decide) (by decide)
    obtain ⟨b1318, g1318⟩ : ∃ z, z = h0.size := ⟨_, rfl⟩
    rw [← g1318] at A1318 D1318 st1318
    refine OEnds.st st1318 ?_
    clear st1318
    have ge_b1318 : n0 ≤ b1318 := Nat.le_trans Z0 (Nat.le_of_eq g1318.symm)
    have sz_b1318 : h0.size ≤ b1318 := Nat.le_trans KK0.1 (Nat.le_of_eq g1318.symm)
    have KK1318 : Keep h0 h1318 [] := KK0.ext E1318
    have Z1318 := Nat.le_trans Z0 E1318.1
    have ex_b1318 := A1318
    have f1319 : Fld Z h1318 b1318 "com/example/clearingd/clearingd/store/PositionSet" "capacity" "I" (.int (0 : Int32)) := D1318 (Or.inr (hw _ (List.mem_of_getElem? (i := 19) rfl))) (ty := .int) (by decide)
    have f1320 : Fld Z h1318 b1318 "com/example/clearingd/clearingd/store/PositionSet" "slots" "[J" .null := D1318 (Or.inr (hw _ (List.mem_of_getElem? (i := 31) rfl))) (ty := (.array .long)) (by decide)
    have f1321 : Fld Z h1318 b1318 "com/example/clearingd/clearingd/store/PositionSet" "taken" "[I" .null := D1318 (Or.inr (hw _ (List.mem_of_getElem? (i := 34) rfl))) (ty := (.array .int)) (by decide)
    have f1322 : Fld Z h1318 b1318 "com/example/clearingd/clearingd/store/PositionSet" "size" "I" (.int (0 : Int32)) := D1318 (Or.inl (hw _ (List.mem_of_getElem? (i := 46) rfl))) (ty := .int) (by decide)
    have f1323 : Fld Z h1318 b1318 "com/example/clearingd/clearingd/store/PositionSet" "overflowed" "Z" (.int (0 : Int32)) := D1318 (Or.inl (hw _ (List.mem_of_getElem? (i := 48) rfl))) (ty := .boolean) (by decide)
    show OEnds p.tables e below G (T1318.setTop (mkF m 43 #[.val (.int p1), .val (.long p2), .second, .val (.long p3), .second, .val (.long p4), .second, .val (.long p5), .second, .val (.int (1 : Int32)), .val (.int v1002), .val (.long v1004), .second, .val (.long v1006), .second, .val (.long v1008), .second, .val (.long v1010), .second, .unset, .unset, .unset] [(.ref b1318)]))
    refine OEnds.st (fun _ k => XS.dup X1318.here hx rfl (hb hby at_43) rfl rfl k) ?_
    show OEnds p.tables e below G (T1318.setTop (mkF m 44 #[.val (.int p1), .val (.long p2), .second, .val (.long p3), .second, .val (.long p4), .second, .val (.long p5), .second, .val (.int (1 : Int32)), .val (.int v1002), .val (.long v1004), .second, .val (.long v1006), .second, .val (.long v1008), .second, .val (.long v1010), .second, .unset, .unset, .unset] [(.ref b1318), (.ref b1318)]))
    refine OEnds.st (fun _ k => XS.iload X1318.here hx rfl (hb hby at_44) rfl k) ?_
    show OEnds p.tables e below G (T1318.setTop (mkF m 46 #[.val (.int p1), .val (.long p2), .second, .val (.long p3), .second, .val (.long p4), .second, .val (.long p5), .second, .val (.int (1 : Int32)), .val (.int v1002), .val (.long v1004), .second, .val (.long v1006), .second, .val (.long v1008), .second, .val (.long v1010), .second, .unset, .unset, .unset] [(.int (1 : Int32)), (.ref b1318), (.ref b1318)]))
    obtain ⟨_, _, ⟨T1324, L1324, k1324c, n1324c⟩, -, X1324, ⟨Lc1324, hQ1324, l1324, y1324, z1324⟩, st1324⟩ := X1318.specialBack hx (y := (⟨"com/example/clearingd/clearingd/store/PositionSet", "<init>", "(I)V"⟩ : MethodName)) rfl hown (mvT hZ (hw _ (List.mem_of_getElem? (i := 8) rfl))) (mvT hZ (hw _ (List.mem_of_getElem? (i := 9) rfl))) (mvT hZ (hw _ (List.mem_of_getElem? (i := 10) rfl))) (by decide) (backOf (W := 1) (rmini1 l Z a0 hw [] b1318 h1318 n0 Z1318 ex_b1318 f1320 f1321 f1319 f1322 f1323 ge_b1318) hZ (hw _ (List.mem_of_getElem? (i := 10) rfl)) (hw _ (List.mem_of_getElem? (i := 7) rfl)) (by decide) (by decide)) (g := (mkF m 46 #[.val (.int p1), .val (.long p2), .second, .val (.long p3), .second, .val (.long p4), .second, .val (.long p5), .second, .val (.int (1 : Int32)), .val (.int v1002), .val (.long v1004), .second, .val (.long v1006), .second, .val (.long v1008), .second, .val (.long v1010), .second, .unset, .unset, .unset] [(.int (1 : Int32)), (.ref b1318), (.ref b1318)])) rfl (by rw [hml]; rfl) (Steps.refl _) (a := b1318) (argsL := [(.int (1 : Int32))]) (rest := [(.ref b1318)]) (lenOf pd_13 rfl) rfl (by show 2 * 0 + _ ≤ _; exact Nat.le_of_eq rfl) (hb hby at_46) (fun _ _ => ⟨rfl, e1318, (by decide : 0 + 0 + 0 + 0 + 0 + 1 + 2 ≤ _), (by decide : 0 + 0 + 0 + 0 + 0 + 5 + 5 ≤ _)⟩)
    dsimp only [Pt.U, Pt.locs, Pt.cells, Pt.slots] at X1324 l1324 y1324 z1324 st1324 hQ1324
    subst l1324 y1324 z1324
    obtain ⟨sa_1324, ta_1324, ks_1324, kt_1324, rfl, N1324q, p1325, p1326, p1327, p1328, p1329, p1330, p1331, p1332, p1333, p1334, p1335, p1336⟩ := hQ1324
    have N1324 := Fr.app N1009 N1324q
    refine OEnds.st (fun _ k => st1324.trans k) ?_
    clear st1324
    have ne1337 : b1318 ≠ sa_1324 := Nat.ne_of_lt (Nat.lt_of_lt_of_le (ex_b1318).lt p1326)
    have sz_sa_1324 : h0.size ≤ sa_1324 := Nat.le_trans KK1318.1 p1326
    have ge_sa_1324 : n0 ≤ sa_1324 := Nat.le_trans Z1318 p1326
    have ne1338 : b1318 ≠ ta_1324 := Nat.ne_of_lt (Nat.lt_of_lt_of_le (ex_b1318).lt p1327)
    have sz_ta_1324 : h0.size ≤ ta_1324 := Nat.le_trans KK1318.1 p1327
    have ge_ta_1324 : n0 ≤ ta_1324 := Nat.le_trans Z1318 p1327
    have f1339 : Exa Z T1324.heap b1318 "com/example/clearingd/clearingd/store/PositionSet" := ex_b1318.keep p1325
    have KK1324 : Keep h0 T1324.heap [] := KK1318.trans p1325 (fun x hx => by cases List.mem_singleton.mp hx; exact Or.inr sz_b1318)
    have Z1324 := Nat.le_trans Z1318 p1325.1
    show OEnds p.tables e below G (T1324.setTop (mkF m 49 #[.val (.int p1), .val (.long p2), .second, .val (.long p3), .second, .val (.long p4), .second, .val (.long p5), .second, .val (.int (1 : Int32)), .val (.int v1002), .val (.long v1004), .second, .val (.long v1006), .second, .val (.long v1008), .second, .val (.long v1010), .second, .unset, .unset, .unset] [(.ref b1318)]))
    refine OEnds.st (fun _ k => XS.astore X1324.here hx rfl (hb hby at_49) rfl rfl (l' := #[.val (.int p1), .val (.long p2), .second, .val (.long p3), .second, .val (.long p4), .second, .val (.long p5), .second, .val (.int (1 : Int32)), .val (.int v1002), .val (.long v1004), .second, .val (.long v1006), .second, .val (.long v1008), .second, .val (.long v1010), .second, .val (.ref b1318), .unset, .unset]) rfl k) ?_
    exact rest51_1011 T1324 _ _ (own_grow X1324 (by decide) (by decide)) rfl N1324 KK1324 Z1324 (1 : Int32) b1318 sa_1324 ta_1324 ks_1324 kt_1324 (4 : Int32) 4 1 p1329 p1330 p1331 p1332 p1333 p1334 p1335 p1336 (Ne.symm ne1337) (Ne.symm ne1338) p1328 ge_b1318 ge_sa_1324 ge_ta_1324 sz_b1318 sz_sa_1324 sz_ta_1324 rfl (by decide) own_mk4 rfl (by decide)
  · -- capacity 2
    rw [hcp]
    show OEnds p.tables e below G (T1009.setTop (mkF m 40 #[.val (.int p1), .val (.long p2), .second, .val (.long p3), .second, .val (.long p4), .second, .val (.long p5), .second, .val (.int (2 : Int32)), .val (.int v1002), .val (.long v1004), .second, .val (.long v1006), .second, .val (.long v1008), .second, .val (.long v1010), .second, .unset, .unset, .unset] []))
    obtain ⟨T1345, h1345, X1345, e1345, E1345, A1345, D1345, -, st1345⟩ := newO X1009 hx hZ hown (hw _ (List.mem_of_getElem? (i := 5) rfl)) (hw _ (List.mem_of_getElem? (i := 6) rfl)) (hw _ (List.mem_of_getElem? (i := 7) rfl)) e1009 (g := (mkF m 40 #[.val (.int p1), .val (.long p2), .second, .val (.long p3), .second, .val (.long p4), .second, .val (.long p5), .second, .val (.int (2 : Int32)), .val (.int v1002), .val (.long v1004), .second, .val (.long v1006), .second, .val (.long v1008), .second, .val (.long v1010), .second, .unset, .unset, .unset] [])) rfl (hb hby at_40) (by decide) (by decide)
    obtain ⟨b1345, g1345⟩ : ∃ z, z = h0.size := ⟨_, rfl⟩
    rw [← g1345] at A1345 D1345 st1345
    refine OEnds.st st1345 ?_
    clear st1345
    have ge_b1345 : n0 ≤ b1345 := Nat.le_trans Z0 (Nat.le_of_eq g1345.symm)
    have sz_b1345 : h0.size ≤ b1345 := Nat.le_trans KK0.1 (Nat.le_of_eq g1345.symm)
    have KK1345 : Keep h0 h1345 [] := KK0.ext E1345
    have Z1345 := Nat.le_trans Z0 E1345.1
    have ex_b1345 := A1345
    have f1346 : Fld Z h1345 b1345 "com/example/clearingd/clearingd/store/PositionSet" "capacity" "I" (.int (0 : Int32)) := D1345 (Or.inr (hw _ (List.mem_of_getElem? (i := 19) rfl))) (ty := .int) (by decide)
    have f1347 : Fld Z h1345 b1345 "com/example/clearingd/clearingd/store/PositionSet" "slots" "[J" .null := D1345 (Or.inr (hw _ (List.mem_of_getElem? (i := 31) rfl))) (ty := (.array .long)) (by decide)
    have f1348 : Fld Z h1345 b1345 "com/example/clearingd/clearingd/store/PositionSet" "taken" "[I" .null := D1345 (Or.inr (hw _ (List.mem_of_getElem? (i := 34) rfl))) (ty := (.array .int)) (by decide)
    have f1349 : Fld Z h1345 b1345 "com/example/clearingd/clearingd/store/PositionSet" "size" "I" (.int (0 : Int32)) := D1345 (Or.inl (hw _ (List.mem_of_getElem? (i := 46) rfl))) (ty := .int) (by decide)
    have f1350 : Fld Z h1345 b1345 "com/example/clearingd/clearingd/store/PositionSet" "overflowed" "Z" (.int (0 : Int32)) := D1345 (Or.inl (hw _ (List.mem_of_getElem? (i := 48) rfl))) (ty := .boolean) (by decide)
    show OEnds p.tables e below G (T1345.setTop (mkF m 43 #[.val (.int p1), .val (.long p2), .second, .val (.long p3), .second, .val (.long p4), .second, .val (.long p5), .second, .val (.int (2 : Int32)), .val (.int v1002), .val (.long v1004), .second, .val (.long v1006), .second, .val (.long v1008), .second, .val (.long v1010), .second, .unset, .unset, .unset] [(.ref b1345)]))
    refine OEnds.st (fun _ k => XS.dup X1345.here hx rfl (hb hby at_43) rfl rfl k) ?_
    show OEnds p.tables e below G (T1345.setTop (mkF m 44 #[.val (.int p1), .val (.long p2), .second, .val (.long p3), .second, .val (.long p4), .second, .val (.long p5), .second, .val (.int (2 : Int32)), .val (.int v1002), .val (.long v1004), .second, .val (.long v1006), .second, .val (.long v1008), .second, .val (.long v1010), .second, .unset, .unset, .unset] [(.ref b1345), (.ref b1345)]))
    refine OEnds.st (fun _ k => XS.iload X1345.here hx rfl (hb hby at_44) rfl k) ?_
    show OEnds p.tables e below G (T1345.setTop (mkF m 46 #[.val (.int p1), .val (.long p2), .second, .val (.long p3), .second, .val (.long p4), .second, .val (.long p5), .second, .val (.int (2 : Int32)), .val (.int v1002), .val (.long v1004), .second, .val (.long v1006), .second, .val (.long v1008), .second, .val (.long v1010), .second, .unset, .unset, .unset] [(.int (2 : Int32)), (.ref b1345), (.ref b1345)]))
    obtain ⟨_, _, ⟨T1351, L1351, k1351c, n1351c⟩, -, X1351, ⟨Lc1351, hQ1351, l1351, y1351, z1351⟩, st1351⟩ := X1345.specialBack hx (y := (⟨"com/example/clearingd/clearingd/store/PositionSet", "<init>", "(I)V"⟩ : MethodName)) rfl hown (mvT hZ (hw _ (List.mem_of_getElem? (i := 8) rfl))) (mvT hZ (hw _ (List.mem_of_getElem? (i := 9) rfl))) (mvT hZ (hw _ (List.mem_of_getElem? (i := 10) rfl))) (by decide) (backOf (W := 1) (rmini2 l Z a0 hw [] b1345 h1345 n0 Z1345 ex_b1345 f1347 f1348 f1346 f1349 f1350 ge_b1345) hZ (hw _ (List.mem_of_getElem? (i := 10) rfl)) (hw _ (List.mem_of_getElem? (i := 7) rfl)) (by decide) (by decide)) (g := (mkF m 46 #[.val (.int p1), .val (.long p2), .second, .val (.long p3), .second, .val (.long p4), .second, .val (.long p5), .second, .val (.int (2 : Int32)), .val (.int v1002), .val (.long v1004), .second, .val (.long v1006), .second, .val (.long v1008), .second, .val (.long v1010), .second, .unset, .unset, .unset] [(.int (2 : Int32)), (.ref b1345), (.ref b1345)])) rfl (by rw [hml]; rfl) (Steps.refl _) (a := b1345) (argsL := [(.int (2 : Int32))]) (rest := [(.ref b1345)]) (lenOf pd_13 rfl) rfl (by show 2 * 0 + _ ≤ _; exact Nat.le_of_eq rfl) (hb hby at_46) (fun _ _ => ⟨rfl, e1345, (by decide : 0 + 0 + 0 + 0 + 0 + 1 + 2 ≤ _), (by decide : 0 + 0 + 0 + 0 + 0 + 5 + 10 ≤ _)⟩)
    dsimp only [Pt.U, Pt.locs, Pt.cells, Pt.slots] at X1351 l1351 y1351 z1351 st1351 hQ1351
    subst l1351 y1351 z1351
    obtain ⟨sa_1351, ta_1351, ks_1351, kt_1351, rfl, N1351q, p1352, p1353, p1354, p1355, p1356, p1357, p1358, p1359, p1360, p1361, p1362, p1363⟩ := hQ1351
    have N1351 := Fr.app N1009 N1351q
    refine OEnds.st (fun _ k => st1351.trans k) ?_
    clear st1351
    have ne1364 : b1345 ≠ sa_1351 := Nat.ne_of_lt (Nat.lt_of_lt_of_le (ex_b1345).lt p1353)
    have sz_sa_1351 : h0.size ≤ sa_1351 := Nat.le_trans KK1345.1 p1353
    have ge_sa_1351 : n0 ≤ sa_1351 := Nat.le_trans Z1345 p1353
    have ne1365 : b1345 ≠ ta_1351 := Nat.ne_of_lt (Nat.lt_of_lt_of_le (ex_b1345).lt p1354)
    have sz_ta_1351 : h0.size ≤ ta_1351 := Nat.le_trans KK1345.1 p1354
    have ge_ta_1351 : n0 ≤ ta_1351 := Nat.le_trans Z1345 p1354
    have f1366 : Exa Z T1351.heap b1345 "com/example/clearingd/clearingd/store/PositionSet" := ex_b1345.keep p1352
    have KK1351 : Keep h0 T1351.heap [] := KK1345.trans p1352 (fun x hx => by cases List.mem_singleton.mp hx; exact Or.inr sz_b1345)
    have Z1351 := Nat.le_trans Z1345 p1352.1
    show OEnds p.tables e below G (T1351.setTop (mkF m 49 #[.val (.int p1), .val (.long p2), .second, .val (.long p3), .second, .val (.long p4), .second, .val (.long p5), .second, .val (.int (2 : Int32)), .val (.int v1002), .val (.long v1004), .second, .val (.long v1006), .second, .val (.long v1008), .second, .val (.long v1010), .second, .unset, .unset, .unset] [(.ref b1345)]))
    refine OEnds.st (fun _ k => XS.astore X1351.here hx rfl (hb hby at_49) rfl rfl (l' := #[.val (.int p1), .val (.long p2), .second, .val (.long p3), .second, .val (.long p4), .second, .val (.long p5), .second, .val (.int (2 : Int32)), .val (.int v1002), .val (.long v1004), .second, .val (.long v1006), .second, .val (.long v1008), .second, .val (.long v1010), .second, .val (.ref b1345), .unset, .unset]) rfl k) ?_
    exact rest51_1011 T1351 _ _ (own_grow X1351 (by decide) (by decide)) rfl N1351 KK1351 Z1351 (2 : Int32) b1345 sa_1351 ta_1351 ks_1351 kt_1351 (8 : Int32) 8 2 p1356 p1357 p1358 p1359 p1360 p1361 p1362 p1363 (Ne.symm ne1364) (Ne.symm ne1365) p1355 ge_b1345 ge_sa_1351 ge_ta_1351 sz_b1345 sz_sa_1351 sz_ta_1351 rfl (by decide) own_mk8 rfl (by decide)
  · -- capacity 3
    rw [hcp]
    show OEnds p.tables e below G (T1009.setTop (mkF m 40 #[.val (.int p1), .val (.long p2), .second, .val (.long p3), .second, .val (.long p4), .second, .val (.long p5), .second, .val (.int (3 : Int32)), .val (.int v1002), .val (.long v1004), .second, .val (.long v1006), .second, .val (.long v1008), .second, .val (.long v1010), .second, .unset, .unset, .unset] []))
    obtain ⟨T1372, h1372, X1372, e1372, E1372, A1372, D1372, -, st1372⟩ := newO X1009 hx hZ hown (hw _ (List.mem_of_getElem? (i := 5) rfl)) (hw _ (List.mem_of_getElem? (i := 6) rfl)) (hw _ (List.mem_of_getElem? (i := 7) rfl)) e1009 (g := (mkF m 40 #[.val (.int p1), .val (.long p2), .second, .val (.long p3), .second, .val (.long p4), .second, .val (.long p5), .second, .val (.int (3 : Int32)), .val (.int v1002), .val (.long v1004), .second, .val (.long v1006), .second, .val (.long v1008), .second, .val (.long v1010), .second, .unset, .unset, .unset] [])) rfl (hb hby at_40) (by decide) (by decide)
    obtain ⟨b1372, g1372⟩ : ∃ z, z = h0.size := ⟨_, rfl⟩
    rw [← g1372] at A1372 D1372 st1372
    refine OEnds.st st1372 ?_
    clear st1372
    have ge_b1372 : n0 ≤ b1372 := Nat.le_trans Z0 (Nat.le_of_eq g1372.symm)
    have sz_b1372 : h0.size ≤ b1372 := Nat.le_trans KK0.1 (Nat.le_of_eq g1372.symm)
    have KK1372 : Keep h0 h1372 [] := KK0.ext E1372
    have Z1372 := Nat.le_trans Z0 E1372.1
    have ex_b1372 := A1372
    have f1373 : Fld Z h1372 b1372 "com/example/clearingd/clearingd/store/PositionSet" "capacity" "I" (.int (0 : Int32)) := D1372 (Or.inr (hw _ (List.mem_of_getElem? (i := 19) rfl))) (ty := .int) (by decide)
    have f1374 : Fld Z h1372 b1372 "com/example/clearingd/clearingd/store/PositionSet" "slots" "[J" .null := D1372 (Or.inr (hw _ (List.mem_of_getElem? (i := 31) rfl))) (ty := (.array .long)) (by decide)
    have f1375 : Fld Z h1372 b1372 "com/example/clearingd/clearingd/store/PositionSet" "taken" "[I" .null := D1372 (Or.inr (hw _ (List.mem_of_getElem? (i := 34) rfl))) (ty := (.array .int)) (by decide)
    have f1376 : Fld Z h1372 b1372 "com/example/clearingd/clearingd/store/PositionSet" "size" "I" (.int (0 : Int32)) := D1372 (Or.inl (hw _ (List.mem_of_getElem? (i := 46) rfl))) (ty := .int) (by decide)
    have f1377 : Fld Z h1372 b1372 "com/example/clearingd/clearingd/store/PositionSet" "overflowed" "Z" (.int (0 : Int32)) := D1372 (Or.inl (hw _ (List.mem_of_getElem? (i := 48) rfl))) (ty := .boolean) (by decide)
    show OEnds p.tables e below G (T1372.setTop (mkF m 43 #[.val (.int p1), .val (.long p2), .second, .val (.long p3), .second, .val (.long p4), .second, .val (.long p5), .second, .val (.int (3 : Int32)), .val (.int v1002), .val (.long v1004), .second, .val (.long v1006), .second, .val (.long v1008), .second, .val (.long v1010), .second, .unset, .unset, .unset] [(.ref b1372)]))
    refine OEnds.st (fun _ k => XS.dup X1372.here hx rfl (hb hby at_43) rfl rfl k) ?_
    show OEnds p.tables e below G (T1372.setTop (mkF m 44 #[.val (.int p1), .val (.long p2), .second, .val (.long p3), .second, .val (.long p4), .second, .val (.long p5), .second, .val (.int (3 : Int32)), .val (.int v1002), .val (.long v1004), .second, .val (.long v1006), .second, .val (.long v1008), .second, .val (.long v1010), .second, .unset, .unset, .unset] [(.ref b1372), (.ref b1372)]))
    refine OEnds.st (fun _ k => XS.iload X1372.here hx rfl (hb hby at_44) rfl k) ?_
    show OEnds p.tables e below G (T1372.setTop (mkF m 46 #[.val (.int p1), .val (.long p2), .second, .val (.long p3), .second, .val (.long p4), .second, .val (.long p5), .second, .val (.int (3 : Int32)), .val (.int v1002), .val (.long v1004), .second, .val (.long v1006), .second, .val (.long v1008), .second, .val (.long v1010), .second, .unset, .unset, .unset] [(.int (3 : Int32)), (.ref b1372), (.ref b1372)]))
    obtain ⟨_, _, ⟨T1378, L1378, k1378c, n1378c⟩, -, X1378, ⟨Lc1378, hQ1378, l1378, y1378, z1378⟩, st1378⟩ := X1372.specialBack hx (y := (⟨"com/example/clearingd/clearingd/store/PositionSet", "<init>", "(I)V"⟩ : MethodName)) rfl hown (mvT hZ (hw _ (List.mem_of_getElem? (i := 8) rfl))) (mvT hZ (hw _ (List.mem_of_getElem? (i := 9) rfl))) (mvT hZ (hw _ (List.mem_of_getElem? (i := 10) rfl))) (by decide) (backOf (W := 1) (rmini3 l Z a0 hw [] b1372 h1372 n0 Z1372 ex_b1372 f1374 f1375 f1373 f1376 f1377 ge_b1372) hZ (hw _ (List.mem_of_getElem? (i := 10) rfl)) (hw _ (List.mem_of_getElem? (i := 7) rfl)) (by decide) (by decide)) (g := (mkF m 46 #[.val (.int p1), .val (.long p2), .second, .val (.long p3), .second, .val (.long p4), .second, .val (.long p5), .second, .val (.int (3 : Int32)), .val (.int v1002), .val (.long v1004), .second, .val (.long v1006), .second, .val (.long v1008), .second, .val (.long v1010), .second, .unset, .unset, .unset] [(.int (3 : Int32)), (.ref b1372), (.ref b1372)])) rfl (by rw [hml]; rfl) (Steps.refl _) (a := b1372) (argsL := [(.int (3 : Int32))]) (rest := [(.ref b1372)]) (lenOf pd_13 rfl) rfl (by show 2 * 0 + _ ≤ _; exact Nat.le_of_eq rfl) (hb hby at_46) (fun _ _ => ⟨rfl, e1372, (by decide : 0 + 0 + 0 + 0 + 0 + 1 + 2 ≤ _), (by decide : 0 + 0 + 0 + 0 + 0 + 5 + 11 ≤ _)⟩)
    dsimp only [Pt.U, Pt.locs, Pt.cells, Pt.slots] at X1378 l1378 y1378 z1378 st1378 hQ1378
    subst l1378 y1378 z1378
    obtain ⟨sa_1378, ta_1378, ks_1378, kt_1378, rfl, N1378q, p1379, p1380, p1381, p1382, p1383, p1384, p1385, p1386, p1387, p1388, p1389, p1390⟩ := hQ1378
    have N1378 := Fr.app N1009 N1378q
    refine OEnds.st (fun _ k => st1378.trans k) ?_
    clear st1378
    have ne1391 : b1372 ≠ sa_1378 := Nat.ne_of_lt (Nat.lt_of_lt_of_le (ex_b1372).lt p1380)
    have sz_sa_1378 : h0.size ≤ sa_1378 := Nat.le_trans KK1372.1 p1380
    have ge_sa_1378 : n0 ≤ sa_1378 := Nat.le_trans Z1372 p1380
    have ne1392 : b1372 ≠ ta_1378 := Nat.ne_of_lt (Nat.lt_of_lt_of_le (ex_b1372).lt p1381)
    have sz_ta_1378 : h0.size ≤ ta_1378 := Nat.le_trans KK1372.1 p1381
    have ge_ta_1378 : n0 ≤ ta_1378 := Nat.le_trans Z1372 p1381
    have f1393 : Exa Z T1378.heap b1372 "com/example/clearingd/clearingd/store/PositionSet" := ex_b1372.keep p1379
    have KK1378 : Keep h0 T1378.heap [] := KK1372.trans p1379 (fun x hx => by cases List.mem_singleton.mp hx; exact Or.inr sz_b1372)
    have Z1378 := Nat.le_trans Z1372 p1379.1
    show OEnds p.tables e below G (T1378.setTop (mkF m 49 #[.val (.int p1), .val (.long p2), .second, .val (.long p3), .second, .val (.long p4), .second, .val (.long p5), .second, .val (.int (3 : Int32)), .val (.int v1002), .val (.long v1004), .second, .val (.long v1006), .second, .val (.long v1008), .second, .val (.long v1010), .second, .unset, .unset, .unset] [(.ref b1372)]))
    refine OEnds.st (fun _ k => XS.astore X1378.here hx rfl (hb hby at_49) rfl rfl (l' := #[.val (.int p1), .val (.long p2), .second, .val (.long p3), .second, .val (.long p4), .second, .val (.long p5), .second, .val (.int (3 : Int32)), .val (.int v1002), .val (.long v1004), .second, .val (.long v1006), .second, .val (.long v1008), .second, .val (.long v1010), .second, .val (.ref b1372), .unset, .unset]) rfl k) ?_
    exact rest51_1011 T1378 _ _ (own_grow X1378 (by decide) (by decide)) rfl N1378 KK1378 Z1378 (3 : Int32) b1372 sa_1378 ta_1378 ks_1378 kt_1378 (8 : Int32) 8 3 p1383 p1384 p1385 p1386 p1387 p1388 p1389 p1390 (Ne.symm ne1391) (Ne.symm ne1392) p1382 ge_b1372 ge_sa_1378 ge_ta_1378 sz_b1372 sz_sa_1378 sz_ta_1378 rfl (by decide) own_mk8 rfl (by decide)
  · -- capacity 4
    rw [hcp]
    show OEnds p.tables e below G (T1009.setTop (mkF m 40 #[.val (.int p1), .val (.long p2), .second, .val (.long p3), .second, .val (.long p4), .second, .val (.long p5), .second, .val (.int (4 : Int32)), .val (.int v1002), .val (.long v1004), .second, .val (.long v1006), .second, .val (.long v1008), .second, .val (.long v1010), .second, .unset, .unset, .unset] []))
    obtain ⟨T1399, h1399, X1399, e1399, E1399, A1399, D1399, -, st1399⟩ := newO X1009 hx hZ hown (hw _ (List.mem_of_getElem? (i := 5) rfl)) (hw _ (List.mem_of_getElem? (i := 6) rfl)) (hw _ (List.mem_of_getElem? (i := 7) rfl)) e1009 (g := (mkF m 40 #[.val (.int p1), .val (.long p2), .second, .val (.long p3), .second, .val (.long p4), .second, .val (.long p5), .second, .val (.int (4 : Int32)), .val (.int v1002), .val (.long v1004), .second, .val (.long v1006), .second, .val (.long v1008), .second, .val (.long v1010), .second, .unset, .unset, .unset] [])) rfl (hb hby at_40) (by decide) (by decide)
    obtain ⟨b1399, g1399⟩ : ∃ z, z = h0.size := ⟨_, rfl⟩
    rw [← g1399] at A1399 D1399 st1399
    refine OEnds.st st1399 ?_
    clear st1399
    have ge_b1399 : n0 ≤ b1399 := Nat.le_trans Z0 (Nat.le_of_eq g1399.symm)
    have sz_b1399 : h0.size ≤ b1399 := Nat.le_trans KK0.1 (Nat.le_of_eq g1399.symm)
    have KK1399 : Keep h0 h1399 [] := KK0.ext E1399
    have Z1399 := Nat.le_trans Z0 E1399.1
    have ex_b1399 := A1399
    have f1400 : Fld Z h1399 b1399 "com/example/clearingd/clearingd/store/PositionSet" "capacity" "I" (.int (0 : Int32)) := D1399 (Or.inr (hw _ (List.mem_of_getElem? (i := 19) rfl))) (ty := .int) (by decide)
    have f1401 : Fld Z h1399 b1399 "com/example/clearingd/clearingd/store/PositionSet" "slots" "[J" .null := D1399 (Or.inr (hw _ (List.mem_of_getElem? (i := 31) rfl))) (ty := (.array .long)) (by decide)
    have f1402 : Fld Z h1399 b1399 "com/example/clearingd/clearingd/store/PositionSet" "taken" "[I" .null := D1399 (Or.inr (hw _ (List.mem_of_getElem? (i := 34) rfl))) (ty := (.array .int)) (by decide)
    have f1403 : Fld Z h1399 b1399 "com/example/clearingd/clearingd/store/PositionSet" "size" "I" (.int (0 : Int32)) := D1399 (Or.inl (hw _ (List.mem_of_getElem? (i := 46) rfl))) (ty := .int) (by decide)
    have f1404 : Fld Z h1399 b1399 "com/example/clearingd/clearingd/store/PositionSet" "overflowed" "Z" (.int (0 : Int32)) := D1399 (Or.inl (hw _ (List.mem_of_getElem? (i := 48) rfl))) (ty := .boolean) (by decide)
    show OEnds p.tables e below G (T1399.setTop (mkF m 43 #[.val (.int p1), .val (.long p2), .second, .val (.long p3), .second, .val (.long p4), .second, .val (.long p5), .second, .val (.int (4 : Int32)), .val (.int v1002), .val (.long v1004), .second, .val (.long v1006), .second, .val (.long v1008), .second, .val (.long v1010), .second, .unset, .unset, .unset] [(.ref b1399)]))
    refine OEnds.st (fun _ k => XS.dup X1399.here hx rfl (hb hby at_43) rfl rfl k) ?_
    show OEnds p.tables e below G (T1399.setTop (mkF m 44 #[.val (.int p1), .val (.long p2), .second, .val (.long p3), .second, .val (.long p4), .second, .val (.long p5), .second, .val (.int (4 : Int32)), .val (.int v1002), .val (.long v1004), .second, .val (.long v1006), .second, .val (.long v1008), .second, .val (.long v1010), .second, .unset, .unset, .unset] [(.ref b1399), (.ref b1399)]))
    refine OEnds.st (fun _ k => XS.iload X1399.here hx rfl (hb hby at_44) rfl k) ?_
    show OEnds p.tables e below G (T1399.setTop (mkF m 46 #[.val (.int p1), .val (.long p2), .second, .val (.long p3), .second, .val (.long p4), .second, .val (.long p5), .second, .val (.int (4 : Int32)), .val (.int v1002), .val (.long v1004), .second, .val (.long v1006), .second, .val (.long v1008), .second, .val (.long v1010), .second, .unset, .unset, .unset] [(.int (4 : Int32)), (.ref b1399), (.ref b1399)]))
    obtain ⟨_, _, ⟨T1405, L1405, k1405c, n1405c⟩, -, X1405, ⟨Lc1405, hQ1405, l1405, y1405, z1405⟩, st1405⟩ := X1399.specialBack hx (y := (⟨"com/example/clearingd/clearingd/store/PositionSet", "<init>", "(I)V"⟩ : MethodName)) rfl hown (mvT hZ (hw _ (List.mem_of_getElem? (i := 8) rfl))) (mvT hZ (hw _ (List.mem_of_getElem? (i := 9) rfl))) (mvT hZ (hw _ (List.mem_of_getElem? (i := 10) rfl))) (by decide) (backOf (W := 1) (rmini4 l Z a0 hw [] b1399 h1399 n0 Z1399 ex_b1399 f1401 f1402 f1400 f1403 f1404 ge_b1399) hZ (hw _ (List.mem_of_getElem? (i := 10) rfl)) (hw _ (List.mem_of_getElem? (i := 7) rfl)) (by decide) (by decide)) (g := (mkF m 46 #[.val (.int p1), .val (.long p2), .second, .val (.long p3), .second, .val (.long p4), .second, .val (.long p5), .second, .val (.int (4 : Int32)), .val (.int v1002), .val (.long v1004), .second, .val (.long v1006), .second, .val (.long v1008), .second, .val (.long v1010), .second, .unset, .unset, .unset] [(.int (4 : Int32)), (.ref b1399), (.ref b1399)])) rfl (by rw [hml]; rfl) (Steps.refl _) (a := b1399) (argsL := [(.int (4 : Int32))]) (rest := [(.ref b1399)]) (lenOf pd_13 rfl) rfl (by show 2 * 0 + _ ≤ _; exact Nat.le_of_eq rfl) (hb hby at_46) (fun _ _ => ⟨rfl, e1399, (by decide : 0 + 0 + 0 + 0 + 0 + 1 + 2 ≤ _), (by decide : 0 + 0 + 0 + 0 + 0 + 5 + 20 ≤ _)⟩)
    dsimp only [Pt.U, Pt.locs, Pt.cells, Pt.slots] at X1405 l1405 y1405 z1405 st1405 hQ1405
    subst l1405 y1405 z1405
    obtain ⟨sa_1405, ta_1405, ks_1405, kt_1405, rfl, N1405q, p1406, p1407, p1408, p1409, p1410, p1411, p1412, p1413, p1414, p1415, p1416, p1417⟩ := hQ1405
    have N1405 := Fr.app N1009 N1405q
    refine OEnds.st (fun _ k => st1405.trans k) ?_
    clear st1405
    have ne1418 : b1399 ≠ sa_1405 := Nat.ne_of_lt (Nat.lt_of_lt_of_le (ex_b1399).lt p1407)
    have sz_sa_1405 : h0.size ≤ sa_1405 := Nat.le_trans KK1399.1 p1407
    have ge_sa_1405 : n0 ≤ sa_1405 := Nat.le_trans Z1399 p1407
    have ne1419 : b1399 ≠ ta_1405 := Nat.ne_of_lt (Nat.lt_of_lt_of_le (ex_b1399).lt p1408)
    have sz_ta_1405 : h0.size ≤ ta_1405 := Nat.le_trans KK1399.1 p1408
    have ge_ta_1405 : n0 ≤ ta_1405 := Nat.le_trans Z1399 p1408
    have f1420 : Exa Z T1405.heap b1399 "com/example/clearingd/clearingd/store/PositionSet" := ex_b1399.keep p1406
    have KK1405 : Keep h0 T1405.heap [] := KK1399.trans p1406 (fun x hx => by cases List.mem_singleton.mp hx; exact Or.inr sz_b1399)
    have Z1405 := Nat.le_trans Z1399 p1406.1
    show OEnds p.tables e below G (T1405.setTop (mkF m 49 #[.val (.int p1), .val (.long p2), .second, .val (.long p3), .second, .val (.long p4), .second, .val (.long p5), .second, .val (.int (4 : Int32)), .val (.int v1002), .val (.long v1004), .second, .val (.long v1006), .second, .val (.long v1008), .second, .val (.long v1010), .second, .unset, .unset, .unset] [(.ref b1399)]))
    refine OEnds.st (fun _ k => XS.astore X1405.here hx rfl (hb hby at_49) rfl rfl (l' := #[.val (.int p1), .val (.long p2), .second, .val (.long p3), .second, .val (.long p4), .second, .val (.long p5), .second, .val (.int (4 : Int32)), .val (.int v1002), .val (.long v1004), .second, .val (.long v1006), .second, .val (.long v1008), .second, .val (.long v1010), .second, .val (.ref b1399), .unset, .unset]) rfl k) ?_
    exact rest51_1011 T1405 _ _ (own_grow X1405 (by decide) (by decide)) rfl N1405 KK1405 Z1405 (4 : Int32) b1399 sa_1405 ta_1405 ks_1405 kt_1405 (16 : Int32) 16 4 p1410 p1411 p1412 p1413 p1414 p1415 p1416 p1417 (Ne.symm ne1418) (Ne.symm ne1419) p1409 ge_b1399 ge_sa_1405 ge_ta_1405 sz_b1399 sz_sa_1405 sz_ta_1405 rfl (by decide) own_mk16 rfl (by decide)
set_option maxRecDepth 65536 in
set_option maxHeartbeats 40000000 in
theorem comes_1 {Post : Tables → Env → Array Value → State → Outcome → State → Prop} (hpost : ∀ tb e args s v u, (limb_1_1.after args s (.returned v) u = true ∧ limb_1_2.after args s (.returned v) u = true ∧ True) → FrameEnd s (.returned v) u (Jvm.fieldLocs frame_1_writes args s ++ Jvm.arrayLocs frame_1_arrays args s ++ Jvm.staticLocs frame_1_statics s) 24 128 → Post tb e args s (.returned v) u) :
    ArmFor flags0 classFile x code maxLocals ret World_1 tables_1 room_1 Calls_1 rest_1 Pre_1 Post := by
  intro l hfl _ _ p e ha hc hk s m args below hf hA hF happ hP
  obtain ⟨hcalls, hrest, hpre⟩ := hP
  obtain ⟨-, -, -, hnamed, -, -, -, hat⟩ := (Spec.applies_iff hf).mp happ
  obtain ⟨hg, hn⟩ := and_e (Cond.before_iff.mp (show (Jvm.Cond.and given_1 narrow_1).before args s = true from hpre))
  obtain ⟨gc, gr0⟩ := and_e hg
  obtain ⟨ga0, gr1⟩ := and_e gr0
  obtain ⟨ga1, gr2⟩ := and_e gr1
  obtain ⟨ga2, gr3⟩ := and_e gr2
  obtain ⟨ga3, gr4⟩ := and_e gr3
  obtain ⟨w0, w1, w2, w3, w4, rfl⟩ : ∃ w0 w1 w2 w3 w4 : Value, args = #[w0, w1, w2, w3, w4] := by
    have hs : args.size = 5 := by simpa [Cond.value, given_1] using gc
    obtain ⟨L⟩ := args
    match L, hs with
    | [w0, w1, w2, w3, w4], _ => exact ⟨w0, w1, w2, w3, w4, rfl⟩
  have hw := fun d (hd : d ∈ tables_1) => atoms_spec (ws := Jvm.Cond.code x code maxLocals ret :: tables_1) hat d (List.mem_cons_of_mem _ hd)
  have hfit : Fit s := fun {y c} hc i hi => by
    obtain ⟨ha, rfl⟩ := Array.getElem?_eq_some_iff.mp hc
    have q := List.all_eq_true.mp ((Array.all_eq_true_iff_forall_mem.mp hF) _ (Array.getElem_mem ha)) i (List.mem_range.mpr hi)
    simpa [Array.getElem?_eq_getElem hi] using q
  obtain ⟨i0, ei0⟩ := is_v ga0
  obtain rfl : w0 = (.int i0) := Option.some.inj ei0
  obtain ⟨i1, ei1⟩ := isL_v ga1
  obtain rfl : w1 = (.long i1) := Option.some.inj ei1
  obtain ⟨i2, ei2⟩ := isL_v ga2
  obtain rfl : w2 = (.long i2) := Option.some.inj ei2
  obtain ⟨i3, ei3⟩ := isL_v ga3
  obtain rfl : w3 = (.long i3) := Option.some.inj ei3
  obtain ⟨i4, ei4⟩ := isL_v gr4
  obtain rfl : w4 = (.long i4) := Option.some.inj ei4
  obtain ⟨n, o, h1, h2, h3, _, L, rfl, ⟨rfl, N⟩, hq⟩ := rm0 l s _ hw tables_1 i0 i1 i2 i3 i4  s.heap s.heap.size (Nat.le_refl _)  p e ha hc hk s m _ below hf ((Spec.applies_iff_loose hf).mp happ).1 ⟨rfl, State.Warmed39.refl s, rfl⟩ trivial
  refine ⟨n, _, h1, h2, h3, hpost _ _ _ _ _ _ ⟨Cond.after_iff.mpr rfl, Cond.after_iff.mpr (eq_i res_at (Term.int_eval (1)) rfl), trivial⟩ ⟨hq.1, hq.2.1, (hq.2.2.sift fun y hy => Or.inr (N y hy)).mono (by decide) (by decide)⟩⟩
theorem main_1_1 : Claimed_1_1 := comes_1 fun _ _ _ _ _ _ h hF => ⟨h.1, hF⟩
theorem main_1_2 : Claimed_1_2 := comes_1 fun _ _ _ _ _ _ h hF => ⟨h.2.1, hF⟩
end Jvm.Pilot.@@N@@
namespace Jvm.Pilot.@@N@@
open Jvm Jvm.ClassFile Sem Op Lib Jvm.Free Jvm.Stand Jvm.Pilot.@@N@@.Jvm.D
/-! MADE BY PROGRAM (witnessworld.py) out of the Statement's table words and the real class files: 20 classes; the members and pool entries that the words name. The judged class is class 1, her method 2. -/
namespace start1
open Jvm.ClassFile
def u (s : String) : CpInfo := .utf8 (stringToUtf16 s)
/-- a pool by its gaps: so many unusable entries, then the entry; so many at the end -/
def gap : Nat → List CpInfo → List CpInfo
  | 0, r => r
  | n + 1, r => .unusable :: gap n r
def poolList (es : List (Nat × CpInfo)) (last : Nat) : List CpInfo := es.foldr (fun e r => gap e.1 (e.2 :: r)) (gap last [])
def pool (es : List (Nat × CpInfo)) (last : Nat) : Array CpInfo := ⟨poolList es last⟩
def fileOf (pool : Array CpInfo) (this : Nat) (attrs : Array Attribute := #[]) (ms : Array MethodInfo := #[]) (fl : Nat := 33) (sup : Nat := 0) (ifs : Array Nat := #[]) (fds : Array FieldInfo := #[]) : ClassFile where
  minorVersion := 0
  majorVersion := 65
  constantPool := pool
  accessFlags := fl
  thisClass := this
  superClass := sup
  interfaces := ifs
  fields := fds
  methods := ms
  attributes := attrs
def plain (name : String) (sup : Option ClassId) : Class where
  name := name
  kind := .ordinary
  loader := none
  accessFlags := 33
  super := sup
  interfaces := #[]
  cf := none
  fields := #[]
  methods := #[]
  instanceTypes := #[]
  staticTypes := #[]
  resolved := #[]
  callSites := []
  init := .initialized
  statics := none
  mirror := none

def pool0 : Array CpInfo := pool [(5, u "<init>"), (0, u "()V"), (1, .class_ 10), (1, u "java/lang/Object")] 113

def k0c0 : Code := { maxStack := 0, maxLocals := 1, code := object_method_1_code, exceptionTable := #[], attributes := #[] }
def k0m0 : Method := { name := "<init>", desc := "()V", sig := { parameters := [], returnType := none }, accessFlags := 1, code := some k0c0 }
/-- java/lang/Object -/
def k0 : Class := { plain "java/lang/Object" none with
  accessFlags := 33
  interfaces := #[]
  cf := some (fileOf pool0 8 #[] #[{ accessFlags := 1, nameIndex := 5, descriptorIndex := 6, attributes := #[] }] 33 0 #[] #[])
  fields := #[]
  methods := #[k0m0]
  instanceTypes := #[]
  staticTypes := #[]
  resolved := Array.replicate 124 none
  statics := none }

def pool1 : Array CpInfo := pool [(2, .class_ 4), (1, u "java/lang/Object"), (0, u "<init>"), (0, u "()V"), (2, .long 9223372036854775807), (1, .methodref 12 13), (0, .class_ 14), (0, .nameAndType 15 16), (0, u "com/example/clearingd/clearingd/store/PositionSetClearPinLaw"), (0, u "pos"), (0, u "(J)J"), (0, .class_ 18), (0, u "com/example/clearingd/clearingd/store/PositionSet"), (0, .methodref 17 20), (0, .nameAndType 5 21), (0, u "(I)V"), (0, .methodref 17 23), (0, .nameAndType 24 25), (0, u "add"), (0, u "(J)V"), (0, .methodref 17 27), (0, .nameAndType 28 6), (0, u "clear"), (0, .methodref 17 30), (0, .nameAndType 31 32), (0, u "overflowed"), (0, u "()Z"), (0, .methodref 17 34), (0, .nameAndType 35 36), (0, u "sortedBelow"), (0, u "(J)[J"), (0, .methodref 38 39), (0, .class_ 40), (0, .nameAndType 41 42), (0, u "java/lang/Math"), (0, u "min"), (0, u "(JJ)J"), (0, .methodref 38 44), (0, .nameAndType 45 42), (0, u "max"), (2, u "law"), (0, u "(IJJJJ)Z")] 5

def k1m0 : Method := { name := "<init>", desc := "()V", sig := { parameters := [], returnType := none }, accessFlags := 1, code := none }
def k1c1 : Code := { maxStack := 4, maxLocals := 2, code := method_2_code, exceptionTable := #[], attributes := #[] }
def k1m1 : Method := { name := "pos", desc := "(J)J", sig := { parameters := [.long], returnType := some .long }, accessFlags := 10, code := some k1c1 }
def k1c2 : Code := { maxStack := 6, maxLocals := 22, code := code, exceptionTable := #[], attributes := #[] }
def k1m2 : Method := { name := "law", desc := "(IJJJJ)Z", sig := { parameters := [.int, .long, .long, .long, .long], returnType := some .boolean }, accessFlags := 9, code := some k1c2 }
/-- com/example/clearingd/clearingd/store/PositionSetClearPinLaw -/
def k1 : Class := { plain "com/example/clearingd/clearingd/store/PositionSetClearPinLaw" (some 0) with
  accessFlags := 49
  interfaces := #[]
  cf := some (fileOf pool1 12 #[] #[{ accessFlags := 1, nameIndex := 5, descriptorIndex := 6, attributes := #[] }, { accessFlags := 10, nameIndex := 15, descriptorIndex := 16, attributes := #[] }, { accessFlags := 9, nameIndex := 48, descriptorIndex := 49, attributes := #[] }] 49 2 #[] #[])
  fields := #[]
  methods := #[k1m0, k1m1, k1m2]
  instanceTypes := #[]
  staticTypes := #[]
  resolved := Array.replicate 55 none
  statics := none }

def pool2 : Array CpInfo := pool [(1, .methodref 2 3), (0, .class_ 4), (0, .nameAndType 5 6), (0, u "java/lang/Object"), (0, u "<init>"), (0, u "()V"), (0, .methodref 8 9), (0, .class_ 10), (0, .nameAndType 11 12), (0, u "java/lang/Math"), (0, u "max"), (0, u "(II)I"), (0, .fieldref 14 15), (0, .class_ 16), (0, .nameAndType 17 18), (0, u "com/example/clearingd/clearingd/store/PositionSet"), (0, u "capacity"), (0, u "I"), (0, .methodref 20 21), (0, .class_ 22), (0, .nameAndType 23 24), (0, u "java/lang/Integer"), (0, u "highestOneBit"), (0, u "(I)I"), (0, .fieldref 14 26), (0, .nameAndType 27 28), (0, u "slots"), (0, u "[J"), (0, .fieldref 14 30), (0, .nameAndType 31 32), (0, u "taken"), (0, u "[I"), (0, .long 18446744073709551615), (1, .methodref 36 37), (0, .class_ 38), (0, .nameAndType 39 40), (0, u "java/util/Arrays"), (0, u "fill"), (0, u "([JJ)V"), (0, .methodref 42 43), (0, .class_ 44), (0, .nameAndType 45 46), (0, u "com/example/clearingd/clearingd/store/Entries"), (0, u "hash"), (0, u "(JJ)J"), (0, .fieldref 14 48), (0, .nameAndType 49 18), (0, u "size"), (0, .fieldref 14 51), (0, .nameAndType 52 53), (0, u "overflowed"), (0, u "Z"), (4, .methodref 36 59), (0, .nameAndType 60 61), (0, u "sort"), (0, u "([J)V"), (6, u "EMPTY"), (0, u "J"), (1, u "(I)V"), (2, u "add"), (0, u "(J)V"), (1, u "()Z"), (0, u "sortedBelow"), (0, u "(J)[J"), (1, u "clear")] 4

def k2c0 : Code := { maxStack := 3, maxLocals := 2, code := prog_44_method_1_code, exceptionTable := #[], attributes := #[] }
def k2m0 : Method := { name := "<init>", desc := "(I)V", sig := { parameters := [.int], returnType := none }, accessFlags := 0, code := some k2c0 }
def k2c1 : Code := { maxStack := 5, maxLocals := 5, code := prog_44_method_2_code, exceptionTable := #[], attributes := #[] }
def k2m1 : Method := { name := "add", desc := "(J)V", sig := { parameters := [.long], returnType := none }, accessFlags := 0, code := some k2c1 }
def k2c2 : Code := { maxStack := 1, maxLocals := 1, code := prog_44_method_3_code, exceptionTable := #[], attributes := #[] }
def k2m2 : Method := { name := "overflowed", desc := "()Z", sig := { parameters := [], returnType := some .boolean }, accessFlags := 0, code := some k2c2 }
def k2c3 : Code := { maxStack := 4, maxLocals := 8, code := prog_44_method_4_code, exceptionTable := #[], attributes := #[] }
def k2m3 : Method := { name := "sortedBelow", desc := "(J)[J", sig := { parameters := [.long], returnType := some (.array .long) }, accessFlags := 0, code := some k2c3 }
def k2c4 : Code := { maxStack := 4, maxLocals := 2, code := prog_44_method_5_code, exceptionTable := #[], attributes := #[] }
def k2m4 : Method := { name := "clear", desc := "()V", sig := { parameters := [], returnType := none }, accessFlags := 0, code := some k2c4 }
/-- com/example/clearingd/clearingd/store/PositionSet -/
def k2 : Class := { plain "com/example/clearingd/clearingd/store/PositionSet" (some 0) with
  accessFlags := 32
  interfaces := #[]
  cf := some (fileOf pool2 14 #[] #[{ accessFlags := 0, nameIndex := 5, descriptorIndex := 71, attributes := #[] }, { accessFlags := 0, nameIndex := 74, descriptorIndex := 75, attributes := #[] }, { accessFlags := 0, nameIndex := 52, descriptorIndex := 77, attributes := #[] }, { accessFlags := 0, nameIndex := 78, descriptorIndex := 79, attributes := #[] }, { accessFlags := 0, nameIndex := 81, descriptorIndex := 6, attributes := #[] }] 32 2 #[] #[{ accessFlags := 26, nameIndex := 68, descriptorIndex := 69, attributes := #[] }, { accessFlags := 18, nameIndex := 27, descriptorIndex := 28, attributes := #[] }, { accessFlags := 18, nameIndex := 31, descriptorIndex := 32, attributes := #[] }, { accessFlags := 18, nameIndex := 17, descriptorIndex := 18, attributes := #[] }, { accessFlags := 2, nameIndex := 49, descriptorIndex := 18, attributes := #[] }, { accessFlags := 2, nameIndex := 52, descriptorIndex := 53, attributes := #[] }])
  fields := #[{ name := "EMPTY", type := .long, accessFlags := 26, slot := 0, constantValue := 0 }, { name := "slots", type := (.array .long), accessFlags := 18, slot := 0, constantValue := 0 }, { name := "taken", type := (.array .int), accessFlags := 18, slot := 1, constantValue := 0 }, { name := "capacity", type := .int, accessFlags := 18, slot := 2, constantValue := 0 }, { name := "size", type := .int, accessFlags := 2, slot := 3, constantValue := 0 }, { name := "overflowed", type := .boolean, accessFlags := 2, slot := 4, constantValue := 0 }]
  methods := #[k2m0, k2m1, k2m2, k2m3, k2m4]
  instanceTypes := #[(.array .long), (.array .int), .int, .int, .boolean]
  staticTypes := #[.long]
  resolved := Array.replicate 86 none
  statics := none }

def pool3 : Array CpInfo := pool [(1, .class_ 2), (0, u "java/lang/Math"), (1, .class_ 6), (1, u "java/lang/Object"), (0, u "<init>"), (0, u "()V"), (89, .class_ 100), (1, u "java/lang/Math$RandomNumberGeneratorHolder"), (20, u "(JJ)J"), (50, u "negativeZeroFloatBits"), (0, u "J"), (2, u "negativeZeroDoubleBits"), (21, u "max"), (2, u "min"), (43, u "$assertionsDisabled"), (0, u "Z"), (88, u "(II)I"), (2, u "twoToTheDoubleScaleDown"), (0, u "D"), (4, u "twoToTheDoubleScaleUp"), (9, u "E"), (3, u "PI"), (2, u "TAU"), (2, u "DEGREES_TO_RADIANS"), (0, u "RADIANS_TO_DEGREES")] 94

def k3m0 : Method := { name := "<init>", desc := "()V", sig := { parameters := [], returnType := none }, accessFlags := 2, code := none }
def k3c1 : Code := { maxStack := 2, maxLocals := 2, code := jdk_29_method_65_code, exceptionTable := #[], attributes := #[] }
def k3m1 : Method := { name := "max", desc := "(II)I", sig := { parameters := [.int, .int], returnType := some .int }, accessFlags := 9, code := some k3c1 }
def k3c2 : Code := { maxStack := 4, maxLocals := 4, code := jdk_29_method_66_code, exceptionTable := #[], attributes := #[] }
def k3m2 : Method := { name := "max", desc := "(JJ)J", sig := { parameters := [.long, .long], returnType := some .long }, accessFlags := 9, code := some k3c2 }
def k3c3 : Code := { maxStack := 4, maxLocals := 4, code := jdk_29_method_70_code, exceptionTable := #[], attributes := #[] }
def k3m3 : Method := { name := "min", desc := "(JJ)J", sig := { parameters := [.long, .long], returnType := some .long }, accessFlags := 9, code := some k3c3 }
/-- java/lang/Math -/
def k3 : Class := { plain "java/lang/Math" (some 0) with
  accessFlags := 49
  interfaces := #[]
  cf := some (fileOf pool3 1 #[.nestMembers #[98]] #[{ accessFlags := 2, nameIndex := 7, descriptorIndex := 8, attributes := #[] }, { accessFlags := 9, nameIndex := 198, descriptorIndex := 335, attributes := #[] }, { accessFlags := 9, nameIndex := 198, descriptorIndex := 121, attributes := #[] }, { accessFlags := 9, nameIndex := 201, descriptorIndex := 121, attributes := #[] }] 49 4 #[] #[{ accessFlags := 25, nameIndex := 354, descriptorIndex := 339, attributes := #[] }, { accessFlags := 25, nameIndex := 358, descriptorIndex := 339, attributes := #[] }, { accessFlags := 25, nameIndex := 361, descriptorIndex := 339, attributes := #[] }, { accessFlags := 26, nameIndex := 364, descriptorIndex := 339, attributes := #[] }, { accessFlags := 26, nameIndex := 365, descriptorIndex := 339, attributes := #[] }, { accessFlags := 26, nameIndex := 172, descriptorIndex := 173, attributes := #[] }, { accessFlags := 26, nameIndex := 176, descriptorIndex := 173, attributes := #[] }, { accessFlags := 8, nameIndex := 344, descriptorIndex := 339, attributes := #[] }, { accessFlags := 8, nameIndex := 338, descriptorIndex := 339, attributes := #[] }, { accessFlags := 4120, nameIndex := 245, descriptorIndex := 246, attributes := #[] }])
  fields := #[{ name := "E", type := .double, accessFlags := 25, slot := 0, constantValue := 0 }, { name := "PI", type := .double, accessFlags := 25, slot := 1, constantValue := 0 }, { name := "TAU", type := .double, accessFlags := 25, slot := 2, constantValue := 0 }, { name := "DEGREES_TO_RADIANS", type := .double, accessFlags := 26, slot := 3, constantValue := 0 }, { name := "RADIANS_TO_DEGREES", type := .double, accessFlags := 26, slot := 4, constantValue := 0 }, { name := "negativeZeroFloatBits", type := .long, accessFlags := 26, slot := 5, constantValue := 0 }, { name := "negativeZeroDoubleBits", type := .long, accessFlags := 26, slot := 6, constantValue := 0 }, { name := "twoToTheDoubleScaleUp", type := .double, accessFlags := 8, slot := 7, constantValue := 0 }, { name := "twoToTheDoubleScaleDown", type := .double, accessFlags := 8, slot := 8, constantValue := 0 }, { name := "$assertionsDisabled", type := .boolean, accessFlags := 4120, slot := 9, constantValue := 0 }]
  methods := #[k3m0, k3m1, k3m2, k3m3]
  instanceTypes := #[]
  staticTypes := #[.double, .double, .double, .double, .double, .long, .long, .double, .double, .boolean]
  resolved := Array.replicate 460 none
  statics := none }

def pool4 : Array CpInfo := pool [(1, .class_ 2), (0, u "java/io/Serializable"), (0, .class_ 4), (0, u "java/lang/Object")] 2

/-- java/io/Serializable -/
def k4 : Class := { plain "java/io/Serializable" (some 0) with
  accessFlags := 1537
  interfaces := #[]
  cf := some (fileOf pool4 1 #[] #[] 1537 3 #[] #[])
  fields := #[]
  methods := #[]
  instanceTypes := #[]
  staticTypes := #[]
  resolved := Array.replicate 7 none
  statics := none }

def pool5 : Array CpInfo := pool [(2, .class_ 4), (1, u "java/lang/Object"), (0, u "<init>"), (0, u "()V"), (1, .class_ 10), (1, u "java/lang/Number"), (2, .class_ 14), (0, u "java/io/Serializable"), (0, u "serialVersionUID"), (0, u "J")] 20

def k5m0 : Method := { name := "<init>", desc := "()V", sig := { parameters := [], returnType := none }, accessFlags := 1, code := none }
/-- java/lang/Number -/
def k5 : Class := { plain "java/lang/Number" (some 0) with
  accessFlags := 1057
  interfaces := #[4]
  cf := some (fileOf pool5 8 #[] #[{ accessFlags := 1, nameIndex := 5, descriptorIndex := 6, attributes := #[] }] 1057 2 #[13] #[{ accessFlags := 26, nameIndex := 15, descriptorIndex := 16, attributes := #[] }])
  fields := #[{ name := "serialVersionUID", type := .long, accessFlags := 26, slot := 0, constantValue := 0 }]
  methods := #[k5m0]
  instanceTypes := #[]
  staticTypes := #[.long]
  resolved := Array.replicate 37 none
  statics := none }

def pool6 : Array CpInfo := pool [(1, .class_ 2), (0, u "java/lang/Comparable"), (0, .class_ 4), (0, u "java/lang/Object")] 7

/-- java/lang/Comparable -/
def k6 : Class := { plain "java/lang/Comparable" (some 0) with
  accessFlags := 1537
  interfaces := #[]
  cf := some (fileOf pool6 1 #[] #[] 1537 3 #[] #[])
  fields := #[]
  methods := #[]
  instanceTypes := #[]
  staticTypes := #[]
  resolved := Array.replicate 12 none
  statics := none }

def pool7 : Array CpInfo := pool [(1, .class_ 2), (0, u "java/lang/constant/Constable"), (0, .class_ 4), (0, u "java/lang/Object")] 6

/-- java/lang/constant/Constable -/
def k7 : Class := { plain "java/lang/constant/Constable" (some 0) with
  accessFlags := 1537
  interfaces := #[]
  cf := some (fileOf pool7 1 #[] #[] 1537 3 #[] #[])
  fields := #[]
  methods := #[]
  instanceTypes := #[]
  staticTypes := #[]
  resolved := Array.replicate 11 none
  statics := none }

def pool8 : Array CpInfo := pool [(1, .class_ 2), (0, u "java/lang/constant/ConstantDesc"), (0, .class_ 4), (0, u "java/lang/Object")] 32

/-- java/lang/constant/ConstantDesc -/
def k8 : Class := { plain "java/lang/constant/ConstantDesc" (some 0) with
  accessFlags := 1537
  interfaces := #[]
  cf := some (fileOf pool8 1 #[] #[] 1537 3 #[] #[])
  fields := #[]
  methods := #[]
  instanceTypes := #[]
  staticTypes := #[]
  resolved := Array.replicate 37 none
  statics := none }

def pool9 : Array CpInfo := pool [(1, .class_ 2), (0, u "java/lang/Integer"), (16, u "digits"), (0, u "[C"), (30, .methodref 1 52), (0, .nameAndType 53 54), (0, u "numberOfLeadingZeros"), (0, u "(I)I"), (30, u "DigitOnes"), (0, u "[B"), (2, u "DigitTens"), (37, .integer 2147483648), (61, .class_ 190), (0, u "java/lang/Integer$IntegerCache"), (3, u "I"), (8, .class_ 204), (0, u "java/lang/Number"), (2, u "value"), (56, .integer 65536), (37, u "TYPE"), (0, u "Ljava/lang/Class;"), (0, .class_ 305), (0, u "java/lang/Comparable"), (0, .class_ 307), (0, u "java/lang/constant/Constable"), (0, .class_ 309), (0, u "java/lang/constant/ConstantDesc"), (0, u "MIN_VALUE"), (1, u "MAX_VALUE"), (3, u "SIZE"), (1, u "BYTES"), (1, u "serialVersionUID"), (0, u "J"), (81, u "highestOneBit")] 49

def k9c0 : Code := { maxStack := 3, maxLocals := 1, code := jdk_33_method_45_code, exceptionTable := #[], attributes := #[] }
def k9m0 : Method := { name := "highestOneBit", desc := "(I)I", sig := { parameters := [.int], returnType := some .int }, accessFlags := 9, code := some k9c0 }
def k9c1 : Code := { maxStack := 3, maxLocals := 2, code := jdk_33_method_47_code, exceptionTable := #[], attributes := #[] }
def k9m1 : Method := { name := "numberOfLeadingZeros", desc := "(I)I", sig := { parameters := [.int], returnType := some .int }, accessFlags := 9, code := some k9c1 }
/-- java/lang/Integer -/
def k9 : Class := { plain "java/lang/Integer" (some 5) with
  accessFlags := 49
  interfaces := #[6, 7, 8]
  cf := some (fileOf pool9 1 #[.nestMembers #[189]] #[{ accessFlags := 9, nameIndex := 403, descriptorIndex := 54, attributes := #[] }, { accessFlags := 9, nameIndex := 53, descriptorIndex := 54, attributes := #[] }] 49 203 #[304, 306, 308] #[{ accessFlags := 25, nameIndex := 310, descriptorIndex := 194, attributes := #[] }, { accessFlags := 25, nameIndex := 312, descriptorIndex := 194, attributes := #[] }, { accessFlags := 25, nameIndex := 302, descriptorIndex := 303, attributes := #[] }, { accessFlags := 24, nameIndex := 19, descriptorIndex := 20, attributes := #[] }, { accessFlags := 24, nameIndex := 89, descriptorIndex := 86, attributes := #[] }, { accessFlags := 24, nameIndex := 85, descriptorIndex := 86, attributes := #[] }, { accessFlags := 18, nameIndex := 207, descriptorIndex := 194, attributes := #[] }, { accessFlags := 25, nameIndex := 316, descriptorIndex := 194, attributes := #[] }, { accessFlags := 25, nameIndex := 318, descriptorIndex := 194, attributes := #[] }, { accessFlags := 26, nameIndex := 320, descriptorIndex := 321, attributes := #[] }])
  fields := #[{ name := "MIN_VALUE", type := .int, accessFlags := 25, slot := 0, constantValue := 0 }, { name := "MAX_VALUE", type := .int, accessFlags := 25, slot := 1, constantValue := 0 }, { name := "TYPE", type := (.object "java/lang/Class"), accessFlags := 25, slot := 2, constantValue := 0 }, { name := "digits", type := (.array .char), accessFlags := 24, slot := 3, constantValue := 0 }, { name := "DigitTens", type := (.array .byte), accessFlags := 24, slot := 4, constantValue := 0 }, { name := "DigitOnes", type := (.array .byte), accessFlags := 24, slot := 5, constantValue := 0 }, { name := "value", type := .int, accessFlags := 18, slot := 0, constantValue := 0 }, { name := "SIZE", type := .int, accessFlags := 25, slot := 6, constantValue := 0 }, { name := "BYTES", type := .int, accessFlags := 25, slot := 7, constantValue := 0 }, { name := "serialVersionUID", type := .long, accessFlags := 26, slot := 8, constantValue := 0 }]
  methods := #[k9m0, k9m1]
  instanceTypes := #[.int]
  staticTypes := #[.int, .int, (.object "java/lang/Class"), (.array .char), (.array .byte), (.array .byte), .int, .int, .long]
  resolved := Array.replicate 453 none
  statics := none }

def pool10 : Array CpInfo := pool [(2, .class_ 4), (1, u "java/lang/Object"), (0, u "<init>"), (0, u "()V"), (1, .class_ 10), (1, u "java/util/DualPivotQuicksort"), (0, u "sort"), (2, .class_ 16), (1, u "java/util/Arrays"), (2, .methodref 8 20), (0, .nameAndType 11 21), (0, u "([JIII)V"), (52, .class_ 76), (1, u "java/util/Arrays$NaturalOrder"), (36, .class_ 115), (1, u "java/util/Arrays$LegacyMergeSort"), (1, u "Z"), (257, .class_ 376), (0, u "java/util/Arrays$ArrayList"), (68, u "$assertionsDisabled"), (269, u "MIN_ARRAY_SORT_GRAN"), (0, u "I"), (2, u "INSERTIONSORT_THRESHOLD"), (11, u "([J)V"), (108, u "fill"), (0, u "([JJ)V"), (133, .class_ 976), (0, u "java/util/Arrays$ArrayItr")] 52

def k10m0 : Method := { name := "<init>", desc := "()V", sig := { parameters := [], returnType := none }, accessFlags := 2, code := none }
def k10c1 : Code := { maxStack := 4, maxLocals := 1, code := jdk_65_method_4_code, exceptionTable := #[], attributes := #[] }
def k10m1 : Method := { name := "sort", desc := "([J)V", sig := { parameters := [(.array .long)], returnType := none }, accessFlags := 9, code := some k10c1 }
def k10c2 : Code := { maxStack := 4, maxLocals := 5, code := jdk_65_method_101_code, exceptionTable := #[], attributes := #[] }
def k10m2 : Method := { name := "fill", desc := "([JJ)V", sig := { parameters := [(.array .long), .long], returnType := none }, accessFlags := 9, code := some k10c2 }
/-- java/util/Arrays -/
def k10 : Class := { plain "java/util/Arrays" (some 0) with
  accessFlags := 49
  interfaces := #[]
  cf := some (fileOf pool10 14 #[.nestMembers #[975, 375, 113, 74]] #[{ accessFlags := 2, nameIndex := 5, descriptorIndex := 6, attributes := #[] }, { accessFlags := 9, nameIndex := 11, descriptorIndex := 731, attributes := #[] }, { accessFlags := 9, nameIndex := 840, descriptorIndex := 841, attributes := #[] }] 49 2 #[] #[{ accessFlags := 26, nameIndex := 715, descriptorIndex := 716, attributes := #[] }, { accessFlags := 26, nameIndex := 719, descriptorIndex := 716, attributes := #[] }, { accessFlags := 4120, nameIndex := 445, descriptorIndex := 117, attributes := #[] }])
  fields := #[{ name := "MIN_ARRAY_SORT_GRAN", type := .int, accessFlags := 26, slot := 0, constantValue := 0 }, { name := "INSERTIONSORT_THRESHOLD", type := .int, accessFlags := 26, slot := 1, constantValue := 0 }, { name := "$assertionsDisabled", type := .boolean, accessFlags := 4120, slot := 2, constantValue := 0 }]
  methods := #[k10m0, k10m1, k10m2]
  instanceTypes := #[]
  staticTypes := #[.int, .int, .boolean]
  resolved := Array.replicate 1029 none
  statics := none }

def pool11 : Array CpInfo := pool [(1, .class_ 2), (0, u "java/util/DualPivotQuicksort"), (5, .class_ 10), (1, u "java/lang/Object"), (0, u "<init>"), (0, u "()V"), (4, .class_ 18), (0, u "java/util/DualPivotQuicksort$Sorter"), (9, u "sort"), (7, u "insertionSort"), (31, u "I"), (4, .class_ 74), (0, u "java/util/DualPivotQuicksort$RunMerger"), (10, .class_ 86), (0, u "java/util/DualPivotQuicksort$Merger"), (12, .methodref 1 100), (0, .nameAndType 28 101), (0, u "(Ljava/util/DualPivotQuicksort$Sorter;[JIII)V"), (2, u "([JIII)V"), (0, .methodref 1 106), (0, .nameAndType 36 107), (0, u "([JII)V"), (106, u "MAX_MIXED_INSERTION_SORT_SIZE"), (2, u "MAX_INSERTION_SORT_SIZE"), (1, u "MIN_PARALLEL_SORT_SIZE"), (1, u "MIN_TRY_MERGE_SIZE"), (0, u "MIN_FIRST_RUN_SIZE"), (1, u "MIN_FIRST_RUNS_FACTOR"), (1, u "MAX_RUN_CAPACITY"), (1, u "MIN_RUN_COUNT"), (1, u "MIN_PARALLEL_MERGE_PARTS_SIZE"), (0, u "MIN_BYTE_COUNTING_SORT_SIZE"), (1, u "MIN_SHORT_OR_CHAR_COUNTING_SORT_SIZE"), (1, u "DELTA"), (1, u "MAX_RECURSION_DEPTH"), (1, u "NUM_BYTE_VALUES"), (1, u "MAX_BYTE_INDEX"), (0, u "NUM_CHAR_VALUES"), (0, u "NUM_SHORT_VALUES"), (0, u "MAX_SHORT_INDEX")] 86

def k11m0 : Method := { name := "<init>", desc := "()V", sig := { parameters := [], returnType := none }, accessFlags := 2, code := none }
def k11c1 : Code := { maxStack := 9, maxLocals := 7, code := jdk_2529_method_12_code, exceptionTable := #[], attributes := #[] }
def k11m1 : Method := { name := "sort", desc := "([JIII)V", sig := { parameters := [(.array .long), .int, .int, .int], returnType := none }, accessFlags := 8, code := some k11c1 }
def k11c2 : Code := { maxStack := 6, maxLocals := 25, code := jdk_2529_method_13_code, exceptionTable := #[], attributes := #[] }
def k11m2 : Method := { name := "sort", desc := "(Ljava/util/DualPivotQuicksort$Sorter;[JIII)V", sig := { parameters := [(.object "java/util/DualPivotQuicksort$Sorter"), (.array .long), .int, .int, .int], returnType := none }, accessFlags := 8, code := some k11c2 }
def k11c3 : Code := { maxStack := 5, maxLocals := 7, code := jdk_2529_method_15_code, exceptionTable := #[], attributes := #[] }
def k11m3 : Method := { name := "insertionSort", desc := "([JII)V", sig := { parameters := [(.array .long), .int, .int], returnType := none }, accessFlags := 10, code := some k11c3 }
/-- java/util/DualPivotQuicksort -/
def k11 : Class := { plain "java/util/DualPivotQuicksort" (some 0) with
  accessFlags := 48
  interfaces := #[]
  cf := some (fileOf pool11 1 #[.nestMembers #[73, 85, 17]] #[{ accessFlags := 2, nameIndex := 11, descriptorIndex := 12, attributes := #[] }, { accessFlags := 8, nameIndex := 28, descriptorIndex := 104, attributes := #[] }, { accessFlags := 8, nameIndex := 28, descriptorIndex := 101, attributes := #[] }, { accessFlags := 10, nameIndex := 36, descriptorIndex := 107, attributes := #[] }] 48 8 #[] #[{ accessFlags := 26, nameIndex := 214, descriptorIndex := 68, attributes := #[] }, { accessFlags := 26, nameIndex := 217, descriptorIndex := 68, attributes := #[] }, { accessFlags := 26, nameIndex := 219, descriptorIndex := 68, attributes := #[] }, { accessFlags := 26, nameIndex := 221, descriptorIndex := 68, attributes := #[] }, { accessFlags := 26, nameIndex := 222, descriptorIndex := 68, attributes := #[] }, { accessFlags := 26, nameIndex := 224, descriptorIndex := 68, attributes := #[] }, { accessFlags := 26, nameIndex := 226, descriptorIndex := 68, attributes := #[] }, { accessFlags := 26, nameIndex := 228, descriptorIndex := 68, attributes := #[] }, { accessFlags := 26, nameIndex := 230, descriptorIndex := 68, attributes := #[] }, { accessFlags := 26, nameIndex := 231, descriptorIndex := 68, attributes := #[] }, { accessFlags := 26, nameIndex := 233, descriptorIndex := 68, attributes := #[] }, { accessFlags := 26, nameIndex := 235, descriptorIndex := 68, attributes := #[] }, { accessFlags := 26, nameIndex := 237, descriptorIndex := 68, attributes := #[] }, { accessFlags := 26, nameIndex := 239, descriptorIndex := 68, attributes := #[] }, { accessFlags := 26, nameIndex := 241, descriptorIndex := 68, attributes := #[] }, { accessFlags := 26, nameIndex := 242, descriptorIndex := 68, attributes := #[] }, { accessFlags := 26, nameIndex := 243, descriptorIndex := 68, attributes := #[] }, { accessFlags := 26, nameIndex := 244, descriptorIndex := 68, attributes := #[] }])
  fields := #[{ name := "MAX_MIXED_INSERTION_SORT_SIZE", type := .int, accessFlags := 26, slot := 0, constantValue := 0 }, { name := "MAX_INSERTION_SORT_SIZE", type := .int, accessFlags := 26, slot := 1, constantValue := 0 }, { name := "MIN_PARALLEL_SORT_SIZE", type := .int, accessFlags := 26, slot := 2, constantValue := 0 }, { name := "MIN_TRY_MERGE_SIZE", type := .int, accessFlags := 26, slot := 3, constantValue := 0 }, { name := "MIN_FIRST_RUN_SIZE", type := .int, accessFlags := 26, slot := 4, constantValue := 0 }, { name := "MIN_FIRST_RUNS_FACTOR", type := .int, accessFlags := 26, slot := 5, constantValue := 0 }, { name := "MAX_RUN_CAPACITY", type := .int, accessFlags := 26, slot := 6, constantValue := 0 }, { name := "MIN_RUN_COUNT", type := .int, accessFlags := 26, slot := 7, constantValue := 0 }, { name := "MIN_PARALLEL_MERGE_PARTS_SIZE", type := .int, accessFlags := 26, slot := 8, constantValue := 0 }, { name := "MIN_BYTE_COUNTING_SORT_SIZE", type := .int, accessFlags := 26, slot := 9, constantValue := 0 }, { name := "MIN_SHORT_OR_CHAR_COUNTING_SORT_SIZE", type := .int, accessFlags := 26, slot := 10, constantValue := 0 }, { name := "DELTA", type := .int, accessFlags := 26, slot := 11, constantValue := 0 }, { name := "MAX_RECURSION_DEPTH", type := .int, accessFlags := 26, slot := 12, constantValue := 0 }, { name := "NUM_BYTE_VALUES", type := .int, accessFlags := 26, slot := 13, constantValue := 0 }, { name := "MAX_BYTE_INDEX", type := .int, accessFlags := 26, slot := 14, constantValue := 0 }, { name := "NUM_CHAR_VALUES", type := .int, accessFlags := 26, slot := 15, constantValue := 0 }, { name := "NUM_SHORT_VALUES", type := .int, accessFlags := 26, slot := 16, constantValue := 0 }, { name := "MAX_SHORT_INDEX", type := .int, accessFlags := 26, slot := 17, constantValue := 0 }]
  methods := #[k11m0, k11m1, k11m2, k11m3]
  instanceTypes := #[]
  staticTypes := #[.int, .int, .int, .int, .int, .int, .int, .int, .int, .int, .int, .int, .int, .int, .int, .int, .int, .int]
  resolved := Array.replicate 331 none
  statics := none }

def pool12 : Array CpInfo := pool [(4, .class_ 6), (1, u "java/lang/Object"), (0, u "<init>"), (0, u "()V"), (10, .long 11400714819323198485), (1, .long 18397679294719823053), (1, .long 14181476777654086739), (1, .class_ 26), (0, u "com/example/clearingd/clearingd/store/Entries"), (0, u "BYTES"), (0, u "I"), (6, u "hash"), (0, u "(JJ)J")] 2

def k12m0 : Method := { name := "<init>", desc := "()V", sig := { parameters := [], returnType := none }, accessFlags := 2, code := none }
def k12c1 : Code := { maxStack := 5, maxLocals := 6, code := prog_40_method_3_code, exceptionTable := #[], attributes := #[] }
def k12m1 : Method := { name := "hash", desc := "(JJ)J", sig := { parameters := [.long, .long], returnType := some .long }, accessFlags := 8, code := some k12c1 }
/-- com/example/clearingd/clearingd/store/Entries -/
def k12 : Class := { plain "com/example/clearingd/clearingd/store/Entries" (some 0) with
  accessFlags := 32
  interfaces := #[]
  cf := some (fileOf pool12 25 #[] #[{ accessFlags := 2, nameIndex := 7, descriptorIndex := 8, attributes := #[] }, { accessFlags := 8, nameIndex := 35, descriptorIndex := 36, attributes := #[] }] 32 4 #[] #[{ accessFlags := 24, nameIndex := 27, descriptorIndex := 28, attributes := #[] }])
  fields := #[{ name := "BYTES", type := .int, accessFlags := 24, slot := 0, constantValue := 0 }]
  methods := #[k12m0, k12m1]
  instanceTypes := #[]
  staticTypes := #[.int]
  resolved := Array.replicate 39 none
  statics := none }

def pool13 : Array CpInfo := pool [(1, u "java/lang/Cloneable"), (0, .class_ 1), (0, u "java/lang/Object"), (0, .class_ 3)] 3

/-- java/lang/Cloneable -/
def k13 : Class := { plain "java/lang/Cloneable" (some 0) with
  accessFlags := 1537
  interfaces := #[]
  cf := some (fileOf pool13 2 #[] #[] 1537 4 #[] #[])
  fields := #[]
  methods := #[]
  instanceTypes := #[]
  staticTypes := #[]
  resolved := Array.replicate 8 none
  statics := none }

/-- the primitive byte -/
def k14 : Class := { plain "byte" none with kind := .primitive 'B', accessFlags := 0x411 }
/-- [B -/
def k15 : Class := { plain "[B" (some 0) with kind := .array 14 .byte, interfaces := #[13, 4], accessFlags := 1041 }

/-- the primitive int -/
def k16 : Class := { plain "int" none with kind := .primitive 'I', accessFlags := 0x411 }
/-- [I -/
def k17 : Class := { plain "[I" (some 0) with kind := .array 16 .int, interfaces := #[13, 4], accessFlags := 1041 }

/-- the primitive long -/
def k18 : Class := { plain "long" none with kind := .primitive 'J', accessFlags := 0x411 }
/-- [J -/
def k19 : Class := { plain "[J" (some 0) with kind := .array 18 .long, interfaces := #[13, 4], accessFlags := 1041 }

def heap : Heap := #[]
def classes : Array Class := #[k0, k1, k2, k3, k4, k5, k6, k7, k8, k9, k10, k11, k12, k13, k14, k15, k16, k17, k18, k19]
def interned : List (Array UInt16 × Addr) := []
def slotsUsed : Nat := 0
def theMethod : MethodId := ⟨1, 2⟩
def args0 : Array Value := #[.int 5, .long 5, .long 6, .long 7, .long 8]
def aboutOver (below : List Frame) : State where
  vm := { classes := classes, interned := interned.toArray }
  heap := heap
  slotsUsed := slotsUsed
  threads := #[{ frames := .invoking theMethod args0 :: below }]
def below0 : List Frame := [.native { method := ⟨0, 0⟩, args := #[] }]
def about1 : State := aboutOver below0
def p0 : Program := .bare "" "" ""
def e0 : Env := launch0.env 0 0 0
theorem w_frames : about1.frames = Frame.invoking theMethod args0 :: below0 := rfl
set_option maxRecDepth 65536 in
theorem w_args : argsFit about1.vm theMethod args0 = true := by decide +kernel
set_option maxRecDepth 65536 in
theorem w_heap : heapFits about1 = true := by decide +kernel
set_option maxRecDepth 65536 in
theorem w_runnable : about1.curStatus? = some .runnable := by decide +kernel
set_option maxRecDepth 65536 in
theorem w_alone : about1.alone = true := by decide +kernel
set_option maxRecDepth 65536 in
theorem w_named : about1.methodNamed? x = some theMethod := by decide +kernel
set_option maxRecDepth 65536 in
theorem w_hears : about1.hears theMethod below0 = true := by decide +kernel
set_option maxRecDepth 65536 in
theorem w_ripe : about1.ripe theMethod args0 below0 = true := by decide +kernel
theorem w_running : about1.status = .running := rfl
set_option maxRecDepth 65536 in
theorem w_room : about1.hasRoom e0.platform room_1 = true :=
  launch0.hasRoom_least _ room_1 (by decide +kernel) (by decide +kernel) (by decide +kernel) (by decide +kernel) (by decide +kernel) (by decide +kernel)
theorem allAtoms_all (ts : List Jvm.Cond) (a : Array Jvm.Value) (st : Jvm.State) : (allAtoms ts).before a st = ts.all (fun c => c.before a st) := by
  induction ts with
  | nil => rfl
  | cons c t ih =>
    show (Jvm.Cond.and c (allAtoms t)).before a st = _
    rw [Jvm.Cond.before_and, ih, List.all_cons]
def words1 : List Jvm.Cond := Jvm.Cond.code x code maxLocals ret :: tables_1
/-- a 'code' word, met by the world's own term for the bytes: nothing is compared byte by byte -/
theorem code_word {y : MethodName} {bytes : ByteArray} {mx : Nat} {rt : Option FieldType} {a : Array Value} {s : State} {m : MethodId} {meth : Method} {c : Code} (h1 : s.methodNamed? y = some m) (h2 : s.vm.method? m = some meth) (h3 : meth.code = some c) (h4 : c.code = bytes)
    (h5 : (c.maxLocals == mx && c.exceptionTable.isEmpty && decide (c.maxStack ≤ mostOperands) && decide (meth.sig.returnType = rt) && !meth.locks && decide (parseMethodDescriptor y.desc = some meth.sig)) = true) : (Jvm.Cond.code y bytes mx rt).before a s = true := by
  simp only [Bool.and_eq_true, beq_iff_eq, Bool.not_eq_true', decide_eq_true_eq] at h5
  obtain ⟨⟨⟨⟨⟨g1, g2⟩, g3⟩, g4⟩, g5⟩, g6⟩ := h5
  simp [Cond.before, Cond.holds, Cond.value, h1, h2, h3, h4, g1, g2, g3, g4, g5, g6]
def isCode : Jvm.Cond → Bool
  | .code _ _ _ _ => true
  | _ => false
theorem all_split {L : List Jvm.Cond} {P : Jvm.Cond → Bool} (h1 : L.all (fun c => isCode c || P c) = true) (h2 : ∀ c ∈ L.filter isCode, P c = true) : L.all P = true := by
  refine List.all_eq_true.mpr fun c hc => ?_
  have h := List.all_eq_true.mp h1 c hc
  rcases Bool.eq_false_or_eq_true (isCode c) with hi | hi
  · exact h2 c (List.mem_filter.mpr ⟨hc, hi⟩)
  · simpa [hi] using h
set_option maxRecDepth 65536 in
theorem w_c0 : (Jvm.Cond.code x code maxLocals ret).before args0 about1 = true := code_word (m := ⟨1, 2⟩) (meth := k1m2) (c := k1c2) (by decide +kernel) rfl rfl rfl (by decide +kernel)
set_option maxRecDepth 65536 in
theorem w_c1 : (Jvm.Cond.code ({ cls := "com/example/clearingd/clearingd/store/PositionSetClearPinLaw", name := "pos", desc := "(J)J" } : Jvm.MethodName) method_2_code (2 : Nat) (Option.some Jvm.ClassFile.FieldType.long)).before args0 about1 = true := code_word (m := ⟨1, 1⟩) (meth := k1m1) (c := k1c1) (by decide +kernel) rfl rfl rfl (by decide +kernel)
set_option maxRecDepth 65536 in
theorem w_c2 : (Jvm.Cond.code ({ cls := "com/example/clearingd/clearingd/store/PositionSet", name := "<init>", desc := "(I)V" } : Jvm.MethodName) prog_44_method_1_code (2 : Nat) (Option.none : Option Jvm.ClassFile.FieldType)).before args0 about1 = true := code_word (m := ⟨2, 0⟩) (meth := k2m0) (c := k2c0) (by decide +kernel) rfl rfl rfl (by decide +kernel)
set_option maxRecDepth 65536 in
theorem w_c3 : (Jvm.Cond.code ({ cls := "java/lang/Object", name := "<init>", desc := "()V" } : Jvm.MethodName) object_method_1_code (1 : Nat) (Option.none : Option Jvm.ClassFile.FieldType)).before args0 about1 = true := code_word (m := ⟨0, 0⟩) (meth := k0m0) (c := k0c0) (by decide +kernel) rfl rfl rfl (by decide +kernel)
set_option maxRecDepth 65536 in
theorem w_c4 : (Jvm.Cond.code ({ cls := "java/lang/Math", name := "max", desc := "(II)I" } : Jvm.MethodName) jdk_29_method_65_code (2 : Nat) (Option.some Jvm.ClassFile.FieldType.int)).before args0 about1 = true := code_word (m := ⟨3, 1⟩) (meth := k3m1) (c := k3c1) (by decide +kernel) rfl rfl rfl (by decide +kernel)
set_option maxRecDepth 65536 in
theorem w_c5 : (Jvm.Cond.code ({ cls := "java/lang/Integer", name := "highestOneBit", desc := "(I)I" } : Jvm.MethodName) jdk_33_method_45_code (1 : Nat) (Option.some Jvm.ClassFile.FieldType.int)).before args0 about1 = true := code_word (m := ⟨9, 0⟩) (meth := k9m0) (c := k9c0) (by decide +kernel) rfl rfl rfl (by decide +kernel)
set_option maxRecDepth 65536 in
theorem w_c6 : (Jvm.Cond.code ({ cls := "java/lang/Integer", name := "numberOfLeadingZeros", desc := "(I)I" } : Jvm.MethodName) jdk_33_method_47_code (2 : Nat) (Option.some Jvm.ClassFile.FieldType.int)).before args0 about1 = true := code_word (m := ⟨9, 1⟩) (meth := k9m1) (c := k9c1) (by decide +kernel) rfl rfl rfl (by decide +kernel)
set_option maxRecDepth 65536 in
theorem w_c7 : (Jvm.Cond.code ({ cls := "java/util/Arrays", name := "fill", desc := "([JJ)V" } : Jvm.MethodName) jdk_65_method_101_code (5 : Nat) (Option.none : Option Jvm.ClassFile.FieldType)).before args0 about1 = true := code_word (m := ⟨10, 2⟩) (meth := k10m2) (c := k10c2) (by decide +kernel) rfl rfl rfl (by decide +kernel)
set_option maxRecDepth 65536 in
theorem w_c8 : (Jvm.Cond.code ({ cls := "com/example/clearingd/clearingd/store/PositionSet", name := "clear", desc := "()V" } : Jvm.MethodName) prog_44_method_5_code (2 : Nat) (Option.none : Option Jvm.ClassFile.FieldType)).before args0 about1 = true := code_word (m := ⟨2, 4⟩) (meth := k2m4) (c := k2c4) (by decide +kernel) rfl rfl rfl (by decide +kernel)
set_option maxRecDepth 65536 in
theorem w_c9 : (Jvm.Cond.code ({ cls := "com/example/clearingd/clearingd/store/PositionSet", name := "overflowed", desc := "()Z" } : Jvm.MethodName) prog_44_method_3_code (1 : Nat) (Option.some Jvm.ClassFile.FieldType.boolean)).before args0 about1 = true := code_word (m := ⟨2, 2⟩) (meth := k2m2) (c := k2c2) (by decide +kernel) rfl rfl rfl (by decide +kernel)
set_option maxRecDepth 65536 in
theorem w_c10 : (Jvm.Cond.code ({ cls := "com/example/clearingd/clearingd/store/PositionSet", name := "sortedBelow", desc := "(J)[J" } : Jvm.MethodName) prog_44_method_4_code (8 : Nat) (Option.some (Jvm.ClassFile.FieldType.array Jvm.ClassFile.FieldType.long))).before args0 about1 = true := code_word (m := ⟨2, 3⟩) (meth := k2m3) (c := k2c3) (by decide +kernel) rfl rfl rfl (by decide +kernel)
set_option maxRecDepth 65536 in
theorem w_c11 : (Jvm.Cond.code ({ cls := "java/util/Arrays", name := "sort", desc := "([J)V" } : Jvm.MethodName) jdk_65_method_4_code (1 : Nat) (Option.none : Option Jvm.ClassFile.FieldType)).before args0 about1 = true := code_word (m := ⟨10, 1⟩) (meth := k10m1) (c := k10c1) (by decide +kernel) rfl rfl rfl (by decide +kernel)
set_option maxRecDepth 65536 in
theorem w_c12 : (Jvm.Cond.code ({ cls := "java/util/DualPivotQuicksort", name := "sort", desc := "([JIII)V" } : Jvm.MethodName) jdk_2529_method_12_code (7 : Nat) (Option.none : Option Jvm.ClassFile.FieldType)).before args0 about1 = true := code_word (m := ⟨11, 1⟩) (meth := k11m1) (c := k11c1) (by decide +kernel) rfl rfl rfl (by decide +kernel)
set_option maxRecDepth 65536 in
theorem w_c13 : (Jvm.Cond.code ({ cls := "java/util/DualPivotQuicksort", name := "sort", desc := "(Ljava/util/DualPivotQuicksort$Sorter;[JIII)V" } : Jvm.MethodName) jdk_2529_method_13_code (25 : Nat) (Option.none : Option Jvm.ClassFile.FieldType)).before args0 about1 = true := code_word (m := ⟨11, 2⟩) (meth := k11m2) (c := k11c2) (by decide +kernel) rfl rfl rfl (by decide +kernel)
set_option maxRecDepth 65536 in
theorem w_c14 : (Jvm.Cond.code ({ cls := "java/util/DualPivotQuicksort", name := "insertionSort", desc := "([JII)V" } : Jvm.MethodName) jdk_2529_method_15_code (7 : Nat) (Option.none : Option Jvm.ClassFile.FieldType)).before args0 about1 = true := code_word (m := ⟨11, 3⟩) (meth := k11m3) (c := k11c3) (by decide +kernel) rfl rfl rfl (by decide +kernel)
set_option maxRecDepth 65536 in
theorem w_c15 : (Jvm.Cond.code ({ cls := "com/example/clearingd/clearingd/store/PositionSet", name := "add", desc := "(J)V" } : Jvm.MethodName) prog_44_method_2_code (5 : Nat) (Option.none : Option Jvm.ClassFile.FieldType)).before args0 about1 = true := code_word (m := ⟨2, 1⟩) (meth := k2m1) (c := k2c1) (by decide +kernel) rfl rfl rfl (by decide +kernel)
set_option maxRecDepth 65536 in
theorem w_c16 : (Jvm.Cond.code ({ cls := "com/example/clearingd/clearingd/store/Entries", name := "hash", desc := "(JJ)J" } : Jvm.MethodName) prog_40_method_3_code (6 : Nat) (Option.some Jvm.ClassFile.FieldType.long)).before args0 about1 = true := code_word (m := ⟨12, 1⟩) (meth := k12m1) (c := k12c1) (by decide +kernel) rfl rfl rfl (by decide +kernel)
set_option maxRecDepth 65536 in
theorem w_c17 : (Jvm.Cond.code ({ cls := "java/lang/Math", name := "min", desc := "(JJ)J" } : Jvm.MethodName) jdk_29_method_70_code (4 : Nat) (Option.some Jvm.ClassFile.FieldType.long)).before args0 about1 = true := code_word (m := ⟨3, 3⟩) (meth := k3m3) (c := k3c3) (by decide +kernel) rfl rfl rfl (by decide +kernel)
set_option maxRecDepth 65536 in
theorem w_c18 : (Jvm.Cond.code ({ cls := "java/lang/Math", name := "max", desc := "(JJ)J" } : Jvm.MethodName) jdk_29_method_66_code (4 : Nat) (Option.some Jvm.ClassFile.FieldType.long)).before args0 about1 = true := code_word (m := ⟨3, 2⟩) (meth := k3m2) (c := k3c2) (by decide +kernel) rfl rfl rfl (by decide +kernel)
def codes1 : List Jvm.Cond := [Jvm.Cond.code x code maxLocals ret, Jvm.Cond.code ({ cls := "com/example/clearingd/clearingd/store/PositionSetClearPinLaw", name := "pos", desc := "(J)J" } : Jvm.MethodName) method_2_code (2 : Nat) (Option.some Jvm.ClassFile.FieldType.long), Jvm.Cond.code ({ cls := "com/example/clearingd/clearingd/store/PositionSet", name := "<init>", desc := "(I)V" } : Jvm.MethodName) prog_44_method_1_code (2 : Nat) (Option.none : Option Jvm.ClassFile.FieldType), Jvm.Cond.code ({ cls := "java/lang/Object", name := "<init>", desc := "()V" } : Jvm.MethodName) object_method_1_code (1 : Nat) (Option.none : Option Jvm.ClassFile.FieldType), Jvm.Cond.code ({ cls := "java/lang/Math", name := "max", desc := "(II)I" } : Jvm.MethodName) jdk_29_method_65_code (2 : Nat) (Option.some Jvm.ClassFile.FieldType.int), Jvm.Cond.code ({ cls := "java/lang/Integer", name := "highestOneBit", desc := "(I)I" } : Jvm.MethodName) jdk_33_method_45_code (1 : Nat) (Option.some Jvm.ClassFile.FieldType.int), Jvm.Cond.code ({ cls := "java/lang/Integer", name := "numberOfLeadingZeros", desc := "(I)I" } : Jvm.MethodName) jdk_33_method_47_code (2 : Nat) (Option.some Jvm.ClassFile.FieldType.int), Jvm.Cond.code ({ cls := "java/util/Arrays", name := "fill", desc := "([JJ)V" } : Jvm.MethodName) jdk_65_method_101_code (5 : Nat) (Option.none : Option Jvm.ClassFile.FieldType), Jvm.Cond.code ({ cls := "com/example/clearingd/clearingd/store/PositionSet", name := "clear", desc := "()V" } : Jvm.MethodName) prog_44_method_5_code (2 : Nat) (Option.none : Option Jvm.ClassFile.FieldType), Jvm.Cond.code ({ cls := "com/example/clearingd/clearingd/store/PositionSet", name := "overflowed", desc := "()Z" } : Jvm.MethodName) prog_44_method_3_code (1 : Nat) (Option.some Jvm.ClassFile.FieldType.boolean), Jvm.Cond.code ({ cls := "com/example/clearingd/clearingd/store/PositionSet", name := "sortedBelow", desc := "(J)[J" } : Jvm.MethodName) prog_44_method_4_code (8 : Nat) (Option.some (Jvm.ClassFile.FieldType.array Jvm.ClassFile.FieldType.long)), Jvm.Cond.code ({ cls := "java/util/Arrays", name := "sort", desc := "([J)V" } : Jvm.MethodName) jdk_65_method_4_code (1 : Nat) (Option.none : Option Jvm.ClassFile.FieldType), Jvm.Cond.code ({ cls := "java/util/DualPivotQuicksort", name := "sort", desc := "([JIII)V" } : Jvm.MethodName) jdk_2529_method_12_code (7 : Nat) (Option.none : Option Jvm.ClassFile.FieldType), Jvm.Cond.code ({ cls := "java/util/DualPivotQuicksort", name := "sort", desc := "(Ljava/util/DualPivotQuicksort$Sorter;[JIII)V" } : Jvm.MethodName) jdk_2529_method_13_code (25 : Nat) (Option.none : Option Jvm.ClassFile.FieldType), Jvm.Cond.code ({ cls := "java/util/DualPivotQuicksort", name := "insertionSort", desc := "([JII)V" } : Jvm.MethodName) jdk_2529_method_15_code (7 : Nat) (Option.none : Option Jvm.ClassFile.FieldType), Jvm.Cond.code ({ cls := "com/example/clearingd/clearingd/store/PositionSet", name := "add", desc := "(J)V" } : Jvm.MethodName) prog_44_method_2_code (5 : Nat) (Option.none : Option Jvm.ClassFile.FieldType), Jvm.Cond.code ({ cls := "com/example/clearingd/clearingd/store/Entries", name := "hash", desc := "(JJ)J" } : Jvm.MethodName) prog_40_method_3_code (6 : Nat) (Option.some Jvm.ClassFile.FieldType.long), Jvm.Cond.code ({ cls := "java/lang/Math", name := "min", desc := "(JJ)J" } : Jvm.MethodName) jdk_29_method_70_code (4 : Nat) (Option.some Jvm.ClassFile.FieldType.long), Jvm.Cond.code ({ cls := "java/lang/Math", name := "max", desc := "(JJ)J" } : Jvm.MethodName) jdk_29_method_66_code (4 : Nat) (Option.some Jvm.ClassFile.FieldType.long)]
set_option maxRecDepth 65536 in
theorem codes_eq : words1.filter isCode = codes1 := rfl
theorem w_codes : ∀ c ∈ words1.filter isCode, c.before args0 about1 = true := by
  rw [codes_eq]
  intro c hc
  simp only [codes1, List.mem_cons, List.not_mem_nil, or_false] at hc
  rcases hc with rfl | rfl | rfl | rfl | rfl | rfl | rfl | rfl | rfl | rfl | rfl | rfl | rfl | rfl | rfl | rfl | rfl | rfl | rfl
  · exact w_c0
  · exact w_c1
  · exact w_c2
  · exact w_c3
  · exact w_c4
  · exact w_c5
  · exact w_c6
  · exact w_c7
  · exact w_c8
  · exact w_c9
  · exact w_c10
  · exact w_c11
  · exact w_c12
  · exact w_c13
  · exact w_c14
  · exact w_c15
  · exact w_c16
  · exact w_c17
  · exact w_c18
set_option maxRecDepth 65536 in
theorem w_t1 : (words1.take 24).all (fun c => isCode c || c.before args0 about1) = true := by decide +kernel
set_option maxRecDepth 65536 in
theorem w_t2 : ((words1.drop 24).take 24).all (fun c => isCode c || c.before args0 about1) = true := by decide +kernel
set_option maxRecDepth 65536 in
theorem w_t3 : (((words1.drop 24).drop 24).take 24).all (fun c => isCode c || c.before args0 about1) = true := by decide +kernel
set_option maxRecDepth 65536 in
theorem w_t4 : (((words1.drop 24).drop 24).drop 24).all (fun c => isCode c || c.before args0 about1) = true := by decide +kernel
theorem w_tables : (allAtoms (Jvm.Cond.code x code maxLocals ret :: tables_1)).before args0 about1 = true := by
  rw [allAtoms_all]
  show words1.all (fun c => c.before args0 about1) = true
  refine all_split ?_ w_codes
  rw [← List.take_append_drop 24 words1, List.all_append, w_t1, ← List.take_append_drop 24 (words1.drop 24), List.all_append, w_t2, ← List.take_append_drop 24 ((words1.drop 24).drop 24), List.all_append, w_t3, w_t4]
  rfl
set_option maxRecDepth 65536 in
theorem w_case : (Jvm.Cond.and given_1 narrow_1).before args0 about1 = true := by decide +kernel
theorem w_applies : (headSpec (Jvm.Cond.code x code maxLocals ret :: tables_1) room_1).applies x e0.platform about1 = true :=
  (Spec.applies_iff w_frames).mpr ⟨w_running, w_runnable, w_alone, w_named, w_hears, w_ripe, w_room, w_tables⟩
theorem atStart : AtStart classFile x code maxLocals ret World_1 tables_1 room_1 Calls_1 rest_1 Pre_1 launch0 p0 e0 about1 theMethod args0 below0 :=
  ⟨lists_1, trivial, launch0.admits_env _ _ _, launch0.least_env, fairChoices_fair.cas, fairChoices_fair.clock, w_frames, w_args, w_heap, w_applies, trivial, trivial, w_case⟩
end start1
theorem witness_1 : WitnessClaimed_1 := ⟨start1.p0, start1.e0, start1.about1, start1.theMethod, start1.args0, start1.below0, start1.atStart⟩
end Jvm.Pilot.@@N@@
