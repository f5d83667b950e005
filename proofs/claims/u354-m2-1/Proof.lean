import JvmDerived
import JvmDerived.Pilot.@@N@@Statement
import JvmDerived.Pilot.@@N@@Code
set_option linter.unusedVariables false
set_option linter.unusedSimpArgs false
namespace Jvm.Pilot.@@N@@
open Jvm Jvm.ClassFile Sem Op Lib Jvm.Free Jvm.Stand Jvm.LawKit Jvm.RoadKit Bundle Jvm.Pilot.@@N@@.Jvm.D
section OwnRoad
variable {p : Program} {l : Launch} {e : Env} {R : Room} {s : State} {m : MethodId} {args : Array Value} {below : List Frame} {meth : Method} {c : Code} {T : State} {locs : List Loc} {cells slots : Nat}
/-- from A the run comes to an end of which G speaks -/
def OEnds (tb : Tables) (e : Env) (below : List Frame) (G : Outcome → State → Prop) (A : State) : Prop := ∃ s₂ o, Steps tb e below A s₂ ∧ s₂.status = .running ∧ Ended s₂ below o ∧ G o s₂
theorem OEnds.st {tb : Tables} {e : Env} {below : List Frame} {G : Outcome → State → Prop} {A B : State} (h : ∀ t, Steps tb e below B t → Steps tb e below A t) (k : OEnds tb e below G B) : OEnds tb e below G A := by
  obtain ⟨s, o, h1, h2⟩ := k
  exact ⟨s, o, h _ h1, h2⟩
def OGoal (Q : Option Value → Heap → List Loc → Prop) (s : State) (C S : Nat) (o : Outcome) (t : State) : Prop := ∃ v L, o = .returned v ∧ Q v t.heap L ∧ FrameEnd s o t L C S
theorem OEnds.out (X : Stand p l e R s m args below meth c T locs cells slots) (hlk : meth.locks = false) {v : Option Value} (hv : meth.sig.returnType = none → v = none) {Q : Option Value → Heap → List Loc → Prop} {C S : Nat} {A : State}
    (st : ∀ fs, (∀ (f : JFrame) (acts : List Action), f.method = m → f.locked = none → f.entered = [] → (doReturn e (T.setTop f) acts v).1 = T.setFrames fs) → Steps p.tables e below A (T.setFrames fs)) (hc : cells ≤ C) (hs : slots ≤ S) (hQ : Q v T.heap locs) : OEnds p.tables e below (OGoal Q s C S) A := by
  obtain ⟨fs, hr, hrun, hended, hW, hsame⟩ := X.leave (v := v) hv hlk
  exact ⟨_, _, st fs hr, hrun, hended, _, _, rfl, hQ, ⟨_, rfl⟩, hW, hsame.mono hc hs⟩
theorem OEnds.retI (X : Stand p l e R s m args below meth c T locs cells slots) (hx : p.tables.exec = Jvm.exec) (hlk : meth.locks = false) (hret : meth.sig.returnType = some .int) {pc : Nat} {Ls : Array Slot} {z : Int32} {rest : List Value} (hd : decode c.code pc = .ok (.ireturn, 1)) {Q : Option Value → Heap → List Loc → Prop} {C S : Nat} (hc : cells ≤ C) (hs : slots ≤ S) (hQ : Q (some (.int z)) T.heap locs) :
    OEnds p.tables e below (OGoal Q s C S) (T.setTop (mkF m pc Ls (.int z :: rest))) :=
  OEnds.out X hlk (fun h => by rw [hret] at h; cases h) (fun fs hr => retOut X hx hret rfl (Or.inl ⟨rfl, Or.inl rfl, _, rfl⟩) hd hr) hc hs hQ
theorem OEnds.retZ (X : Stand p l e R s m args below meth c T locs cells slots) (hx : p.tables.exec = Jvm.exec) (hlk : meth.locks = false) (hret : meth.sig.returnType = some .boolean) {pc : Nat} {Ls : Array Slot} {z : Int32} {rest : List Value} (hz : nar .boolean z = z) (hd : decode c.code pc = .ok (.ireturn, 1)) {Q : Option Value → Heap → List Loc → Prop} {C S : Nat} (hc : cells ≤ C) (hs : slots ≤ S) (hQ : Q (some (.int z)) T.heap locs) :
    OEnds p.tables e below (OGoal Q s C S) (T.setTop (mkF m pc Ls (.int z :: rest))) :=
  OEnds.out X hlk (fun h => by rw [hret] at h; cases h) (fun fs hr => retN X hx (t := .boolean) hret (Or.inl rfl) hd (by rw [hz]; exact hr)) hc hs hQ
theorem OEnds.retB (X : Stand p l e R s m args below meth c T locs cells slots) (hx : p.tables.exec = Jvm.exec) (hlk : meth.locks = false) (hret : meth.sig.returnType = some .byte) {pc : Nat} {Ls : Array Slot} {z : Int32} {rest : List Value} (hz : nar .byte z = z) (hd : decode c.code pc = .ok (.ireturn, 1)) {Q : Option Value → Heap → List Loc → Prop} {C S : Nat} (hc : cells ≤ C) (hs : slots ≤ S) (hQ : Q (some (.int z)) T.heap locs) :
    OEnds p.tables e below (OGoal Q s C S) (T.setTop (mkF m pc Ls (.int z :: rest))) :=
  OEnds.out X hlk (fun h => by rw [hret] at h; cases h) (fun fs hr => retN X hx (t := .byte) hret (Or.inr (Or.inl rfl)) hd (by rw [hz]; exact hr)) hc hs hQ
theorem OEnds.retJ (X : Stand p l e R s m args below meth c T locs cells slots) (hx : p.tables.exec = Jvm.exec) (hlk : meth.locks = false) (hret : meth.sig.returnType = some .long) {pc : Nat} {Ls : Array Slot} {z : Int64} {rest : List Value} (hd : decode c.code pc = .ok (.lreturn, 1)) {Q : Option Value → Heap → List Loc → Prop} {C S : Nat} (hc : cells ≤ C) (hs : slots ≤ S) (hQ : Q (some (.long z)) T.heap locs) :
    OEnds p.tables e below (OGoal Q s C S) (T.setTop (mkF m pc Ls (.long z :: rest))) :=
  OEnds.out X hlk (fun h => by rw [hret] at h; cases h) (fun fs hr => retOut X hx hret rfl (Or.inr (Or.inl ⟨rfl, rfl, _, rfl⟩)) hd hr) hc hs hQ
theorem OEnds.retA (X : Stand p l e R s m args below meth c T locs cells slots) (hx : p.tables.exec = Jvm.exec) (hlk : meth.locks = false) {t : FieldType} (hret : meth.sig.returnType = some t) {pc : Nat} {Ls : Array Slot} {w : Value} {rest : List Value} (hw : w.isRef = true) (ht : t.isReference = true) (hd : decode c.code pc = .ok (.areturn, 1)) {Q : Option Value → Heap → List Loc → Prop} {C S : Nat} (hc : cells ≤ C) (hs : slots ≤ S) (hQ : Q (some w) T.heap locs) :
    OEnds p.tables e below (OGoal Q s C S) (T.setTop (mkF m pc Ls (w :: rest))) :=
  OEnds.out X hlk (fun h => by rw [hret] at h; cases h) (fun fs hr => retOut X hx hret (by cases t <;> cases w <;> first | rfl | (cases ht; done) | (cases hw; done)) (Or.inr (Or.inr (Or.inr (Or.inr ⟨rfl, ht, hw⟩)))) hd hr) hc hs hQ
theorem OEnds.retV (X : Stand p l e R s m args below meth c T locs cells slots) (hx : p.tables.exec = Jvm.exec) (hlk : meth.locks = false) (hret : meth.sig.returnType = none) {pc : Nat} {Ls : Array Slot} (hd : decode c.code pc = .ok (.return_, 1)) {Q : Option Value → Heap → List Loc → Prop} {C S : Nat} (hc : cells ≤ C) (hs : slots ≤ S) (hQ : Q none T.heap locs) :
    OEnds p.tables e below (OGoal Q s C S) (T.setTop (mkF m pc Ls [])) :=
  OEnds.out X hlk (fun _ => rfl) (fun fs hr => X.returnOut hx hret hd hr) hc hs hQ
def OGoalW (Q : Option Value → Heap → List Loc → Prop) (s : State) (C S : Nat) (o : Outcome) (t : State) : Prop := ∃ v L, o = .returned v ∧ Q v t.heap L ∧ Jvm.ReturnedEndW s o t L C S
theorem own_growW {s t : State} {o : Outcome} {L : List Loc} {k n k' n' : Nat} (h : Jvm.ReturnedEndW s o t L k n) (hk : k ≤ k') (hn : n ≤ n') : Jvm.ReturnedEndW s o t L k' n' := ⟨h.1, h.2.1, h.2.2.1, h.2.2.2.mono hk hn⟩
theorem OEnds.retZW {vm0 : Vm} (X : Stand p l e R (s.setVm vm0) m args below meth c T locs cells slots) {n : Nat} (hS : s.Since vm0 n) (hn : n ≤ T.heap.size) (hx : p.tables.exec = Jvm.exec) (hlk : meth.locks = false) (hret : meth.sig.returnType = some .boolean) {pc : Nat} {Ls : Array Slot} {z : Int32} {rest : List Value} (hz : nar .boolean z = z) (hd : decode c.code pc = .ok (.ireturn, 1)) {Q : Option Value → Heap → List Loc → Prop} {C S : Nat} (hc : cells ≤ C) (hs : slots ≤ S) (hQ : Q (some (.int z)) T.heap locs) :
    OEnds p.tables e below (OGoalW Q s C S) (T.setTop (mkF m pc Ls (.int z :: rest))) := by
  obtain ⟨fs, hr, hrun, hended, hW⟩ := X.leaveW hS hn (v := some (.int z)) (fun h => by rw [hret] at h; cases h) hlk
  exact ⟨_, _, retN X hx (t := .boolean) hret (Or.inl rfl) hd (by rw [hz]; exact hr), hrun, hended, _, _, rfl, hQ, own_growW hW hc hs⟩
theorem own_b8 (x : Int32) : nar .byte (x.toInt8.toInt32) = x.toInt8.toInt32 := by
  show (x.toInt8.toInt32).toInt8.toInt32 = _
  rw [Int8.toInt8_toInt32]
theorem own_selP {s : State} {args : Array Value} {n : Nat} {y : MethodName} (hins : (Jvm.Cond.instantiable y.cls n).before args s = true) (hpriv : (Jvm.Cond.privateMethod y).before args s = true) (hinst : (Jvm.Cond.instanceMethod y).before args s = true) (hy : y.cls ≠ "java/lang/invoke/MethodHandle" ∧ y.cls ≠ "java/lang/invoke/VarHandle") :
    (Jvm.Cond.selects y.cls y y).before args s = true := by
  obtain ⟨c, k, hc, hk, -, hniab, -, -⟩ := Cond.instantiable_spec hins
  have hni : k.isInterface = false := (Bool.or_eq_false_iff.mp hniab).1
  obtain ⟨mk, methM, hnamed, hmethM, -, -⟩ := Cond.instanceMethod_spec hinst
  have hfound : s.methodFound? y.cls y.name y.desc = some mk := State.methodFound?_of_named hnamed hy
  have hcls : mk.cls = c := Option.some.inj ((findClass_of_methodNamed hnamed).symm.trans hc)
  have hsel : selectMethod {} s.vm c mk = .method mk := selectMethod_private hmethM (Cond.privateMethod_at hpriv mk methM hnamed hmethM)
  simp only [Cond.before, Cond.holds, Cond.value, hc, hfound, hnamed, hsel, hcls, hk]
  simp; exact hni
theorem own_exa_ns {Z : State} {h : Heap} {a : Addr} {C : String} (E : Exa Z h a C) : ∀ cell : Cell, h[a]? = some cell → cell.vm.isStatics = false := fun cell q => by
  obtain ⟨c, k, h1, -, -, h4, -⟩ := E
  cases h1.symm.trans q
  exact h4
theorem own_Sta_keep {Z : State} {h h' : Heap} {C n d : String} {v : Value} {ws : List Addr} (F : Sta Z h C n d v) (K : Keep h h' ws) (q : ∀ x ∈ ws, ∀ cell : Cell, h[x]? = some cell → cell.vm.isStatics = false) : Sta Z h' C n d v := by
  obtain ⟨cf, i, k, f, st, cell, h1, h2, h3, h4, h5, h6, h7⟩ := F
  refine ⟨cf, i, k, f, st, cell, h1, h2, h3, h4, K.2.1 _ _ h5 (fun hm => ?_), h6, h7⟩
  rw [q _ hm _ h5] at h6
  cases h6
theorem own_grow (X : Stand p l e R s m args below meth c T locs cells slots) {C S : Nat} (hc : cells ≤ C) (hs : slots ≤ S) : Stand p l e R s m args below meth c T locs C S :=
  ⟨X.admits, X.cas, X.clock, X.frames, X.room, X.hears, X.method, X.code, X.here, X.tail, X.warmed, X.limits, X.bytes, X.same.mono hc hs⟩
end OwnRoad
def own_sh (v : Int32) : Int32 := ((v.toUInt32 >>> ((7 : Int32) &&& 31).toUInt32).toInt32)
def own_hi (v : Int32) : Int32 := (((v &&& (127 : Int32)) ||| (128 : Int32)).toInt8.toInt32)
def own_lo (v : Int32) : Int32 := (v.toInt8.toInt32)
def own_byte : Nat → Int32 → Int32 → Int32
  | 0, v, f => if (v &&& (-128 : Int32)) = (0 : Int32) then own_lo v else own_hi v
  | j + 1, v, f => if (v &&& (-128 : Int32)) = (0 : Int32) then f else own_byte j (own_sh v) f
def own_el (o i : Nat) (v f : Int32) : Int32 := if i < o then f else own_byte (i - o) v f
def own_els (o : Nat) (v f : Int32) : List Value := [(.int (own_el o 0 v f)), (.int (own_el o 1 v f)), (.int (own_el o 2 v f)), (.int (own_el o 3 v f)), (.int (own_el o 4 v f)), (.int (own_el o 5 v f)), (.int (own_el o 6 v f)), (.int (own_el o 7 v f)), (.int (own_el o 8 v f))]
def own_cnt (v : Int32) : Int32 := if (v &&& (-128 : Int32)) = (0 : Int32) then 1 else if (own_sh v &&& (-128 : Int32)) = (0 : Int32) then 2 else if (own_sh (own_sh v) &&& (-128 : Int32)) = (0 : Int32) then 3 else if (own_sh (own_sh (own_sh v)) &&& (-128 : Int32)) = (0 : Int32) then 4 else 5
def own_len (v : Int32) : Int32 := if (v &&& (-128 : Int32)) = (0 : Int32) then 1 else if (v &&& (-16384 : Int32)) = (0 : Int32) then 2 else if (v &&& (-2097152 : Int32)) = (0 : Int32) then 3 else if (v &&& (-268435456 : Int32)) = (0 : Int32) then 4 else 5
def own_us (v k : Int32) : Int32 := ((v.toUInt32 >>> (((7 : Int32) * k) &&& 31).toUInt32).toInt32)
def own_b (x y : Int32) : Int32 := if x = y then 1 else 0
def own_at (i o n v f x : Int32) : Int32 := if (i - o) < (0 : Int32) then own_b x f else if (i - o) < n then (if (i - o) < (n - (1 : Int32)) then own_b x (own_hi (own_us v (i - o))) else own_b x (own_lo (own_us v (i - o)))) else own_b x f
theorem own_sh_bv (v : Int32) : (own_sh v).toBitVec = v.toBitVec >>> 7 := by
  have e : ((7 : Int32) &&& 31).toUInt32 = 7 := by decide
  unfold own_sh
  rw [e]
  rfl
theorem own_and (x m : BitVec 32) (k : Nat) (hm : ∀ i : Fin 32, m.getLsbD i = decide (k ≤ i.1)) : x &&& m = 0#32 ↔ x >>> k = 0#32 := by
  constructor
  · intro h
    apply BitVec.eq_of_getLsbD_eq
    intro i hi
    by_cases hk : k + i < 32
    · have q := congrArg (fun y => y.getLsbD (k + i)) h
      simp only [BitVec.getLsbD_and, BitVec.getLsbD_zero] at q
      have q2 := hm ⟨k + i, hk⟩
      simp only at q2
      rw [q2] at q
      simpa [BitVec.getLsbD_ushiftRight] using q
    · simp [BitVec.getLsbD_ushiftRight, BitVec.getLsbD_of_ge _ _ (Nat.le_of_not_lt hk)]
  · intro h
    apply BitVec.eq_of_getLsbD_eq
    intro i hi
    have q2 := hm ⟨i, hi⟩
    simp only at q2
    simp only [BitVec.getLsbD_and, BitVec.getLsbD_zero, q2]
    by_cases hk : k ≤ i
    · have q := congrArg (fun y => y.getLsbD (i - k)) h
      simp only [BitVec.getLsbD_ushiftRight, BitVec.getLsbD_zero, Nat.add_sub_cancel' hk] at q
      simp [q]
    · simp [hk]
theorem own_c (v m : Int32) (k : Nat) (hm : ∀ i : Fin 32, m.toBitVec.getLsbD i = decide (k ≤ i.1)) : (v &&& m) = (0 : Int32) ↔ v.toBitVec >>> k = 0#32 := by
  rw [← own_and v.toBitVec m.toBitVec k hm, ← Int32.toBitVec_inj]
  rfl
theorem own_c7 (v : Int32) : (v &&& (-128 : Int32)) = (0 : Int32) ↔ v.toBitVec >>> 7 = 0#32 := own_c v _ 7 (by decide)
theorem own_cnt_len (v : Int32) : own_cnt v = own_len v := by
  unfold own_cnt own_len
  simp only [own_c7, own_c v (-16384 : Int32) 14 (by decide), own_c v (-2097152 : Int32) 21 (by decide), own_c v (-268435456 : Int32) 28 (by decide), own_sh_bv, ← BitVec.shiftRight_add]
theorem own_five (v : Int32) : (own_sh (own_sh (own_sh (own_sh v))) &&& (-128 : Int32)) = (0 : Int32) := by
  rw [own_c7]
  simp only [own_sh_bv, ← BitVec.shiftRight_add]
  exact BitVec.ushiftRight_eq_zero (by decide)
theorem own_us_bv (v k : Int32) (n : Nat) (h : (((7 : Int32) * k) &&& 31).toUInt32 = UInt32.ofNat n) (hn : n < 32) : (own_us v k).toBitVec = v.toBitVec >>> n := by
  unfold own_us
  rw [h]
  show v.toBitVec >>> ((UInt32.ofNat n).toBitVec % 32) = _
  apply BitVec.eq_of_toNat_eq
  rw [BitVec.toNat_ushiftRight]
  show (v.toBitVec >>> ((UInt32.ofNat n).toBitVec % 32).toNat).toNat = _
  rw [BitVec.toNat_ushiftRight]
  congr 1
  simp [BitVec.toNat_umod]
  omega
theorem own_us0 (v : Int32) : own_us v (0 : Int32) = v := by
  apply Int32.toBitVec_inj.mp; rw [own_us_bv v _ 0 (by decide) (by decide)]; simp
theorem own_us1 (v : Int32) : own_us v (1 : Int32) = own_sh v := by
  apply Int32.toBitVec_inj.mp; rw [own_us_bv v _ 7 (by decide) (by decide), own_sh_bv]
theorem own_us2 (v : Int32) : own_us v (2 : Int32) = own_sh (own_sh v) := by
  apply Int32.toBitVec_inj.mp; rw [own_us_bv v _ 14 (by decide) (by decide)]; simp only [own_sh_bv, ← BitVec.shiftRight_add]
theorem own_us3 (v : Int32) : own_us v (3 : Int32) = own_sh (own_sh (own_sh v)) := by
  apply Int32.toBitVec_inj.mp; rw [own_us_bv v _ 21 (by decide) (by decide)]; simp only [own_sh_bv, ← BitVec.shiftRight_add]
theorem own_us4 (v : Int32) : own_us v (4 : Int32) = own_sh (own_sh (own_sh (own_sh v))) := by
  apply Int32.toBitVec_inj.mp; rw [own_us_bv v _ 28 (by decide) (by decide)]; simp only [own_sh_bv, ← BitVec.shiftRight_add]
def own_atj (j n v f x : Int32) : Int32 := if j < (0 : Int32) then own_b x f else if j < n then (if j < (n - (1 : Int32)) then own_b x (own_hi (own_us v j)) else own_b x (own_lo (own_us v j))) else own_b x f
theorem own_cases {P : Int32 → Prop} (v : Int32) (h1 : (v &&& (-128 : Int32)) = (0 : Int32) → P 1) (h2 : ¬ (v &&& (-128 : Int32)) = (0 : Int32) → (own_sh v &&& (-128 : Int32)) = (0 : Int32) → P 2) (h3 : ¬ (v &&& (-128 : Int32)) = (0 : Int32) → ¬ (own_sh v &&& (-128 : Int32)) = (0 : Int32) → (own_sh (own_sh v) &&& (-128 : Int32)) = (0 : Int32) → P 3) (h4 : ¬ (v &&& (-128 : Int32)) = (0 : Int32) → ¬ (own_sh v &&& (-128 : Int32)) = (0 : Int32) → ¬ (own_sh (own_sh v) &&& (-128 : Int32)) = (0 : Int32) → (own_sh (own_sh (own_sh v)) &&& (-128 : Int32)) = (0 : Int32) → P 4)
    (h5 : ¬ (v &&& (-128 : Int32)) = (0 : Int32) → ¬ (own_sh v &&& (-128 : Int32)) = (0 : Int32) → ¬ (own_sh (own_sh v) &&& (-128 : Int32)) = (0 : Int32) → ¬ (own_sh (own_sh (own_sh v)) &&& (-128 : Int32)) = (0 : Int32) → P 5) : P (own_len v) := by
  rw [← own_cnt_len]
  unfold own_cnt
  by_cases c0 : (v &&& (-128 : Int32)) = (0 : Int32)
  · rw [if_pos c0]; exact h1 c0
  rw [if_neg c0]
  by_cases c1 : (own_sh v &&& (-128 : Int32)) = (0 : Int32)
  · rw [if_pos c1]; exact h2 c0 c1
  rw [if_neg c1]
  by_cases c2 : (own_sh (own_sh v) &&& (-128 : Int32)) = (0 : Int32)
  · rw [if_pos c2]; exact h3 c0 c1 c2
  rw [if_neg c2]
  by_cases c3 : (own_sh (own_sh (own_sh v)) &&& (-128 : Int32)) = (0 : Int32)
  · rw [if_pos c3]; exact h4 c0 c1 c2 c3
  rw [if_neg c3]; exact h5 c0 c1 c2 c3
theorem own_j0 (v f : Int32) : own_atj (0 : Int32) (own_len v) v f (own_byte 0 v f) = 1 := by
  refine own_cases (P := fun n => own_atj (0 : Int32) n v f (own_byte 0 v f) = 1) v ?_ ?_ ?_ ?_ ?_ <;> intros <;> simp +decide [own_atj, own_byte, own_b, own_us0, *]
theorem own_j1 (v f : Int32) : own_atj (1 : Int32) (own_len v) v f (own_byte 1 v f) = 1 := by
  refine own_cases (P := fun n => own_atj (1 : Int32) n v f (own_byte 1 v f) = 1) v ?_ ?_ ?_ ?_ ?_ <;> intros <;> simp +decide [own_atj, own_byte, own_b, own_us1, *]
theorem own_j2 (v f : Int32) : own_atj (2 : Int32) (own_len v) v f (own_byte 2 v f) = 1 := by
  refine own_cases (P := fun n => own_atj (2 : Int32) n v f (own_byte 2 v f) = 1) v ?_ ?_ ?_ ?_ ?_ <;> intros <;> simp +decide [own_atj, own_byte, own_b, own_us2, *]
theorem own_j3 (v f : Int32) : own_atj (3 : Int32) (own_len v) v f (own_byte 3 v f) = 1 := by
  refine own_cases (P := fun n => own_atj (3 : Int32) n v f (own_byte 3 v f) = 1) v ?_ ?_ ?_ ?_ ?_ <;> intros <;> simp +decide [own_atj, own_byte, own_b, own_us3, *]
theorem own_j4 (v f : Int32) : own_atj (4 : Int32) (own_len v) v f (own_byte 4 v f) = 1 := by
  refine own_cases (P := fun n => own_atj (4 : Int32) n v f (own_byte 4 v f) = 1) v ?_ ?_ ?_ ?_ ?_ <;> intros <;> simp +decide [own_atj, own_byte, own_b, own_us4, own_five, *]
theorem own_j5 (v f : Int32) : own_atj (5 : Int32) (own_len v) v f (own_byte 5 v f) = 1 := by
  refine own_cases (P := fun n => own_atj (5 : Int32) n v f (own_byte 5 v f) = 1) v ?_ ?_ ?_ ?_ ?_ <;> intros <;> simp +decide [own_atj, own_byte, own_b, own_five, *]
theorem own_j6 (v f : Int32) : own_atj (6 : Int32) (own_len v) v f (own_byte 6 v f) = 1 := by
  refine own_cases (P := fun n => own_atj (6 : Int32) n v f (own_byte 6 v f) = 1) v ?_ ?_ ?_ ?_ ?_ <;> intros <;> simp +decide [own_atj, own_byte, own_b, own_five, *]
theorem own_j7 (v f : Int32) : own_atj (7 : Int32) (own_len v) v f (own_byte 7 v f) = 1 := by
  refine own_cases (P := fun n => own_atj (7 : Int32) n v f (own_byte 7 v f) = 1) v ?_ ?_ ?_ ?_ ?_ <;> intros <;> simp +decide [own_atj, own_byte, own_b, own_five, *]
theorem own_j8 (v f : Int32) : own_atj (8 : Int32) (own_len v) v f (own_byte 8 v f) = 1 := by
  refine own_cases (P := fun n => own_atj (8 : Int32) n v f (own_byte 8 v f) = 1) v ?_ ?_ ?_ ?_ ?_ <;> intros <;> simp +decide [own_atj, own_byte, own_b, own_five, *]
theorem own_four (k : Int32) : (k &&& (3 : Int32)) = (0 : Int32) ∨ (k &&& (3 : Int32)) = (1 : Int32) ∨ (k &&& (3 : Int32)) = (2 : Int32) ∨ (k &&& (3 : Int32)) = (3 : Int32) := by
  have e1 := c_mask k (3 : Int32) 2 (by decide) (by decide)
  generalize (k &&& (3 : Int32)) = v at *
  have z : ∀ n : Int32, v.toInt = n.toInt → v = n := fun n h => Int32.toInt_inj.mp h
  have b : v.toInt = 0 ∨ v.toInt = 1 ∨ v.toInt = 2 ∨ v.toInt = 3 := by omega
  rcases b with b | b | b | b
  · exact Or.inl (z 0 b)
  · exact Or.inr (Or.inl (z 1 b))
  · exact Or.inr (Or.inr (Or.inl (z 2 b)))
  · exact Or.inr (Or.inr (Or.inr (z 3 b)))
theorem own_ok_0_0 (v f : Int32) : own_at (0 : Int32) (0 : Int32) (own_len v) v f (own_el 0 0 v f) = 1 := own_j0 v f
theorem own_ok_0_1 (v f : Int32) : own_at (1 : Int32) (0 : Int32) (own_len v) v f (own_el 0 1 v f) = 1 := own_j1 v f
theorem own_ok_0_2 (v f : Int32) : own_at (2 : Int32) (0 : Int32) (own_len v) v f (own_el 0 2 v f) = 1 := own_j2 v f
theorem own_ok_0_3 (v f : Int32) : own_at (3 : Int32) (0 : Int32) (own_len v) v f (own_el 0 3 v f) = 1 := own_j3 v f
theorem own_ok_0_4 (v f : Int32) : own_at (4 : Int32) (0 : Int32) (own_len v) v f (own_el 0 4 v f) = 1 := own_j4 v f
theorem own_ok_0_5 (v f : Int32) : own_at (5 : Int32) (0 : Int32) (own_len v) v f (own_el 0 5 v f) = 1 := own_j5 v f
theorem own_ok_0_6 (v f : Int32) : own_at (6 : Int32) (0 : Int32) (own_len v) v f (own_el 0 6 v f) = 1 := own_j6 v f
theorem own_ok_0_7 (v f : Int32) : own_at (7 : Int32) (0 : Int32) (own_len v) v f (own_el 0 7 v f) = 1 := own_j7 v f
theorem own_ok_0_8 (v f : Int32) : own_at (8 : Int32) (0 : Int32) (own_len v) v f (own_el 0 8 v f) = 1 := own_j8 v f
theorem own_ok_1_0 (v f : Int32) : own_at (0 : Int32) (1 : Int32) (own_len v) v f (own_el 1 0 v f) = 1 := by simp +decide [own_at, own_el, own_b]
theorem own_ok_1_1 (v f : Int32) : own_at (1 : Int32) (1 : Int32) (own_len v) v f (own_el 1 1 v f) = 1 := own_j0 v f
theorem own_ok_1_2 (v f : Int32) : own_at (2 : Int32) (1 : Int32) (own_len v) v f (own_el 1 2 v f) = 1 := own_j1 v f
theorem own_ok_1_3 (v f : Int32) : own_at (3 : Int32) (1 : Int32) (own_len v) v f (own_el 1 3 v f) = 1 := own_j2 v f
theorem own_ok_1_4 (v f : Int32) : own_at (4 : Int32) (1 : Int32) (own_len v) v f (own_el 1 4 v f) = 1 := own_j3 v f
theorem own_ok_1_5 (v f : Int32) : own_at (5 : Int32) (1 : Int32) (own_len v) v f (own_el 1 5 v f) = 1 := own_j4 v f
theorem own_ok_1_6 (v f : Int32) : own_at (6 : Int32) (1 : Int32) (own_len v) v f (own_el 1 6 v f) = 1 := own_j5 v f
theorem own_ok_1_7 (v f : Int32) : own_at (7 : Int32) (1 : Int32) (own_len v) v f (own_el 1 7 v f) = 1 := own_j6 v f
theorem own_ok_1_8 (v f : Int32) : own_at (8 : Int32) (1 : Int32) (own_len v) v f (own_el 1 8 v f) = 1 := own_j7 v f
theorem own_ok_2_0 (v f : Int32) : own_at (0 : Int32) (2 : Int32) (own_len v) v f (own_el 2 0 v f) = 1 := by simp +decide [own_at, own_el, own_b]
theorem own_ok_2_1 (v f : Int32) : own_at (1 : Int32) (2 : Int32) (own_len v) v f (own_el 2 1 v f) = 1 := by simp +decide [own_at, own_el, own_b]
theorem own_ok_2_2 (v f : Int32) : own_at (2 : Int32) (2 : Int32) (own_len v) v f (own_el 2 2 v f) = 1 := own_j0 v f
theorem own_ok_2_3 (v f : Int32) : own_at (3 : Int32) (2 : Int32) (own_len v) v f (own_el 2 3 v f) = 1 := own_j1 v f
theorem own_ok_2_4 (v f : Int32) : own_at (4 : Int32) (2 : Int32) (own_len v) v f (own_el 2 4 v f) = 1 := own_j2 v f
theorem own_ok_2_5 (v f : Int32) : own_at (5 : Int32) (2 : Int32) (own_len v) v f (own_el 2 5 v f) = 1 := own_j3 v f
theorem own_ok_2_6 (v f : Int32) : own_at (6 : Int32) (2 : Int32) (own_len v) v f (own_el 2 6 v f) = 1 := own_j4 v f
theorem own_ok_2_7 (v f : Int32) : own_at (7 : Int32) (2 : Int32) (own_len v) v f (own_el 2 7 v f) = 1 := own_j5 v f
theorem own_ok_2_8 (v f : Int32) : own_at (8 : Int32) (2 : Int32) (own_len v) v f (own_el 2 8 v f) = 1 := own_j6 v f
theorem own_ok_3_0 (v f : Int32) : own_at (0 : Int32) (3 : Int32) (own_len v) v f (own_el 3 0 v f) = 1 := by simp +decide [own_at, own_el, own_b]
theorem own_ok_3_1 (v f : Int32) : own_at (1 : Int32) (3 : Int32) (own_len v) v f (own_el 3 1 v f) = 1 := by simp +decide [own_at, own_el, own_b]
theorem own_ok_3_2 (v f : Int32) : own_at (2 : Int32) (3 : Int32) (own_len v) v f (own_el 3 2 v f) = 1 := by simp +decide [own_at, own_el, own_b]
theorem own_ok_3_3 (v f : Int32) : own_at (3 : Int32) (3 : Int32) (own_len v) v f (own_el 3 3 v f) = 1 := own_j0 v f
theorem own_ok_3_4 (v f : Int32) : own_at (4 : Int32) (3 : Int32) (own_len v) v f (own_el 3 4 v f) = 1 := own_j1 v f
theorem own_ok_3_5 (v f : Int32) : own_at (5 : Int32) (3 : Int32) (own_len v) v f (own_el 3 5 v f) = 1 := own_j2 v f
theorem own_ok_3_6 (v f : Int32) : own_at (6 : Int32) (3 : Int32) (own_len v) v f (own_el 3 6 v f) = 1 := own_j3 v f
theorem own_ok_3_7 (v f : Int32) : own_at (7 : Int32) (3 : Int32) (own_len v) v f (own_el 3 7 v f) = 1 := own_j4 v f
theorem own_ok_3_8 (v f : Int32) : own_at (8 : Int32) (3 : Int32) (own_len v) v f (own_el 3 8 v f) = 1 := own_j5 v f
theorem d1_0 : decode prog_39_method_2_code 0 = .ok (.iload_n 2, 1) := by decide +kernel
theorem d1_1 : decode prog_39_method_2_code 1 = .ok (.istore_n 3, 1) := by decide +kernel
theorem d1_2 : decode prog_39_method_2_code 2 = .ok (.iload_n 1, 1) := by decide +kernel
theorem d1_3 : decode prog_39_method_2_code 3 = .ok (.istore 4, 2) := by decide +kernel
theorem d1_5 : decode prog_39_method_2_code 5 = .ok (.iload_n 3, 1) := by decide +kernel
theorem d1_6 : decode prog_39_method_2_code 6 = .ok (.bipush (-128), 2) := by decide +kernel
theorem d1_8 : decode prog_39_method_2_code 8 = .ok (.iand, 1) := by decide +kernel
theorem d1_9 : decode prog_39_method_2_code 9 = .ok (.ifCond .eq 27, 3) := by decide +kernel
theorem d1_12 : decode prog_39_method_2_code 12 = .ok (.aload_n 0, 1) := by decide +kernel
theorem d1_13 : decode prog_39_method_2_code 13 = .ok (.iload 4, 2) := by decide +kernel
theorem d1_15 : decode prog_39_method_2_code 15 = .ok (.iload_n 3, 1) := by decide +kernel
theorem d1_16 : decode prog_39_method_2_code 16 = .ok (.bipush 127, 2) := by decide +kernel
theorem d1_18 : decode prog_39_method_2_code 18 = .ok (.iand, 1) := by decide +kernel
theorem d1_19 : decode prog_39_method_2_code 19 = .ok (.sipush 128, 3) := by decide +kernel
theorem d1_22 : decode prog_39_method_2_code 22 = .ok (.ior, 1) := by decide +kernel
theorem d1_23 : decode prog_39_method_2_code 23 = .ok (.i2b, 1) := by decide +kernel
theorem d1_24 : decode prog_39_method_2_code 24 = .ok (.bastore, 1) := by decide +kernel
theorem d1_25 : decode prog_39_method_2_code 25 = .ok (.iinc 4 1, 3) := by decide +kernel
theorem d1_28 : decode prog_39_method_2_code 28 = .ok (.iload_n 3, 1) := by decide +kernel
theorem d1_29 : decode prog_39_method_2_code 29 = .ok (.bipush 7, 2) := by decide +kernel
theorem d1_31 : decode prog_39_method_2_code 31 = .ok (.iushr, 1) := by decide +kernel
theorem d1_32 : decode prog_39_method_2_code 32 = .ok (.istore_n 3, 1) := by decide +kernel
theorem d1_33 : decode prog_39_method_2_code 33 = .ok (.goto (-28), 3) := by decide +kernel
theorem d1_36 : decode prog_39_method_2_code 36 = .ok (.aload_n 0, 1) := by decide +kernel
theorem d1_37 : decode prog_39_method_2_code 37 = .ok (.iload 4, 2) := by decide +kernel
theorem d1_39 : decode prog_39_method_2_code 39 = .ok (.iload_n 3, 1) := by decide +kernel
theorem d1_40 : decode prog_39_method_2_code 40 = .ok (.i2b, 1) := by decide +kernel
theorem d1_41 : decode prog_39_method_2_code 41 = .ok (.bastore, 1) := by decide +kernel
theorem d1_42 : decode prog_39_method_2_code 42 = .ok (.iload 4, 2) := by decide +kernel
theorem d1_44 : decode prog_39_method_2_code 44 = .ok (.iconst 1, 1) := by decide +kernel
theorem d1_45 : decode prog_39_method_2_code 45 = .ok (.iadd, 1) := by decide +kernel
theorem d1_46 : decode prog_39_method_2_code 46 = .ok (.ireturn, 1) := by decide +kernel
theorem pn_0 : plainName "com/example/words_to_weights/wordstoweights/index/IndexFormat" = true := by first | (simp [plainName, overriddenIn]; done) | decide +kernel
theorem ef_put0 (m : MethodId) (a1 : Addr) (p3 : Int32) : entryFrame m #[(.ref a1), (.int (0 : Int32)), (.int p3)] 5 = mkF m 0 #[.val (.ref a1), .val (.int (0 : Int32)), .val (.int p3), .unset, .unset] [] := by first | (simp [entryFrame, mkF, argsToLocals, Value.category]; done) | rfl
def Qput0 (Z : State) (a1 : Addr) (p3 : Int32) (k : ClassId) (f : Int32) (h0 : Heap) (n0 : Nat) (v : Option Value) (h : Heap) (L : List Loc) : Prop := v = some (.int ((0 : Int32) + own_cnt p3)) ∧ Fr n0 L ∧ Keep h0 h [a1] ∧ Arv Z h a1 k .byte (9 : Int32) (own_els 0 p3 f) (.int (0 : Int32))
set_option maxRecDepth 65536 in
set_option maxHeartbeats 40000000 in
theorem rmput0 (l : Launch) (Z : State) (a0 : Array Value) (hw : ∀ d ∈ tables_1, d.before a0 Z = true) (ws : List Jvm.Cond) (a1 : Addr) (p3 : Int32) (k : ClassId) (f : Int32) (h0 : Heap) (n0 : Nat) (Z0 : n0 ≤ h0.size) (V : Arv Z h0 a1 k .byte (9 : Int32) [(.int f), (.int f), (.int f), (.int f), (.int f), (.int f), (.int f), (.int f), (.int f)] (.int (0 : Int32))) (g_a1 : n0 ≤ a1) (hf8 : nar .byte f = f) :
    MetFree l (⟨"com/example/words_to_weights/wordstoweights/index/IndexFormat", "putNumber", "([BII)I"⟩ : MethodName) (head1 (Jvm.Cond.code (⟨"com/example/words_to_weights/wordstoweights/index/IndexFormat", "putNumber", "([BII)I"⟩ : MethodName) prog_39_method_2_code 5 (some .int) :: ws) ({ frames := 0, cells := 0, slots := 0, locals := 0 } : Room)) (fun a U => a = #[(.ref a1), (.int (0 : Int32)), (.int p3)] ∧ Z.Warmed39 U.vm ∧ U.heap = h0) (fun _ _ _ _ _ => True) (fun _ U o U' => ∃ v L, o = .returned v ∧ Qput0 Z a1 p3 k f h0 n0 v U'.heap L ∧ FrameEnd U o U' L ({ frames := 0, cells := 0, slots := 0, locals := 0 } : Room).cells ({ frames := 0, cells := 0, slots := 0, locals := 0 } : Room).slots) := by
  refine MetFree.of_bodySF (plainFor_of_name pn_0) hisR ?_
  intro p e s m args below meth c s₁ Bd hml0 hP hK
  obtain ⟨rfl, hZ, hh⟩ := hP
  have hx := Bd.exec
  have hby := Bd.bytes
  have hml : c.maxLocals = 5 := hml0
  have hown : s.vm.findClass "com/example/words_to_weights/wordstoweights/index/IndexFormat" = some m.cls := findClass_of_methodNamed Bd.named
  have hnm := (name_of_methodNamed Bd.named Bd.method).1
  have hlk : meth.locks = false := BodyLoose.notSynchronized Bd
  have X0 : Stand p l e ({ frames := 0, cells := 0, slots := 0, locals := 0 } : Room) s m #[(.ref a1), (.int (0 : Int32)), (.int p3)] below meth c s₁ [] 0 0 := Stand.of_body Bd
  have e0 : s₁.heap = h0 := by rw [← hh, Bd.state]; rfl
  have N0 := Fr.nil n0
  show OEnds p.tables e below (OGoal (Qput0 Z a1 p3 k f h0 n0) s 0 0) (s₁.setTop (entryFrame m #[(.ref a1), (.int (0 : Int32)), (.int p3)] 5))
  refine OEnds.st (fun t k => castTop (ef_put0 m a1 p3) k) ?_
  generalize hG : OGoal (Qput0 Z a1 p3 k f h0 n0) s 0 0 = G
  have KK0 : Keep h0 h0 [a1] := Keep.refl h0 [a1]
  show OEnds p.tables e below G (s₁.setTop (mkF m 0 #[.val (.ref a1), .val (.int (0 : Int32)), .val (.int p3), .unset, .unset] []))
  refine OEnds.st (fun _ k => XS.iloadN X0.here hx rfl (hb hby d1_0) rfl k) ?_
  show OEnds p.tables e below G (s₁.setTop (mkF m 1 #[.val (.ref a1), .val (.int (0 : Int32)), .val (.int p3), .unset, .unset] [(.int p3)]))
  refine OEnds.st (fun _ k => XS.istoreN X0.here hx rfl (hb hby d1_1) rfl (l' := #[.val (.ref a1), .val (.int (0 : Int32)), .val (.int p3), .val (.int p3), .unset]) rfl k) ?_
  show OEnds p.tables e below G (s₁.setTop (mkF m 2 #[.val (.ref a1), .val (.int (0 : Int32)), .val (.int p3), .val (.int p3), .unset] []))
  refine OEnds.st (fun _ k => XS.iloadN X0.here hx rfl (hb hby d1_2) rfl k) ?_
  show OEnds p.tables e below G (s₁.setTop (mkF m 3 #[.val (.ref a1), .val (.int (0 : Int32)), .val (.int p3), .val (.int p3), .unset] [(.int (0 : Int32))]))
  refine OEnds.st (fun _ k => XS.istore X0.here hx rfl (hb hby d1_3) rfl (l' := #[.val (.ref a1), .val (.int (0 : Int32)), .val (.int p3), .val (.int p3), .val (.int (0 : Int32))]) rfl k) ?_
  show OEnds p.tables e below G (s₁.setTop (mkF m 5 #[.val (.ref a1), .val (.int (0 : Int32)), .val (.int p3), .val (.int p3), .val (.int (0 : Int32))] []))
  refine OEnds.st (fun _ k => XS.iloadN X0.here hx rfl (hb hby d1_5) rfl k) ?_
  show OEnds p.tables e below G (s₁.setTop (mkF m 6 #[.val (.ref a1), .val (.int (0 : Int32)), .val (.int p3), .val (.int p3), .val (.int (0 : Int32))] [(.int p3)]))
  refine OEnds.st (fun _ k => XS.bipush X0.here hx rfl (hb hby d1_6) k) ?_
  show OEnds p.tables e below G (s₁.setTop (mkF m 8 #[.val (.ref a1), .val (.int (0 : Int32)), .val (.int p3), .val (.int p3), .val (.int (0 : Int32))] [(.int (-128 : Int32)), (.int p3)]))
  refine OEnds.st (fun _ k => XS.iand X0.here hx rfl (hb hby d1_8) rfl k) ?_
  show OEnds p.tables e below G (s₁.setTop (mkF m 9 #[.val (.ref a1), .val (.int (0 : Int32)), .val (.int p3), .val (.int p3), .val (.int (0 : Int32))] [(.int (p3 &&& (-128 : Int32)))]))
  by_cases hc9_1001 : (p3 &&& (-128 : Int32)) = (0 : Int32)
  · -- pc 9: yes
    refine OEnds.st (fun _ k => XS.ifYes X0.here hx rfl (pc0 := 9) (pc' := 36) rfl (hb hby d1_9) rfl ((if0 _ _).trans (teq hc9_1001).1) (by decide) (by decide) k) ?_
    show OEnds p.tables e below G (s₁.setTop (mkF m 36 #[.val (.ref a1), .val (.int (0 : Int32)), .val (.int p3), .val (.int p3), .val (.int (0 : Int32))] []))
    refine OEnds.st (fun _ k => XS.aloadN X0.here hx rfl (hb hby d1_36) rfl rfl k) ?_
    show OEnds p.tables e below G (s₁.setTop (mkF m 37 #[.val (.ref a1), .val (.int (0 : Int32)), .val (.int p3), .val (.int p3), .val (.int (0 : Int32))] [(.ref a1)]))
    refine OEnds.st (fun _ k => XS.iload X0.here hx rfl (hb hby d1_37) rfl k) ?_
    show OEnds p.tables e below G (s₁.setTop (mkF m 39 #[.val (.ref a1), .val (.int (0 : Int32)), .val (.int p3), .val (.int p3), .val (.int (0 : Int32))] [(.int (0 : Int32)), (.ref a1)]))
    refine OEnds.st (fun _ k => XS.iloadN X0.here hx rfl (hb hby d1_39) rfl k) ?_
    show OEnds p.tables e below G (s₁.setTop (mkF m 40 #[.val (.ref a1), .val (.int (0 : Int32)), .val (.int p3), .val (.int p3), .val (.int (0 : Int32))] [(.int p3), (.int (0 : Int32)), (.ref a1)]))
    refine OEnds.st (fun _ k => XS.i2b X0.here hx rfl (hb hby d1_40) rfl k) ?_
    show OEnds p.tables e below G (s₁.setTop (mkF m 41 #[.val (.ref a1), .val (.int (0 : Int32)), .val (.int p3), .val (.int p3), .val (.int (0 : Int32))] [(.int (p3.toInt8.toInt32)), (.int (0 : Int32)), (.ref a1)]))
    obtain ⟨cl1002, Ar1002, q1002, S1002, N1002n, H1002, G1002⟩ := id V
    have hin1002 : ¬ ((0 : Int32) < 0 ∨ cl1002.slots.size ≤ ((0 : Int32)).toNatClampNeg) := inb_of S1002 ⟨by decide, by decide⟩
    obtain ⟨T1002, h1002, X1002, e1002, W1002, st1002⟩ := stB X0 hx hZ e0 Ar1002 (j := (0 : Int32)) hin1002 (g := (mkF m 41 #[.val (.ref a1), .val (.int (0 : Int32)), .val (.int p3), .val (.int p3), .val (.int (0 : Int32))] [(.int (p3.toInt8.toInt32)), (.int (0 : Int32)), (.ref a1)])) rfl rfl (hb hby d1_41)
    refine OEnds.st st1002 ?_
    rw [own_b8] at W1002
    have f1003 : Arv Z h1002 a1 k .byte (9 : Int32) [(.int (p3.toInt8.toInt32)), (.int f), (.int f), (.int f), (.int f), (.int f), (.int f), (.int f), (.int f)] (.int (0 : Int32)) := Arv.set Ar1002 q1002 S1002 N1002n H1002 G1002 (fits_nar_byte _) W1002 0 rfl (Nat.le_of_ble_eq_true rfl)
    have N1002 := Fr.snoc X1002 N0 g_a1
    have KK1002 : Keep h0 h1002 [a1] := KK0.wr W1002 (Or.inl (List.mem_of_getElem? (i := 0) rfl))
    have Z1002 := Nat.le_trans Z0 (Keep.of_wr W1002).1
    show OEnds p.tables e below G (T1002.setTop (mkF m 42 #[.val (.ref a1), .val (.int (0 : Int32)), .val (.int p3), .val (.int p3), .val (.int (0 : Int32))] []))
    refine OEnds.st (fun _ k => XS.iload X1002.here hx rfl (hb hby d1_42) rfl k) ?_
    show OEnds p.tables e below G (T1002.setTop (mkF m 44 #[.val (.ref a1), .val (.int (0 : Int32)), .val (.int p3), .val (.int p3), .val (.int (0 : Int32))] [(.int (0 : Int32))]))
    refine OEnds.st (fun _ k => XS.iconst X1002.here hx rfl (hb hby d1_44) k) ?_
    show OEnds p.tables e below G (T1002.setTop (mkF m 45 #[.val (.ref a1), .val (.int (0 : Int32)), .val (.int p3), .val (.int p3), .val (.int (0 : Int32))] [(.int (1 : Int32)), (.int (0 : Int32))]))
    refine OEnds.st (fun _ k => XS.iadd X1002.here hx rfl (hb hby d1_45) rfl k) ?_
    show OEnds p.tables e below G (T1002.setTop (mkF m 46 #[.val (.ref a1), .val (.int (0 : Int32)), .val (.int p3), .val (.int p3), .val (.int (0 : Int32))] [(.int ((0 : Int32) + (1 : Int32)))]))
    rw [← hG]
    have u0 : (p3 &&& (-128 : Int32)) = (0 : Int32) := hc9_1001
    have hq : own_cnt p3 = (1 : Int32) := by simp [own_cnt, u0]
    have hr : ((0 : Int32) + (1 : Int32)) = (0 : Int32) + own_cnt p3 := by first | (rw [hq]; done) | (rw [hq]; decide)
    have x0 : own_el 0 0 p3 f = own_lo p3 := by simp [own_el, own_byte, u0]
    have x1 : own_el 0 1 p3 f = f := by simp [own_el, own_byte, u0]
    have x2 : own_el 0 2 p3 f = f := by simp [own_el, own_byte, u0]
    have x3 : own_el 0 3 p3 f = f := by simp [own_el, own_byte, u0]
    have x4 : own_el 0 4 p3 f = f := by simp [own_el, own_byte, u0]
    have x5 : own_el 0 5 p3 f = f := by simp [own_el, own_byte, u0]
    have x6 : own_el 0 6 p3 f = f := by simp [own_el, own_byte, u0]
    have x7 : own_el 0 7 p3 f = f := by simp [own_el, own_byte, u0]
    have x8 : own_el 0 8 p3 f = f := by simp [own_el, own_byte, u0]
    refine OEnds.retI X1002 hx hlk Bd.returns (hb hby d1_46) (by decide) (by decide) ?_
    rw [e1002]
    refine ⟨congrArg (fun z => some (Value.int z)) hr, N1002, KK1002, ?_⟩
    unfold own_els
    rw [x0, x1, x2, x3, x4, x5, x6, x7, x8]
    exact f1003
  · -- pc 9: no
    refine OEnds.st (fun _ k => XS.ifNo X0.here hx rfl (hb hby d1_9) rfl ((if0 _ _).trans (feq hc9_1001).1) k) ?_
    show OEnds p.tables e below G (s₁.setTop (mkF m 12 #[.val (.ref a1), .val (.int (0 : Int32)), .val (.int p3), .val (.int p3), .val (.int (0 : Int32))] []))
    refine OEnds.st (fun _ k => XS.aloadN X0.here hx rfl (hb hby d1_12) rfl rfl k) ?_
    show OEnds p.tables e below G (s₁.setTop (mkF m 13 #[.val (.ref a1), .val (.int (0 : Int32)), .val (.int p3), .val (.int p3), .val (.int (0 : Int32))] [(.ref a1)]))
    refine OEnds.st (fun _ k => XS.iload X0.here hx rfl (hb hby d1_13) rfl k) ?_
    show OEnds p.tables e below G (s₁.setTop (mkF m 15 #[.val (.ref a1), .val (.int (0 : Int32)), .val (.int p3), .val (.int p3), .val (.int (0 : Int32))] [(.int (0 : Int32)), (.ref a1)]))
    refine OEnds.st (fun _ k => XS.iloadN X0.here hx rfl (hb hby d1_15) rfl k) ?_
    show OEnds p.tables e below G (s₁.setTop (mkF m 16 #[.val (.ref a1), .val (.int (0 : Int32)), .val (.int p3), .val (.int p3), .val (.int (0 : Int32))] [(.int p3), (.int (0 : Int32)), (.ref a1)]))
    refine OEnds.st (fun _ k => XS.bipush X0.here hx rfl (hb hby d1_16) k) ?_
    show OEnds p.tables e below G (s₁.setTop (mkF m 18 #[.val (.ref a1), .val (.int (0 : Int32)), .val (.int p3), .val (.int p3), .val (.int (0 : Int32))] [(.int (127 : Int32)), (.int p3), (.int (0 : Int32)), (.ref a1)]))
    refine OEnds.st (fun _ k => XS.iand X0.here hx rfl (hb hby d1_18) rfl k) ?_
    show OEnds p.tables e below G (s₁.setTop (mkF m 19 #[.val (.ref a1), .val (.int (0 : Int32)), .val (.int p3), .val (.int p3), .val (.int (0 : Int32))] [(.int (p3 &&& (127 : Int32))), (.int (0 : Int32)), (.ref a1)]))
    refine OEnds.st (fun _ k => XS.sipush X0.here hx rfl (hb hby d1_19) k) ?_
    show OEnds p.tables e below G (s₁.setTop (mkF m 22 #[.val (.ref a1), .val (.int (0 : Int32)), .val (.int p3), .val (.int p3), .val (.int (0 : Int32))] [(.int (128 : Int32)), (.int (p3 &&& (127 : Int32))), (.int (0 : Int32)), (.ref a1)]))
    refine OEnds.st (fun _ k => XS.ior X0.here hx rfl (hb hby d1_22) rfl k) ?_
    show OEnds p.tables e below G (s₁.setTop (mkF m 23 #[.val (.ref a1), .val (.int (0 : Int32)), .val (.int p3), .val (.int p3), .val (.int (0 : Int32))] [(.int ((p3 &&& (127 : Int32)) ||| (128 : Int32))), (.int (0 : Int32)), (.ref a1)]))
    refine OEnds.st (fun _ k => XS.i2b X0.here hx rfl (hb hby d1_23) rfl k) ?_
    show OEnds p.tables e below G (s₁.setTop (mkF m 24 #[.val (.ref a1), .val (.int (0 : Int32)), .val (.int p3), .val (.int p3), .val (.int (0 : Int32))] [(.int (((p3 &&& (127 : Int32)) ||| (128 : Int32)).toInt8.toInt32)), (.int (0 : Int32)), (.ref a1)]))
    obtain ⟨cl1004, Ar1004, q1004, S1004, N1004n, H1004, G1004⟩ := id V
    have hin1004 : ¬ ((0 : Int32) < 0 ∨ cl1004.slots.size ≤ ((0 : Int32)).toNatClampNeg) := inb_of S1004 ⟨by decide, by decide⟩
    obtain ⟨T1004, h1004, X1004, e1004, W1004, st1004⟩ := stB X0 hx hZ e0 Ar1004 (j := (0 : Int32)) hin1004 (g := (mkF m 24 #[.val (.ref a1), .val (.int (0 : Int32)), .val (.int p3), .val (.int p3), .val (.int (0 : Int32))] [(.int (((p3 &&& (127 : Int32)) ||| (128 : Int32)).toInt8.toInt32)), (.int (0 : Int32)), (.ref a1)])) rfl rfl (hb hby d1_24)
    refine OEnds.st st1004 ?_
    rw [own_b8] at W1004
    have f1005 : Arv Z h1004 a1 k .byte (9 : Int32) [(.int (((p3 &&& (127 : Int32)) ||| (128 : Int32)).toInt8.toInt32)), (.int f), (.int f), (.int f), (.int f), (.int f), (.int f), (.int f), (.int f)] (.int (0 : Int32)) := Arv.set Ar1004 q1004 S1004 N1004n H1004 G1004 (fits_nar_byte _) W1004 0 rfl (Nat.le_of_ble_eq_true rfl)
    have N1004 := Fr.snoc X1004 N0 g_a1
    have KK1004 : Keep h0 h1004 [a1] := KK0.wr W1004 (Or.inl (List.mem_of_getElem? (i := 0) rfl))
    have Z1004 := Nat.le_trans Z0 (Keep.of_wr W1004).1
    show OEnds p.tables e below G (T1004.setTop (mkF m 25 #[.val (.ref a1), .val (.int (0 : Int32)), .val (.int p3), .val (.int p3), .val (.int (0 : Int32))] []))
    refine OEnds.st (fun _ k => XS.iinc X1004.here hx rfl (hb hby d1_25) rfl (l' := #[.val (.ref a1), .val (.int (0 : Int32)), .val (.int p3), .val (.int p3), .val (.int ((0 : Int32) + (1 : Int32)))]) rfl k) ?_
    show OEnds p.tables e below G (T1004.setTop (mkF m 28 #[.val (.ref a1), .val (.int (0 : Int32)), .val (.int p3), .val (.int p3), .val (.int ((0 : Int32) + (1 : Int32)))] []))
    rw [show ((0 : Int32) + (1 : Int32)) = (1 : Int32) from by decide]
    show OEnds p.tables e below G (T1004.setTop (mkF m 28 #[.val (.ref a1), .val (.int (0 : Int32)), .val (.int p3), .val (.int p3), .val (.int (1 : Int32))] []))
    refine OEnds.st (fun _ k => XS.iloadN X1004.here hx rfl (hb hby d1_28) rfl k) ?_
    show OEnds p.tables e below G (T1004.setTop (mkF m 29 #[.val (.ref a1), .val (.int (0 : Int32)), .val (.int p3), .val (.int p3), .val (.int (1 : Int32))] [(.int p3)]))
    refine OEnds.st (fun _ k => XS.bipush X1004.here hx rfl (hb hby d1_29) k) ?_
    show OEnds p.tables e below G (T1004.setTop (mkF m 31 #[.val (.ref a1), .val (.int (0 : Int32)), .val (.int p3), .val (.int p3), .val (.int (1 : Int32))] [(.int (7 : Int32)), (.int p3)]))
    refine OEnds.st (fun _ k => XS.iushr X1004.here hx rfl (hb hby d1_31) rfl k) ?_
    show OEnds p.tables e below G (T1004.setTop (mkF m 32 #[.val (.ref a1), .val (.int (0 : Int32)), .val (.int p3), .val (.int p3), .val (.int (1 : Int32))] [(.int ((p3.toUInt32 >>> ((7 : Int32) &&& 31).toUInt32).toInt32))]))
    refine OEnds.st (fun _ k => XS.istoreN X1004.here hx rfl (hb hby d1_32) rfl (l' := #[.val (.ref a1), .val (.int (0 : Int32)), .val (.int p3), .val (.int ((p3.toUInt32 >>> ((7 : Int32) &&& 31).toUInt32).toInt32)), .val (.int (1 : Int32))]) rfl k) ?_
    show OEnds p.tables e below G (T1004.setTop (mkF m 33 #[.val (.ref a1), .val (.int (0 : Int32)), .val (.int p3), .val (.int ((p3.toUInt32 >>> ((7 : Int32) &&& 31).toUInt32).toInt32)), .val (.int (1 : Int32))] []))
    generalize hv_v1006 : ((p3.toUInt32 >>> ((7 : Int32) &&& 31).toUInt32).toInt32) = v1006
    show OEnds p.tables e below G (T1004.setTop (mkF m 33 #[.val (.ref a1), .val (.int (0 : Int32)), .val (.int p3), .val (.int v1006), .val (.int (1 : Int32))] []))
    refine OEnds.st (fun _ k => XS.goto X1004.here hx rfl (pc0 := 33) (pc' := 5) rfl (hb hby d1_33) (by decide) (by decide) k) ?_
    show OEnds p.tables e below G (T1004.setTop (mkF m 5 #[.val (.ref a1), .val (.int (0 : Int32)), .val (.int p3), .val (.int v1006), .val (.int (1 : Int32))] []))
    refine OEnds.st (fun _ k => XS.iloadN X1004.here hx rfl (hb hby d1_5) rfl k) ?_
    show OEnds p.tables e below G (T1004.setTop (mkF m 6 #[.val (.ref a1), .val (.int (0 : Int32)), .val (.int p3), .val (.int v1006), .val (.int (1 : Int32))] [(.int v1006)]))
    refine OEnds.st (fun _ k => XS.bipush X1004.here hx rfl (hb hby d1_6) k) ?_
    show OEnds p.tables e below G (T1004.setTop (mkF m 8 #[.val (.ref a1), .val (.int (0 : Int32)), .val (.int p3), .val (.int v1006), .val (.int (1 : Int32))] [(.int (-128 : Int32)), (.int v1006)]))
    refine OEnds.st (fun _ k => XS.iand X1004.here hx rfl (hb hby d1_8) rfl k) ?_
    show OEnds p.tables e below G (T1004.setTop (mkF m 9 #[.val (.ref a1), .val (.int (0 : Int32)), .val (.int p3), .val (.int v1006), .val (.int (1 : Int32))] [(.int (v1006 &&& (-128 : Int32)))]))
    by_cases hc9_1007 : (v1006 &&& (-128 : Int32)) = (0 : Int32)
    · -- pc 9: yes
      refine OEnds.st (fun _ k => XS.ifYes X1004.here hx rfl (pc0 := 9) (pc' := 36) rfl (hb hby d1_9) rfl ((if0 _ _).trans (teq hc9_1007).1) (by decide) (by decide) k) ?_
      show OEnds p.tables e below G (T1004.setTop (mkF m 36 #[.val (.ref a1), .val (.int (0 : Int32)), .val (.int p3), .val (.int v1006), .val (.int (1 : Int32))] []))
      refine OEnds.st (fun _ k => XS.aloadN X1004.here hx rfl (hb hby d1_36) rfl rfl k) ?_
      show OEnds p.tables e below G (T1004.setTop (mkF m 37 #[.val (.ref a1), .val (.int (0 : Int32)), .val (.int p3), .val (.int v1006), .val (.int (1 : Int32))] [(.ref a1)]))
      refine OEnds.st (fun _ k => XS.iload X1004.here hx rfl (hb hby d1_37) rfl k) ?_
      show OEnds p.tables e below G (T1004.setTop (mkF m 39 #[.val (.ref a1), .val (.int (0 : Int32)), .val (.int p3), .val (.int v1006), .val (.int (1 : Int32))] [(.int (1 : Int32)), (.ref a1)]))
      refine OEnds.st (fun _ k => XS.iloadN X1004.here hx rfl (hb hby d1_39) rfl k) ?_
      show OEnds p.tables e below G (T1004.setTop (mkF m 40 #[.val (.ref a1), .val (.int (0 : Int32)), .val (.int p3), .val (.int v1006), .val (.int (1 : Int32))] [(.int v1006), (.int (1 : Int32)), (.ref a1)]))
      refine OEnds.st (fun _ k => XS.i2b X1004.here hx rfl (hb hby d1_40) rfl k) ?_
      show OEnds p.tables e below G (T1004.setTop (mkF m 41 #[.val (.ref a1), .val (.int (0 : Int32)), .val (.int p3), .val (.int v1006), .val (.int (1 : Int32))] [(.int (v1006.toInt8.toInt32)), (.int (1 : Int32)), (.ref a1)]))
      obtain ⟨cl1008, Ar1008, q1008, S1008, N1008n, H1008, G1008⟩ := id f1005
      have hin1008 : ¬ ((1 : Int32) < 0 ∨ cl1008.slots.size ≤ ((1 : Int32)).toNatClampNeg) := inb_of S1008 ⟨by decide, by decide⟩
      obtain ⟨T1008, h1008, X1008, e1008, W1008, st1008⟩ := stB X1004 hx hZ e1004 Ar1008 (j := (1 : Int32)) hin1008 (g := (mkF m 41 #[.val (.ref a1), .val (.int (0 : Int32)), .val (.int p3), .val (.int v1006), .val (.int (1 : Int32))] [(.int (v1006.toInt8.toInt32)), (.int (1 : Int32)), (.ref a1)])) rfl rfl (hb hby d1_41)
      refine OEnds.st st1008 ?_
      rw [own_b8] at W1008
      have f1009 : Arv Z h1008 a1 k .byte (9 : Int32) [(.int (((p3 &&& (127 : Int32)) ||| (128 : Int32)).toInt8.toInt32)), (.int (v1006.toInt8.toInt32)), (.int f), (.int f), (.int f), (.int f), (.int f), (.int f), (.int f)] (.int (0 : Int32)) := Arv.set Ar1008 q1008 S1008 N1008n H1008 G1008 (fits_nar_byte _) W1008 1 rfl (Nat.le_of_ble_eq_true rfl)
      have N1008 := Fr.snoc X1008 N1004 g_a1
      have KK1008 : Keep h0 h1008 [a1] := KK1004.wr W1008 (Or.inl (List.mem_of_getElem? (i := 0) rfl))
      have Z1008 := Nat.le_trans Z1004 (Keep.of_wr W1008).1
      show OEnds p.tables e below G (T1008.setTop (mkF m 42 #[.val (.ref a1), .val (.int (0 : Int32)), .val (.int p3), .val (.int v1006), .val (.int (1 : Int32))] []))
      refine OEnds.st (fun _ k => XS.iload X1008.here hx rfl (hb hby d1_42) rfl k) ?_
      show OEnds p.tables e below G (T1008.setTop (mkF m 44 #[.val (.ref a1), .val (.int (0 : Int32)), .val (.int p3), .val (.int v1006), .val (.int (1 : Int32))] [(.int (1 : Int32))]))
      refine OEnds.st (fun _ k => XS.iconst X1008.here hx rfl (hb hby d1_44) k) ?_
      show OEnds p.tables e below G (T1008.setTop (mkF m 45 #[.val (.ref a1), .val (.int (0 : Int32)), .val (.int p3), .val (.int v1006), .val (.int (1 : Int32))] [(.int (1 : Int32)), (.int (1 : Int32))]))
      refine OEnds.st (fun _ k => XS.iadd X1008.here hx rfl (hb hby d1_45) rfl k) ?_
      show OEnds p.tables e below G (T1008.setTop (mkF m 46 #[.val (.ref a1), .val (.int (0 : Int32)), .val (.int p3), .val (.int v1006), .val (.int (1 : Int32))] [(.int ((1 : Int32) + (1 : Int32)))]))
      rw [← hG]
      subst hv_v1006
      have u0 : ¬ (p3 &&& (-128 : Int32)) = (0 : Int32) := hc9_1001
      have u1 : ((own_sh p3) &&& (-128 : Int32)) = (0 : Int32) := hc9_1007
      have hq : own_cnt p3 = (2 : Int32) := by simp [own_cnt, u0, u1]
      have hr : ((1 : Int32) + (1 : Int32)) = (0 : Int32) + own_cnt p3 := by first | (rw [hq]; done) | (rw [hq]; decide)
      have x0 : own_el 0 0 p3 f = own_hi p3 := by simp [own_el, own_byte, u0, u1]
      have x1 : own_el 0 1 p3 f = own_lo (own_sh p3) := by simp [own_el, own_byte, u0, u1]
      have x2 : own_el 0 2 p3 f = f := by simp [own_el, own_byte, u0, u1]
      have x3 : own_el 0 3 p3 f = f := by simp [own_el, own_byte, u0, u1]
      have x4 : own_el 0 4 p3 f = f := by simp [own_el, own_byte, u0, u1]
      have x5 : own_el 0 5 p3 f = f := by simp [own_el, own_byte, u0, u1]
      have x6 : own_el 0 6 p3 f = f := by simp [own_el, own_byte, u0, u1]
      have x7 : own_el 0 7 p3 f = f := by simp [own_el, own_byte, u0, u1]
      have x8 : own_el 0 8 p3 f = f := by simp [own_el, own_byte, u0, u1]
      refine OEnds.retI X1008 hx hlk Bd.returns (hb hby d1_46) (by decide) (by decide) ?_
      rw [e1008]
      refine ⟨congrArg (fun z => some (Value.int z)) hr, N1008, KK1008, ?_⟩
      unfold own_els
      rw [x0, x1, x2, x3, x4, x5, x6, x7, x8]
      exact f1009
    · -- pc 9: no
      refine OEnds.st (fun _ k => XS.ifNo X1004.here hx rfl (hb hby d1_9) rfl ((if0 _ _).trans (feq hc9_1007).1) k) ?_
      show OEnds p.tables e below G (T1004.setTop (mkF m 12 #[.val (.ref a1), .val (.int (0 : Int32)), .val (.int p3), .val (.int v1006), .val (.int (1 : Int32))] []))
      refine OEnds.st (fun _ k => XS.aloadN X1004.here hx rfl (hb hby d1_12) rfl rfl k) ?_
      show OEnds p.tables e below G (T1004.setTop (mkF m 13 #[.val (.ref a1), .val (.int (0 : Int32)), .val (.int p3), .val (.int v1006), .val (.int (1 : Int32))] [(.ref a1)]))
      refine OEnds.st (fun _ k => XS.iload X1004.here hx rfl (hb hby d1_13) rfl k) ?_
      show OEnds p.tables e below G (T1004.setTop (mkF m 15 #[.val (.ref a1), .val (.int (0 : Int32)), .val (.int p3), .val (.int v1006), .val (.int (1 : Int32))] [(.int (1 : Int32)), (.ref a1)]))
      refine OEnds.st (fun _ k => XS.iloadN X1004.here hx rfl (hb hby d1_15) rfl k) ?_
      show OEnds p.tables e below G (T1004.setTop (mkF m 16 #[.val (.ref a1), .val (.int (0 : Int32)), .val (.int p3), .val (.int v1006), .val (.int (1 : Int32))] [(.int v1006), (.int (1 : Int32)), (.ref a1)]))
      refine OEnds.st (fun _ k => XS.bipush X1004.here hx rfl (hb hby d1_16) k) ?_
      show OEnds p.tables e below G (T1004.setTop (mkF m 18 #[.val (.ref a1), .val (.int (0 : Int32)), .val (.int p3), .val (.int v1006), .val (.int (1 : Int32))] [(.int (127 : Int32)), (.int v1006), (.int (1 : Int32)), (.ref a1)]))
      refine OEnds.st (fun _ k => XS.iand X1004.here hx rfl (hb hby d1_18) rfl k) ?_
      show OEnds p.tables e below G (T1004.setTop (mkF m 19 #[.val (.ref a1), .val (.int (0 : Int32)), .val (.int p3), .val (.int v1006), .val (.int (1 : Int32))] [(.int (v1006 &&& (127 : Int32))), (.int (1 : Int32)), (.ref a1)]))
      refine OEnds.st (fun _ k => XS.sipush X1004.here hx rfl (hb hby d1_19) k) ?_
      show OEnds p.tables e below G (T1004.setTop (mkF m 22 #[.val (.ref a1), .val (.int (0 : Int32)), .val (.int p3), .val (.int v1006), .val (.int (1 : Int32))] [(.int (128 : Int32)), (.int (v1006 &&& (127 : Int32))), (.int (1 : Int32)), (.ref a1)]))
      refine OEnds.st (fun _ k => XS.ior X1004.here hx rfl (hb hby d1_22) rfl k) ?_
      show OEnds p.tables e below G (T1004.setTop (mkF m 23 #[.val (.ref a1), .val (.int (0 : Int32)), .val (.int p3), .val (.int v1006), .val (.int (1 : Int32))] [(.int ((v1006 &&& (127 : Int32)) ||| (128 : Int32))), (.int (1 : Int32)), (.ref a1)]))
      refine OEnds.st (fun _ k => XS.i2b X1004.here hx rfl (hb hby d1_23) rfl k) ?_
      show OEnds p.tables e below G (T1004.setTop (mkF m 24 #[.val (.ref a1), .val (.int (0 : Int32)), .val (.int p3), .val (.int v1006), .val (.int (1 : Int32))] [(.int (((v1006 &&& (127 : Int32)) ||| (128 : Int32)).toInt8.toInt32)), (.int (1 : Int32)), (.ref a1)]))
      obtain ⟨cl1010, Ar1010, q1010, S1010, N1010n, H1010, G1010⟩ := id f1005
      have hin1010 : ¬ ((1 : Int32) < 0 ∨ cl1010.slots.size ≤ ((1 : Int32)).toNatClampNeg) := inb_of S1010 ⟨by decide, by decide⟩
      obtain ⟨T1010, h1010, X1010, e1010, W1010, st1010⟩ := stB X1004 hx hZ e1004 Ar1010 (j := (1 : Int32)) hin1010 (g := (mkF m 24 #[.val (.ref a1), .val (.int (0 : Int32)), .val (.int p3), .val (.int v1006), .val (.int (1 : Int32))] [(.int (((v1006 &&& (127 : Int32)) ||| (128 : Int32)).toInt8.toInt32)), (.int (1 : Int32)), (.ref a1)])) rfl rfl (hb hby d1_24)
      refine OEnds.st st1010 ?_
      rw [own_b8] at W1010
      have f1011 : Arv Z h1010 a1 k .byte (9 : Int32) [(.int (((p3 &&& (127 : Int32)) ||| (128 : Int32)).toInt8.toInt32)), (.int (((v1006 &&& (127 : Int32)) ||| (128 : Int32)).toInt8.toInt32)), (.int f), (.int f), (.int f), (.int f), (.int f), (.int f), (.int f)] (.int (0 : Int32)) := Arv.set Ar1010 q1010 S1010 N1010n H1010 G1010 (fits_nar_byte _) W1010 1 rfl (Nat.le_of_ble_eq_true rfl)
      have N1010 := Fr.snoc X1010 N1004 g_a1
      have KK1010 : Keep h0 h1010 [a1] := KK1004.wr W1010 (Or.inl (List.mem_of_getElem? (i := 0) rfl))
      have Z1010 := Nat.le_trans Z1004 (Keep.of_wr W1010).1
      show OEnds p.tables e below G (T1010.setTop (mkF m 25 #[.val (.ref a1), .val (.int (0 : Int32)), .val (.int p3), .val (.int v1006), .val (.int (1 : Int32))] []))
      refine OEnds.st (fun _ k => XS.iinc X1010.here hx rfl (hb hby d1_25) rfl (l' := #[.val (.ref a1), .val (.int (0 : Int32)), .val (.int p3), .val (.int v1006), .val (.int ((1 : Int32) + (1 : Int32)))]) rfl k) ?_
      show OEnds p.tables e below G (T1010.setTop (mkF m 28 #[.val (.ref a1), .val (.int (0 : Int32)), .val (.int p3), .val (.int v1006), .val (.int ((1 : Int32) + (1 : Int32)))] []))
      rw [show ((1 : Int32) + (1 : Int32)) = (2 : Int32) from by decide]
      show OEnds p.tables e below G (T1010.setTop (mkF m 28 #[.val (.ref a1), .val (.int (0 : Int32)), .val (.int p3), .val (.int v1006), .val (.int (2 : Int32))] []))
      refine OEnds.st (fun _ k => XS.iloadN X1010.here hx rfl (hb hby d1_28) rfl k) ?_
      show OEnds p.tables e below G (T1010.setTop (mkF m 29 #[.val (.ref a1), .val (.int (0 : Int32)), .val (.int p3), .val (.int v1006), .val (.int (2 : Int32))] [(.int v1006)]))
      refine OEnds.st (fun _ k => XS.bipush X1010.here hx rfl (hb hby d1_29) k) ?_
      show OEnds p.tables e below G (T1010.setTop (mkF m 31 #[.val (.ref a1), .val (.int (0 : Int32)), .val (.int p3), .val (.int v1006), .val (.int (2 : Int32))] [(.int (7 : Int32)), (.int v1006)]))
      refine OEnds.st (fun _ k => XS.iushr X1010.here hx rfl (hb hby d1_31) rfl k) ?_
      show OEnds p.tables e below G (T1010.setTop (mkF m 32 #[.val (.ref a1), .val (.int (0 : Int32)), .val (.int p3), .val (.int v1006), .val (.int (2 : Int32))] [(.int ((v1006.toUInt32 >>> ((7 : Int32) &&& 31).toUInt32).toInt32))]))
      refine OEnds.st (fun _ k => XS.istoreN X1010.here hx rfl (hb hby d1_32) rfl (l' := #[.val (.ref a1), .val (.int (0 : Int32)), .val (.int p3), .val (.int ((v1006.toUInt32 >>> ((7 : Int32) &&& 31).toUInt32).toInt32)), .val (.int (2 : Int32))]) rfl k) ?_
      show OEnds p.tables e below G (T1010.setTop (mkF m 33 #[.val (.ref a1), .val (.int (0 : Int32)), .val (.int p3), .val (.int ((v1006.toUInt32 >>> ((7 : Int32) &&& 31).toUInt32).toInt32)), .val (.int (2 : Int32))] []))
      generalize hv_v1012 : ((v1006.toUInt32 >>> ((7 : Int32) &&& 31).toUInt32).toInt32) = v1012
      show OEnds p.tables e below G (T1010.setTop (mkF m 33 #[.val (.ref a1), .val (.int (0 : Int32)), .val (.int p3), .val (.int v1012), .val (.int (2 : Int32))] []))
      refine OEnds.st (fun _ k => XS.goto X1010.here hx rfl (pc0 := 33) (pc' := 5) rfl (hb hby d1_33) (by decide) (by decide) k) ?_
      show OEnds p.tables e below G (T1010.setTop (mkF m 5 #[.val (.ref a1), .val (.int (0 : Int32)), .val (.int p3), .val (.int v1012), .val (.int (2 : Int32))] []))
      refine OEnds.st (fun _ k => XS.iloadN X1010.here hx rfl (hb hby d1_5) rfl k) ?_
      show OEnds p.tables e below G (T1010.setTop (mkF m 6 #[.val (.ref a1), .val (.int (0 : Int32)), .val (.int p3), .val (.int v1012), .val (.int (2 : Int32))] [(.int v1012)]))
      refine OEnds.st (fun _ k => XS.bipush X1010.here hx rfl (hb hby d1_6) k) ?_
      show OEnds p.tables e below G (T1010.setTop (mkF m 8 #[.val (.ref a1), .val (.int (0 : Int32)), .val (.int p3), .val (.int v1012), .val (.int (2 : Int32))] [(.int (-128 : Int32)), (.int v1012)]))
      refine OEnds.st (fun _ k => XS.iand X1010.here hx rfl (hb hby d1_8) rfl k) ?_
      show OEnds p.tables e below G (T1010.setTop (mkF m 9 #[.val (.ref a1), .val (.int (0 : Int32)), .val (.int p3), .val (.int v1012), .val (.int (2 : Int32))] [(.int (v1012 &&& (-128 : Int32)))]))
      by_cases hc9_1013 : (v1012 &&& (-128 : Int32)) = (0 : Int32)
      · -- pc 9: yes
        refine OEnds.st (fun _ k => XS.ifYes X1010.here hx rfl (pc0 := 9) (pc' := 36) rfl (hb hby d1_9) rfl ((if0 _ _).trans (teq hc9_1013).1) (by decide) (by decide) k) ?_
        show OEnds p.tables e below G (T1010.setTop (mkF m 36 #[.val (.ref a1), .val (.int (0 : Int32)), .val (.int p3), .val (.int v1012), .val (.int (2 : Int32))] []))
        refine OEnds.st (fun _ k => XS.aloadN X1010.here hx rfl (hb hby d1_36) rfl rfl k) ?_
        show OEnds p.tables e below G (T1010.setTop (mkF m 37 #[.val (.ref a1), .val (.int (0 : Int32)), .val (.int p3), .val (.int v1012), .val (.int (2 : Int32))] [(.ref a1)]))
        refine OEnds.st (fun _ k => XS.iload X1010.here hx rfl (hb hby d1_37) rfl k) ?_
        show OEnds p.tables e below G (T1010.setTop (mkF m 39 #[.val (.ref a1), .val (.int (0 : Int32)), .val (.int p3), .val (.int v1012), .val (.int (2 : Int32))] [(.int (2 : Int32)), (.ref a1)]))
        refine OEnds.st (fun _ k => XS.iloadN X1010.here hx rfl (hb hby d1_39) rfl k) ?_
        show OEnds p.tables e below G (T1010.setTop (mkF m 40 #[.val (.ref a1), .val (.int (0 : Int32)), .val (.int p3), .val (.int v1012), .val (.int (2 : Int32))] [(.int v1012), (.int (2 : Int32)), (.ref a1)]))
        refine OEnds.st (fun _ k => XS.i2b X1010.here hx rfl (hb hby d1_40) rfl k) ?_
        show OEnds p.tables e below G (T1010.setTop (mkF m 41 #[.val (.ref a1), .val (.int (0 : Int32)), .val (.int p3), .val (.int v1012), .val (.int (2 : Int32))] [(.int (v1012.toInt8.toInt32)), (.int (2 : Int32)), (.ref a1)]))
        obtain ⟨cl1014, Ar1014, q1014, S1014, N1014n, H1014, G1014⟩ := id f1011
        have hin1014 : ¬ ((2 : Int32) < 0 ∨ cl1014.slots.size ≤ ((2 : Int32)).toNatClampNeg) := inb_of S1014 ⟨by decide, by decide⟩
        obtain ⟨T1014, h1014, X1014, e1014, W1014, st1014⟩ := stB X1010 hx hZ e1010 Ar1014 (j := (2 : Int32)) hin1014 (g := (mkF m 41 #[.val (.ref a1), .val (.int (0 : Int32)), .val (.int p3), .val (.int v1012), .val (.int (2 : Int32))] [(.int (v1012.toInt8.toInt32)), (.int (2 : Int32)), (.ref a1)])) rfl rfl (hb hby d1_41)
        refine OEnds.st st1014 ?_
        rw [own_b8] at W1014
        have f1015 : Arv Z h1014 a1 k .byte (9 : Int32) [(.int (((p3 &&& (127 : Int32)) ||| (128 : Int32)).toInt8.toInt32)), (.int (((v1006 &&& (127 : Int32)) ||| (128 : Int32)).toInt8.toInt32)), (.int (v1012.toInt8.toInt32)), (.int f), (.int f), (.int f), (.int f), (.int f), (.int f)] (.int (0 : Int32)) := Arv.set Ar1014 q1014 S1014 N1014n H1014 G1014 (fits_nar_byte _) W1014 2 rfl (Nat.le_of_ble_eq_true rfl)
        have N1014 := Fr.snoc X1014 N1010 g_a1
        have KK1014 : Keep h0 h1014 [a1] := KK1010.wr W1014 (Or.inl (List.mem_of_getElem? (i := 0) rfl))
        have Z1014 := Nat.le_trans Z1010 (Keep.of_wr W1014).1
        show OEnds p.tables e below G (T1014.setTop (mkF m 42 #[.val (.ref a1), .val (.int (0 : Int32)), .val (.int p3), .val (.int v1012), .val (.int (2 : Int32))] []))
        refine OEnds.st (fun _ k => XS.iload X1014.here hx rfl (hb hby d1_42) rfl k) ?_
        show OEnds p.tables e below G (T1014.setTop (mkF m 44 #[.val (.ref a1), .val (.int (0 : Int32)), .val (.int p3), .val (.int v1012), .val (.int (2 : Int32))] [(.int (2 : Int32))]))
        refine OEnds.st (fun _ k => XS.iconst X1014.here hx rfl (hb hby d1_44) k) ?_
        show OEnds p.tables e below G (T1014.setTop (mkF m 45 #[.val (.ref a1), .val (.int (0 : Int32)), .val (.int p3), .val (.int v1012), .val (.int (2 : Int32))] [(.int (1 : Int32)), (.int (2 : Int32))]))
        refine OEnds.st (fun _ k => XS.iadd X1014.here hx rfl (hb hby d1_45) rfl k) ?_
        show OEnds p.tables e below G (T1014.setTop (mkF m 46 #[.val (.ref a1), .val (.int (0 : Int32)), .val (.int p3), .val (.int v1012), .val (.int (2 : Int32))] [(.int ((2 : Int32) + (1 : Int32)))]))
        rw [← hG]
        subst hv_v1006 hv_v1012
        have u0 : ¬ (p3 &&& (-128 : Int32)) = (0 : Int32) := hc9_1001
        have u1 : ¬ ((own_sh p3) &&& (-128 : Int32)) = (0 : Int32) := hc9_1007
        have u2 : ((own_sh (own_sh p3)) &&& (-128 : Int32)) = (0 : Int32) := hc9_1013
        have hq : own_cnt p3 = (3 : Int32) := by simp [own_cnt, u0, u1, u2]
        have hr : ((2 : Int32) + (1 : Int32)) = (0 : Int32) + own_cnt p3 := by first | (rw [hq]; done) | (rw [hq]; decide)
        have x0 : own_el 0 0 p3 f = own_hi p3 := by simp [own_el, own_byte, u0, u1, u2]
        have x1 : own_el 0 1 p3 f = own_hi (own_sh p3) := by simp [own_el, own_byte, u0, u1, u2]
        have x2 : own_el 0 2 p3 f = own_lo (own_sh (own_sh p3)) := by simp [own_el, own_byte, u0, u1, u2]
        have x3 : own_el 0 3 p3 f = f := by simp [own_el, own_byte, u0, u1, u2]
        have x4 : own_el 0 4 p3 f = f := by simp [own_el, own_byte, u0, u1, u2]
        have x5 : own_el 0 5 p3 f = f := by simp [own_el, own_byte, u0, u1, u2]
        have x6 : own_el 0 6 p3 f = f := by simp [own_el, own_byte, u0, u1, u2]
        have x7 : own_el 0 7 p3 f = f := by simp [own_el, own_byte, u0, u1, u2]
        have x8 : own_el 0 8 p3 f = f := by simp [own_el, own_byte, u0, u1, u2]
        refine OEnds.retI X1014 hx hlk Bd.returns (hb hby d1_46) (by decide) (by decide) ?_
        rw [e1014]
        refine ⟨congrArg (fun z => some (Value.int z)) hr, N1014, KK1014, ?_⟩
        unfold own_els
        rw [x0, x1, x2, x3, x4, x5, x6, x7, x8]
        exact f1015
      · -- pc 9: no
        refine OEnds.st (fun _ k => XS.ifNo X1010.here hx rfl (hb hby d1_9) rfl ((if0 _ _).trans (feq hc9_1013).1) k) ?_
        show OEnds p.tables e below G (T1010.setTop (mkF m 12 #[.val (.ref a1), .val (.int (0 : Int32)), .val (.int p3), .val (.int v1012), .val (.int (2 : Int32))] []))
        refine OEnds.st (fun _ k => XS.aloadN X1010.here hx rfl (hb hby d1_12) rfl rfl k) ?_
        show OEnds p.tables e below G (T1010.setTop (mkF m 13 #[.val (.ref a1), .val (.int (0 : Int32)), .val (.int p3), .val (.int v1012), .val (.int (2 : Int32))] [(.ref a1)]))
        refine OEnds.st (fun _ k => XS.iload X1010.here hx rfl (hb hby d1_13) rfl k) ?_
        show OEnds p.tables e below G (T1010.setTop (mkF m 15 #[.val (.ref a1), .val (.int (0 : Int32)), .val (.int p3), .val (.int v1012), .val (.int (2 : Int32))] [(.int (2 : Int32)), (.ref a1)]))
        refine OEnds.st (fun _ k => XS.iloadN X1010.here hx rfl (hb hby d1_15) rfl k) ?_
        show OEnds p.tables e below G (T1010.setTop (mkF m 16 #[.val (.ref a1), .val (.int (0 : Int32)), .val (.int p3), .val (.int v1012), .val (.int (2 : Int32))] [(.int v1012), (.int (2 : Int32)), (.ref a1)]))
        refine OEnds.st (fun _ k => XS.bipush X1010.here hx rfl (hb hby d1_16) k) ?_
        show OEnds p.tables e below G (T1010.setTop (mkF m 18 #[.val (.ref a1), .val (.int (0 : Int32)), .val (.int p3), .val (.int v1012), .val (.int (2 : Int32))] [(.int (127 : Int32)), (.int v1012), (.int (2 : Int32)), (.ref a1)]))
        refine OEnds.st (fun _ k => XS.iand X1010.here hx rfl (hb hby d1_18) rfl k) ?_
        show OEnds p.tables e below G (T1010.setTop (mkF m 19 #[.val (.ref a1), .val (.int (0 : Int32)), .val (.int p3), .val (.int v1012), .val (.int (2 : Int32))] [(.int (v1012 &&& (127 : Int32))), (.int (2 : Int32)), (.ref a1)]))
        refine OEnds.st (fun _ k => XS.sipush X1010.here hx rfl (hb hby d1_19) k) ?_
        show OEnds p.tables e below G (T1010.setTop (mkF m 22 #[.val (.ref a1), .val (.int (0 : Int32)), .val (.int p3), .val (.int v1012), .val (.int (2 : Int32))] [(.int (128 : Int32)), (.int (v1012 &&& (127 : Int32))), (.int (2 : Int32)), (.ref a1)]))
        refine OEnds.st (fun _ k => XS.ior X1010.here hx rfl (hb hby d1_22) rfl k) ?_
        show OEnds p.tables e below G (T1010.setTop (mkF m 23 #[.val (.ref a1), .val (.int (0 : Int32)), .val (.int p3), .val (.int v1012), .val (.int (2 : Int32))] [(.int ((v1012 &&& (127 : Int32)) ||| (128 : Int32))), (.int (2 : Int32)), (.ref a1)]))
        refine OEnds.st (fun _ k => XS.i2b X1010.here hx rfl (hb hby d1_23) rfl k) ?_
        show OEnds p.tables e below G (T1010.setTop (mkF m 24 #[.val (.ref a1), .val (.int (0 : Int32)), .val (.int p3), .val (.int v1012), .val (.int (2 : Int32))] [(.int (((v1012 &&& (127 : Int32)) ||| (128 : Int32)).toInt8.toInt32)), (.int (2 : Int32)), (.ref a1)]))
        obtain ⟨cl1016, Ar1016, q1016, S1016, N1016n, H1016, G1016⟩ := id f1011
        have hin1016 : ¬ ((2 : Int32) < 0 ∨ cl1016.slots.size ≤ ((2 : Int32)).toNatClampNeg) := inb_of S1016 ⟨by decide, by decide⟩
        obtain ⟨T1016, h1016, X1016, e1016, W1016, st1016⟩ := stB X1010 hx hZ e1010 Ar1016 (j := (2 : Int32)) hin1016 (g := (mkF m 24 #[.val (.ref a1), .val (.int (0 : Int32)), .val (.int p3), .val (.int v1012), .val (.int (2 : Int32))] [(.int (((v1012 &&& (127 : Int32)) ||| (128 : Int32)).toInt8.toInt32)), (.int (2 : Int32)), (.ref a1)])) rfl rfl (hb hby d1_24)
        refine OEnds.st st1016 ?_
        rw [own_b8] at W1016
        have f1017 : Arv Z h1016 a1 k .byte (9 : Int32) [(.int (((p3 &&& (127 : Int32)) ||| (128 : Int32)).toInt8.toInt32)), (.int (((v1006 &&& (127 : Int32)) ||| (128 : Int32)).toInt8.toInt32)), (.int (((v1012 &&& (127 : Int32)) ||| (128 : Int32)).toInt8.toInt32)), (.int f), (.int f), (.int f), (.int f), (.int f), (.int f)] (.int (0 : Int32)) := Arv.set Ar1016 q1016 S1016 N1016n H1016 G1016 (fits_nar_byte _) W1016 2 rfl (Nat.le_of_ble_eq_true rfl)
        have N1016 := Fr.snoc X1016 N1010 g_a1
        have KK1016 : Keep h0 h1016 [a1] := KK1010.wr W1016 (Or.inl (List.mem_of_getElem? (i := 0) rfl))
        have Z1016 := Nat.le_trans Z1010 (Keep.of_wr W1016).1
        show OEnds p.tables e below G (T1016.setTop (mkF m 25 #[.val (.ref a1), .val (.int (0 : Int32)), .val (.int p3), .val (.int v1012), .val (.int (2 : Int32))] []))
        refine OEnds.st (fun _ k => XS.iinc X1016.here hx rfl (hb hby d1_25) rfl (l' := #[.val (.ref a1), .val (.int (0 : Int32)), .val (.int p3), .val (.int v1012), .val (.int ((2 : Int32) + (1 : Int32)))]) rfl k) ?_
        show OEnds p.tables e below G (T1016.setTop (mkF m 28 #[.val (.ref a1), .val (.int (0 : Int32)), .val (.int p3), .val (.int v1012), .val (.int ((2 : Int32) + (1 : Int32)))] []))
        rw [show ((2 : Int32) + (1 : Int32)) = (3 : Int32) from by decide]
        show OEnds p.tables e below G (T1016.setTop (mkF m 28 #[.val (.ref a1), .val (.int (0 : Int32)), .val (.int p3), .val (.int v1012), .val (.int (3 : Int32))] []))
        refine OEnds.st (fun _ k => XS.iloadN X1016.here hx rfl (hb hby d1_28) rfl k) ?_
        show OEnds p.tables e below G (T1016.setTop (mkF m 29 #[.val (.ref a1), .val (.int (0 : Int32)), .val (.int p3), .val (.int v1012), .val (.int (3 : Int32))] [(.int v1012)]))
        refine OEnds.st (fun _ k => XS.bipush X1016.here hx rfl (hb hby d1_29) k) ?_
        show OEnds p.tables e below G (T1016.setTop (mkF m 31 #[.val (.ref a1), .val (.int (0 : Int32)), .val (.int p3), .val (.int v1012), .val (.int (3 : Int32))] [(.int (7 : Int32)), (.int v1012)]))
        refine OEnds.st (fun _ k => XS.iushr X1016.here hx rfl (hb hby d1_31) rfl k) ?_
        show OEnds p.tables e below G (T1016.setTop (mkF m 32 #[.val (.ref a1), .val (.int (0 : Int32)), .val (.int p3), .val (.int v1012), .val (.int (3 : Int32))] [(.int ((v1012.toUInt32 >>> ((7 : Int32) &&& 31).toUInt32).toInt32))]))
        refine OEnds.st (fun _ k => XS.istoreN X1016.here hx rfl (hb hby d1_32) rfl (l' := #[.val (.ref a1), .val (.int (0 : Int32)), .val (.int p3), .val (.int ((v1012.toUInt32 >>> ((7 : Int32) &&& 31).toUInt32).toInt32)), .val (.int (3 : Int32))]) rfl k) ?_
        show OEnds p.tables e below G (T1016.setTop (mkF m 33 #[.val (.ref a1), .val (.int (0 : Int32)), .val (.int p3), .val (.int ((v1012.toUInt32 >>> ((7 : Int32) &&& 31).toUInt32).toInt32)), .val (.int (3 : Int32))] []))
        generalize hv_v1018 : ((v1012.toUInt32 >>> ((7 : Int32) &&& 31).toUInt32).toInt32) = v1018
        show OEnds p.tables e below G (T1016.setTop (mkF m 33 #[.val (.ref a1), .val (.int (0 : Int32)), .val (.int p3), .val (.int v1018), .val (.int (3 : Int32))] []))
        refine OEnds.st (fun _ k => XS.goto X1016.here hx rfl (pc0 := 33) (pc' := 5) rfl (hb hby d1_33) (by decide) (by decide) k) ?_
        show OEnds p.tables e below G (T1016.setTop (mkF m 5 #[.val (.ref a1), .val (.int (0 : Int32)), .val (.int p3), .val (.int v1018), .val (.int (3 : Int32))] []))
        refine OEnds.st (fun _ k => XS.iloadN X1016.here hx rfl (hb hby d1_5) rfl k) ?_
        show OEnds p.tables e below G (T1016.setTop (mkF m 6 #[.val (.ref a1), .val (.int (0 : Int32)), .val (.int p3), .val (.int v1018), .val (.int (3 : Int32))] [(.int v1018)]))
        refine OEnds.st (fun _ k => XS.bipush X1016.here hx rfl (hb hby d1_6) k) ?_
        show OEnds p.tables e below G (T1016.setTop (mkF m 8 #[.val (.ref a1), .val (.int (0 : Int32)), .val (.int p3), .val (.int v1018), .val (.int (3 : Int32))] [(.int (-128 : Int32)), (.int v1018)]))
        refine OEnds.st (fun _ k => XS.iand X1016.here hx rfl (hb hby d1_8) rfl k) ?_
        show OEnds p.tables e below G (T1016.setTop (mkF m 9 #[.val (.ref a1), .val (.int (0 : Int32)), .val (.int p3), .val (.int v1018), .val (.int (3 : Int32))] [(.int (v1018 &&& (-128 : Int32)))]))
        by_cases hc9_1019 : (v1018 &&& (-128 : Int32)) = (0 : Int32)
        · -- pc 9: yes
          refine OEnds.st (fun _ k => XS.ifYes X1016.here hx rfl (pc0 := 9) (pc' := 36) rfl (hb hby d1_9) rfl ((if0 _ _).trans (teq hc9_1019).1) (by decide) (by decide) k) ?_
          show OEnds p.tables e below G (T1016.setTop (mkF m 36 #[.val (.ref a1), .val (.int (0 : Int32)), .val (.int p3), .val (.int v1018), .val (.int (3 : Int32))] []))
          refine OEnds.st (fun _ k => XS.aloadN X1016.here hx rfl (hb hby d1_36) rfl rfl k) ?_
          show OEnds p.tables e below G (T1016.setTop (mkF m 37 #[.val (.ref a1), .val (.int (0 : Int32)), .val (.int p3), .val (.int v1018), .val (.int (3 : Int32))] [(.ref a1)]))
          refine OEnds.st (fun _ k => XS.iload X1016.here hx rfl (hb hby d1_37) rfl k) ?_
          show OEnds p.tables e below G (T1016.setTop (mkF m 39 #[.val (.ref a1), .val (.int (0 : Int32)), .val (.int p3), .val (.int v1018), .val (.int (3 : Int32))] [(.int (3 : Int32)), (.ref a1)]))
          refine OEnds.st (fun _ k => XS.iloadN X1016.here hx rfl (hb hby d1_39) rfl k) ?_
          show OEnds p.tables e below G (T1016.setTop (mkF m 40 #[.val (.ref a1), .val (.int (0 : Int32)), .val (.int p3), .val (.int v1018), .val (.int (3 : Int32))] [(.int v1018), (.int (3 : Int32)), (.ref a1)]))
          refine OEnds.st (fun _ k => XS.i2b X1016.here hx rfl (hb hby d1_40) rfl k) ?_
          show OEnds p.tables e below G (T1016.setTop (mkF m 41 #[.val (.ref a1), .val (.int (0 : Int32)), .val (.int p3), .val (.int v1018), .val (.int (3 : Int32))] [(.int (v1018.toInt8.toInt32)), (.int (3 : Int32)), (.ref a1)]))
          obtain ⟨cl1020, Ar1020, q1020, S1020, N1020n, H1020, G1020⟩ := id f1017
          have hin1020 : ¬ ((3 : Int32) < 0 ∨ cl1020.slots.size ≤ ((3 : Int32)).toNatClampNeg) := inb_of S1020 ⟨by decide, by decide⟩
          obtain ⟨T1020, h1020, X1020, e1020, W1020, st1020⟩ := stB X1016 hx hZ e1016 Ar1020 (j := (3 : Int32)) hin1020 (g := (mkF m 41 #[.val (.ref a1), .val (.int (0 : Int32)), .val (.int p3), .val (.int v1018), .val (.int (3 : Int32))] [(.int (v1018.toInt8.toInt32)), (.int (3 : Int32)), (.ref a1)])) rfl rfl (hb hby d1_41)
          refine OEnds.st st1020 ?_
          rw [own_b8] at W1020
          have f1021 : Arv Z h1020 a1 k .byte (9 : Int32) [(.int (((p3 &&& (127 : Int32)) ||| (128 : Int32)).toInt8.toInt32)), (.int (((v1006 &&& (127 : Int32)) ||| (128 : Int32)).toInt8.toInt32)), (.int (((v1012 &&& (127 : Int32)) ||| (128 : Int32)).toInt8.toInt32)), (.int (v1018.toInt8.toInt32)), (.int f), (.int f), (.int f), (.int f), (.int f)] (.int (0 : Int32)) := Arv.set Ar1020 q1020 S1020 N1020n H1020 G1020 (fits_nar_byte _) W1020 3 rfl (Nat.le_of_ble_eq_true rfl)
          have N1020 := Fr.snoc X1020 N1016 g_a1
          have KK1020 : Keep h0 h1020 [a1] := KK1016.wr W1020 (Or.inl (List.mem_of_getElem? (i := 0) rfl))
          have Z1020 := Nat.le_trans Z1016 (Keep.of_wr W1020).1
          show OEnds p.tables e below G (T1020.setTop (mkF m 42 #[.val (.ref a1), .val (.int (0 : Int32)), .val (.int p3), .val (.int v1018), .val (.int (3 : Int32))] []))
          refine OEnds.st (fun _ k => XS.iload X1020.here hx rfl (hb hby d1_42) rfl k) ?_
          show OEnds p.tables e below G (T1020.setTop (mkF m 44 #[.val (.ref a1), .val (.int (0 : Int32)), .val (.int p3), .val (.int v1018), .val (.int (3 : Int32))] [(.int (3 : Int32))]))
          refine OEnds.st (fun _ k => XS.iconst X1020.here hx rfl (hb hby d1_44) k) ?_
          show OEnds p.tables e below G (T1020.setTop (mkF m 45 #[.val (.ref a1), .val (.int (0 : Int32)), .val (.int p3), .val (.int v1018), .val (.int (3 : Int32))] [(.int (1 : Int32)), (.int (3 : Int32))]))
          refine OEnds.st (fun _ k => XS.iadd X1020.here hx rfl (hb hby d1_45) rfl k) ?_
          show OEnds p.tables e below G (T1020.setTop (mkF m 46 #[.val (.ref a1), .val (.int (0 : Int32)), .val (.int p3), .val (.int v1018), .val (.int (3 : Int32))] [(.int ((3 : Int32) + (1 : Int32)))]))
          rw [← hG]
          subst hv_v1006 hv_v1012 hv_v1018
          have u0 : ¬ (p3 &&& (-128 : Int32)) = (0 : Int32) := hc9_1001
          have u1 : ¬ ((own_sh p3) &&& (-128 : Int32)) = (0 : Int32) := hc9_1007
          have u2 : ¬ ((own_sh (own_sh p3)) &&& (-128 : Int32)) = (0 : Int32) := hc9_1013
          have u3 : ((own_sh (own_sh (own_sh p3))) &&& (-128 : Int32)) = (0 : Int32) := hc9_1019
          have hq : own_cnt p3 = (4 : Int32) := by simp [own_cnt, u0, u1, u2, u3]
          have hr : ((3 : Int32) + (1 : Int32)) = (0 : Int32) + own_cnt p3 := by first | (rw [hq]; done) | (rw [hq]; decide)
          have x0 : own_el 0 0 p3 f = own_hi p3 := by simp [own_el, own_byte, u0, u1, u2, u3]
          have x1 : own_el 0 1 p3 f = own_hi (own_sh p3) := by simp [own_el, own_byte, u0, u1, u2, u3]
          have x2 : own_el 0 2 p3 f = own_hi (own_sh (own_sh p3)) := by simp [own_el, own_byte, u0, u1, u2, u3]
          have x3 : own_el 0 3 p3 f = own_lo (own_sh (own_sh (own_sh p3))) := by simp [own_el, own_byte, u0, u1, u2, u3]
          have x4 : own_el 0 4 p3 f = f := by simp [own_el, own_byte, u0, u1, u2, u3]
          have x5 : own_el 0 5 p3 f = f := by simp [own_el, own_byte, u0, u1, u2, u3]
          have x6 : own_el 0 6 p3 f = f := by simp [own_el, own_byte, u0, u1, u2, u3]
          have x7 : own_el 0 7 p3 f = f := by simp [own_el, own_byte, u0, u1, u2, u3]
          have x8 : own_el 0 8 p3 f = f := by simp [own_el, own_byte, u0, u1, u2, u3]
          refine OEnds.retI X1020 hx hlk Bd.returns (hb hby d1_46) (by decide) (by decide) ?_
          rw [e1020]
          refine ⟨congrArg (fun z => some (Value.int z)) hr, N1020, KK1020, ?_⟩
          unfold own_els
          rw [x0, x1, x2, x3, x4, x5, x6, x7, x8]
          exact f1021
        · -- pc 9: no
          refine OEnds.st (fun _ k => XS.ifNo X1016.here hx rfl (hb hby d1_9) rfl ((if0 _ _).trans (feq hc9_1019).1) k) ?_
          show OEnds p.tables e below G (T1016.setTop (mkF m 12 #[.val (.ref a1), .val (.int (0 : Int32)), .val (.int p3), .val (.int v1018), .val (.int (3 : Int32))] []))
          refine OEnds.st (fun _ k => XS.aloadN X1016.here hx rfl (hb hby d1_12) rfl rfl k) ?_
          show OEnds p.tables e below G (T1016.setTop (mkF m 13 #[.val (.ref a1), .val (.int (0 : Int32)), .val (.int p3), .val (.int v1018), .val (.int (3 : Int32))] [(.ref a1)]))
          refine OEnds.st (fun _ k => XS.iload X1016.here hx rfl (hb hby d1_13) rfl k) ?_
          show OEnds p.tables e below G (T1016.setTop (mkF m 15 #[.val (.ref a1), .val (.int (0 : Int32)), .val (.int p3), .val (.int v1018), .val (.int (3 : Int32))] [(.int (3 : Int32)), (.ref a1)]))
          refine OEnds.st (fun _ k => XS.iloadN X1016.here hx rfl (hb hby d1_15) rfl k) ?_
          show OEnds p.tables e below G (T1016.setTop (mkF m 16 #[.val (.ref a1), .val (.int (0 : Int32)), .val (.int p3), .val (.int v1018), .val (.int (3 : Int32))] [(.int v1018), (.int (3 : Int32)), (.ref a1)]))
          refine OEnds.st (fun _ k => XS.bipush X1016.here hx rfl (hb hby d1_16) k) ?_
          show OEnds p.tables e below G (T1016.setTop (mkF m 18 #[.val (.ref a1), .val (.int (0 : Int32)), .val (.int p3), .val (.int v1018), .val (.int (3 : Int32))] [(.int (127 : Int32)), (.int v1018), (.int (3 : Int32)), (.ref a1)]))
          refine OEnds.st (fun _ k => XS.iand X1016.here hx rfl (hb hby d1_18) rfl k) ?_
          show OEnds p.tables e below G (T1016.setTop (mkF m 19 #[.val (.ref a1), .val (.int (0 : Int32)), .val (.int p3), .val (.int v1018), .val (.int (3 : Int32))] [(.int (v1018 &&& (127 : Int32))), (.int (3 : Int32)), (.ref a1)]))
          refine OEnds.st (fun _ k => XS.sipush X1016.here hx rfl (hb hby d1_19) k) ?_
          show OEnds p.tables e below G (T1016.setTop (mkF m 22 #[.val (.ref a1), .val (.int (0 : Int32)), .val (.int p3), .val (.int v1018), .val (.int (3 : Int32))] [(.int (128 : Int32)), (.int (v1018 &&& (127 : Int32))), (.int (3 : Int32)), (.ref a1)]))
          refine OEnds.st (fun _ k => XS.ior X1016.here hx rfl (hb hby d1_22) rfl k) ?_
          show OEnds p.tables e below G (T1016.setTop (mkF m 23 #[.val (.ref a1), .val (.int (0 : Int32)), .val (.int p3), .val (.int v1018), .val (.int (3 : Int32))] [(.int ((v1018 &&& (127 : Int32)) ||| (128 : Int32))), (.int (3 : Int32)), (.ref a1)]))
          refine OEnds.st (fun _ k => XS.i2b X1016.here hx rfl (hb hby d1_23) rfl k) ?_
          show OEnds p.tables e below G (T1016.setTop (mkF m 24 #[.val (.ref a1), .val (.int (0 : Int32)), .val (.int p3), .val (.int v1018), .val (.int (3 : Int32))] [(.int (((v1018 &&& (127 : Int32)) ||| (128 : Int32)).toInt8.toInt32)), (.int (3 : Int32)), (.ref a1)]))
          obtain ⟨cl1022, Ar1022, q1022, S1022, N1022n, H1022, G1022⟩ := id f1017
          have hin1022 : ¬ ((3 : Int32) < 0 ∨ cl1022.slots.size ≤ ((3 : Int32)).toNatClampNeg) := inb_of S1022 ⟨by decide, by decide⟩
          obtain ⟨T1022, h1022, X1022, e1022, W1022, st1022⟩ := stB X1016 hx hZ e1016 Ar1022 (j := (3 : Int32)) hin1022 (g := (mkF m 24 #[.val (.ref a1), .val (.int (0 : Int32)), .val (.int p3), .val (.int v1018), .val (.int (3 : Int32))] [(.int (((v1018 &&& (127 : Int32)) ||| (128 : Int32)).toInt8.toInt32)), (.int (3 : Int32)), (.ref a1)])) rfl rfl (hb hby d1_24)
          refine OEnds.st st1022 ?_
          rw [own_b8] at W1022
          have f1023 : Arv Z h1022 a1 k .byte (9 : Int32) [(.int (((p3 &&& (127 : Int32)) ||| (128 : Int32)).toInt8.toInt32)), (.int (((v1006 &&& (127 : Int32)) ||| (128 : Int32)).toInt8.toInt32)), (.int (((v1012 &&& (127 : Int32)) ||| (128 : Int32)).toInt8.toInt32)), (.int (((v1018 &&& (127 : Int32)) ||| (128 : Int32)).toInt8.toInt32)), (.int f), (.int f), (.int f), (.int f), (.int f)] (.int (0 : Int32)) := Arv.set Ar1022 q1022 S1022 N1022n H1022 G1022 (fits_nar_byte _) W1022 3 rfl (Nat.le_of_ble_eq_true rfl)
          have N1022 := Fr.snoc X1022 N1016 g_a1
          have KK1022 : Keep h0 h1022 [a1] := KK1016.wr W1022 (Or.inl (List.mem_of_getElem? (i := 0) rfl))
          have Z1022 := Nat.le_trans Z1016 (Keep.of_wr W1022).1
          show OEnds p.tables e below G (T1022.setTop (mkF m 25 #[.val (.ref a1), .val (.int (0 : Int32)), .val (.int p3), .val (.int v1018), .val (.int (3 : Int32))] []))
          refine OEnds.st (fun _ k => XS.iinc X1022.here hx rfl (hb hby d1_25) rfl (l' := #[.val (.ref a1), .val (.int (0 : Int32)), .val (.int p3), .val (.int v1018), .val (.int ((3 : Int32) + (1 : Int32)))]) rfl k) ?_
          show OEnds p.tables e below G (T1022.setTop (mkF m 28 #[.val (.ref a1), .val (.int (0 : Int32)), .val (.int p3), .val (.int v1018), .val (.int ((3 : Int32) + (1 : Int32)))] []))
          rw [show ((3 : Int32) + (1 : Int32)) = (4 : Int32) from by decide]
          show OEnds p.tables e below G (T1022.setTop (mkF m 28 #[.val (.ref a1), .val (.int (0 : Int32)), .val (.int p3), .val (.int v1018), .val (.int (4 : Int32))] []))
          refine OEnds.st (fun _ k => XS.iloadN X1022.here hx rfl (hb hby d1_28) rfl k) ?_
          show OEnds p.tables e below G (T1022.setTop (mkF m 29 #[.val (.ref a1), .val (.int (0 : Int32)), .val (.int p3), .val (.int v1018), .val (.int (4 : Int32))] [(.int v1018)]))
          refine OEnds.st (fun _ k => XS.bipush X1022.here hx rfl (hb hby d1_29) k) ?_
          show OEnds p.tables e below G (T1022.setTop (mkF m 31 #[.val (.ref a1), .val (.int (0 : Int32)), .val (.int p3), .val (.int v1018), .val (.int (4 : Int32))] [(.int (7 : Int32)), (.int v1018)]))
          refine OEnds.st (fun _ k => XS.iushr X1022.here hx rfl (hb hby d1_31) rfl k) ?_
          show OEnds p.tables e below G (T1022.setTop (mkF m 32 #[.val (.ref a1), .val (.int (0 : Int32)), .val (.int p3), .val (.int v1018), .val (.int (4 : Int32))] [(.int ((v1018.toUInt32 >>> ((7 : Int32) &&& 31).toUInt32).toInt32))]))
          refine OEnds.st (fun _ k => XS.istoreN X1022.here hx rfl (hb hby d1_32) rfl (l' := #[.val (.ref a1), .val (.int (0 : Int32)), .val (.int p3), .val (.int ((v1018.toUInt32 >>> ((7 : Int32) &&& 31).toUInt32).toInt32)), .val (.int (4 : Int32))]) rfl k) ?_
          show OEnds p.tables e below G (T1022.setTop (mkF m 33 #[.val (.ref a1), .val (.int (0 : Int32)), .val (.int p3), .val (.int ((v1018.toUInt32 >>> ((7 : Int32) &&& 31).toUInt32).toInt32)), .val (.int (4 : Int32))] []))
          generalize hv_v1024 : ((v1018.toUInt32 >>> ((7 : Int32) &&& 31).toUInt32).toInt32) = v1024
          show OEnds p.tables e below G (T1022.setTop (mkF m 33 #[.val (.ref a1), .val (.int (0 : Int32)), .val (.int p3), .val (.int v1024), .val (.int (4 : Int32))] []))
          refine OEnds.st (fun _ k => XS.goto X1022.here hx rfl (pc0 := 33) (pc' := 5) rfl (hb hby d1_33) (by decide) (by decide) k) ?_
          show OEnds p.tables e below G (T1022.setTop (mkF m 5 #[.val (.ref a1), .val (.int (0 : Int32)), .val (.int p3), .val (.int v1024), .val (.int (4 : Int32))] []))
          refine OEnds.st (fun _ k => XS.iloadN X1022.here hx rfl (hb hby d1_5) rfl k) ?_
          show OEnds p.tables e below G (T1022.setTop (mkF m 6 #[.val (.ref a1), .val (.int (0 : Int32)), .val (.int p3), .val (.int v1024), .val (.int (4 : Int32))] [(.int v1024)]))
          refine OEnds.st (fun _ k => XS.bipush X1022.here hx rfl (hb hby d1_6) k) ?_
          show OEnds p.tables e below G (T1022.setTop (mkF m 8 #[.val (.ref a1), .val (.int (0 : Int32)), .val (.int p3), .val (.int v1024), .val (.int (4 : Int32))] [(.int (-128 : Int32)), (.int v1024)]))
          refine OEnds.st (fun _ k => XS.iand X1022.here hx rfl (hb hby d1_8) rfl k) ?_
          show OEnds p.tables e below G (T1022.setTop (mkF m 9 #[.val (.ref a1), .val (.int (0 : Int32)), .val (.int p3), .val (.int v1024), .val (.int (4 : Int32))] [(.int (v1024 &&& (-128 : Int32)))]))
          have hc9_1025 : (v1024 &&& (-128 : Int32)) = (0 : Int32) := by subst hv_v1006 hv_v1012 hv_v1018 hv_v1024; exact own_five p3
          refine OEnds.st (fun _ k => XS.ifYes X1022.here hx rfl (pc0 := 9) (pc' := 36) rfl (hb hby d1_9) rfl ((if0 _ _).trans (teq hc9_1025).1) (by decide) (by decide) k) ?_
          show OEnds p.tables e below G (T1022.setTop (mkF m 36 #[.val (.ref a1), .val (.int (0 : Int32)), .val (.int p3), .val (.int v1024), .val (.int (4 : Int32))] []))
          refine OEnds.st (fun _ k => XS.aloadN X1022.here hx rfl (hb hby d1_36) rfl rfl k) ?_
          show OEnds p.tables e below G (T1022.setTop (mkF m 37 #[.val (.ref a1), .val (.int (0 : Int32)), .val (.int p3), .val (.int v1024), .val (.int (4 : Int32))] [(.ref a1)]))
          refine OEnds.st (fun _ k => XS.iload X1022.here hx rfl (hb hby d1_37) rfl k) ?_
          show OEnds p.tables e below G (T1022.setTop (mkF m 39 #[.val (.ref a1), .val (.int (0 : Int32)), .val (.int p3), .val (.int v1024), .val (.int (4 : Int32))] [(.int (4 : Int32)), (.ref a1)]))
          refine OEnds.st (fun _ k => XS.iloadN X1022.here hx rfl (hb hby d1_39) rfl k) ?_
          show OEnds p.tables e below G (T1022.setTop (mkF m 40 #[.val (.ref a1), .val (.int (0 : Int32)), .val (.int p3), .val (.int v1024), .val (.int (4 : Int32))] [(.int v1024), (.int (4 : Int32)), (.ref a1)]))
          refine OEnds.st (fun _ k => XS.i2b X1022.here hx rfl (hb hby d1_40) rfl k) ?_
          show OEnds p.tables e below G (T1022.setTop (mkF m 41 #[.val (.ref a1), .val (.int (0 : Int32)), .val (.int p3), .val (.int v1024), .val (.int (4 : Int32))] [(.int (v1024.toInt8.toInt32)), (.int (4 : Int32)), (.ref a1)]))
          obtain ⟨cl1026, Ar1026, q1026, S1026, N1026n, H1026, G1026⟩ := id f1023
          have hin1026 : ¬ ((4 : Int32) < 0 ∨ cl1026.slots.size ≤ ((4 : Int32)).toNatClampNeg) := inb_of S1026 ⟨by decide, by decide⟩
          obtain ⟨T1026, h1026, X1026, e1026, W1026, st1026⟩ := stB X1022 hx hZ e1022 Ar1026 (j := (4 : Int32)) hin1026 (g := (mkF m 41 #[.val (.ref a1), .val (.int (0 : Int32)), .val (.int p3), .val (.int v1024), .val (.int (4 : Int32))] [(.int (v1024.toInt8.toInt32)), (.int (4 : Int32)), (.ref a1)])) rfl rfl (hb hby d1_41)
          refine OEnds.st st1026 ?_
          rw [own_b8] at W1026
          have f1027 : Arv Z h1026 a1 k .byte (9 : Int32) [(.int (((p3 &&& (127 : Int32)) ||| (128 : Int32)).toInt8.toInt32)), (.int (((v1006 &&& (127 : Int32)) ||| (128 : Int32)).toInt8.toInt32)), (.int (((v1012 &&& (127 : Int32)) ||| (128 : Int32)).toInt8.toInt32)), (.int (((v1018 &&& (127 : Int32)) ||| (128 : Int32)).toInt8.toInt32)), (.int (v1024.toInt8.toInt32)), (.int f), (.int f), (.int f), (.int f)] (.int (0 : Int32)) := Arv.set Ar1026 q1026 S1026 N1026n H1026 G1026 (fits_nar_byte _) W1026 4 rfl (Nat.le_of_ble_eq_true rfl)
          have N1026 := Fr.snoc X1026 N1022 g_a1
          have KK1026 : Keep h0 h1026 [a1] := KK1022.wr W1026 (Or.inl (List.mem_of_getElem? (i := 0) rfl))
          have Z1026 := Nat.le_trans Z1022 (Keep.of_wr W1026).1
          show OEnds p.tables e below G (T1026.setTop (mkF m 42 #[.val (.ref a1), .val (.int (0 : Int32)), .val (.int p3), .val (.int v1024), .val (.int (4 : Int32))] []))
          refine OEnds.st (fun _ k => XS.iload X1026.here hx rfl (hb hby d1_42) rfl k) ?_
          show OEnds p.tables e below G (T1026.setTop (mkF m 44 #[.val (.ref a1), .val (.int (0 : Int32)), .val (.int p3), .val (.int v1024), .val (.int (4 : Int32))] [(.int (4 : Int32))]))
          refine OEnds.st (fun _ k => XS.iconst X1026.here hx rfl (hb hby d1_44) k) ?_
          show OEnds p.tables e below G (T1026.setTop (mkF m 45 #[.val (.ref a1), .val (.int (0 : Int32)), .val (.int p3), .val (.int v1024), .val (.int (4 : Int32))] [(.int (1 : Int32)), (.int (4 : Int32))]))
          refine OEnds.st (fun _ k => XS.iadd X1026.here hx rfl (hb hby d1_45) rfl k) ?_
          show OEnds p.tables e below G (T1026.setTop (mkF m 46 #[.val (.ref a1), .val (.int (0 : Int32)), .val (.int p3), .val (.int v1024), .val (.int (4 : Int32))] [(.int ((4 : Int32) + (1 : Int32)))]))
          rw [← hG]
          subst hv_v1006 hv_v1012 hv_v1018 hv_v1024
          have u0 : ¬ (p3 &&& (-128 : Int32)) = (0 : Int32) := hc9_1001
          have u1 : ¬ ((own_sh p3) &&& (-128 : Int32)) = (0 : Int32) := hc9_1007
          have u2 : ¬ ((own_sh (own_sh p3)) &&& (-128 : Int32)) = (0 : Int32) := hc9_1013
          have u3 : ¬ ((own_sh (own_sh (own_sh p3))) &&& (-128 : Int32)) = (0 : Int32) := hc9_1019
          have u4 : ((own_sh (own_sh (own_sh (own_sh p3)))) &&& (-128 : Int32)) = (0 : Int32) := hc9_1025
          have hq : own_cnt p3 = (5 : Int32) := by simp [own_cnt, u0, u1, u2, u3, u4]
          have hr : ((4 : Int32) + (1 : Int32)) = (0 : Int32) + own_cnt p3 := by first | (rw [hq]; done) | (rw [hq]; decide)
          have x0 : own_el 0 0 p3 f = own_hi p3 := by simp [own_el, own_byte, u0, u1, u2, u3, u4]
          have x1 : own_el 0 1 p3 f = own_hi (own_sh p3) := by simp [own_el, own_byte, u0, u1, u2, u3, u4]
          have x2 : own_el 0 2 p3 f = own_hi (own_sh (own_sh p3)) := by simp [own_el, own_byte, u0, u1, u2, u3, u4]
          have x3 : own_el 0 3 p3 f = own_hi (own_sh (own_sh (own_sh p3))) := by simp [own_el, own_byte, u0, u1, u2, u3, u4]
          have x4 : own_el 0 4 p3 f = own_lo (own_sh (own_sh (own_sh (own_sh p3)))) := by simp [own_el, own_byte, u0, u1, u2, u3, u4]
          have x5 : own_el 0 5 p3 f = f := by simp [own_el, own_byte, u0, u1, u2, u3, u4]
          have x6 : own_el 0 6 p3 f = f := by simp [own_el, own_byte, u0, u1, u2, u3, u4]
          have x7 : own_el 0 7 p3 f = f := by simp [own_el, own_byte, u0, u1, u2, u3, u4]
          have x8 : own_el 0 8 p3 f = f := by simp [own_el, own_byte, u0, u1, u2, u3, u4]
          refine OEnds.retI X1026 hx hlk Bd.returns (hb hby d1_46) (by decide) (by decide) ?_
          rw [e1026]
          refine ⟨congrArg (fun z => some (Value.int z)) hr, N1026, KK1026, ?_⟩
          unfold own_els
          rw [x0, x1, x2, x3, x4, x5, x6, x7, x8]
          exact f1027
theorem ef_put1 (m : MethodId) (a1 : Addr) (p3 : Int32) : entryFrame m #[(.ref a1), (.int (1 : Int32)), (.int p3)] 5 = mkF m 0 #[.val (.ref a1), .val (.int (1 : Int32)), .val (.int p3), .unset, .unset] [] := by first | (simp [entryFrame, mkF, argsToLocals, Value.category]; done) | rfl
def Qput1 (Z : State) (a1 : Addr) (p3 : Int32) (k : ClassId) (f : Int32) (h0 : Heap) (n0 : Nat) (v : Option Value) (h : Heap) (L : List Loc) : Prop := v = some (.int ((1 : Int32) + own_cnt p3)) ∧ Fr n0 L ∧ Keep h0 h [a1] ∧ Arv Z h a1 k .byte (9 : Int32) (own_els 1 p3 f) (.int (0 : Int32))
set_option maxRecDepth 65536 in
set_option maxHeartbeats 40000000 in
theorem rmput1 (l : Launch) (Z : State) (a0 : Array Value) (hw : ∀ d ∈ tables_1, d.before a0 Z = true) (ws : List Jvm.Cond) (a1 : Addr) (p3 : Int32) (k : ClassId) (f : Int32) (h0 : Heap) (n0 : Nat) (Z0 : n0 ≤ h0.size) (V : Arv Z h0 a1 k .byte (9 : Int32) [(.int f), (.int f), (.int f), (.int f), (.int f), (.int f), (.int f), (.int f), (.int f)] (.int (0 : Int32))) (g_a1 : n0 ≤ a1) (hf8 : nar .byte f = f) :
    MetFree l (⟨"com/example/words_to_weights/wordstoweights/index/IndexFormat", "putNumber", "([BII)I"⟩ : MethodName) (head1 (Jvm.Cond.code (⟨"com/example/words_to_weights/wordstoweights/index/IndexFormat", "putNumber", "([BII)I"⟩ : MethodName) prog_39_method_2_code 5 (some .int) :: ws) ({ frames := 0, cells := 0, slots := 0, locals := 0 } : Room)) (fun a U => a = #[(.ref a1), (.int (1 : Int32)), (.int p3)] ∧ Z.Warmed39 U.vm ∧ U.heap = h0) (fun _ _ _ _ _ => True) (fun _ U o U' => ∃ v L, o = .returned v ∧ Qput1 Z a1 p3 k f h0 n0 v U'.heap L ∧ FrameEnd U o U' L ({ frames := 0, cells := 0, slots := 0, locals := 0 } : Room).cells ({ frames := 0, cells := 0, slots := 0, locals := 0 } : Room).slots) := by
  refine MetFree.of_bodySF (plainFor_of_name pn_0) hisR ?_
  intro p e s m args below meth c s₁ Bd hml0 hP hK
  obtain ⟨rfl, hZ, hh⟩ := hP
  have hx := Bd.exec
  have hby := Bd.bytes
  have hml : c.maxLocals = 5 := hml0
  have hown : s.vm.findClass "com/example/words_to_weights/wordstoweights/index/IndexFormat" = some m.cls := findClass_of_methodNamed Bd.named
  have hnm := (name_of_methodNamed Bd.named Bd.method).1
  have hlk : meth.locks = false := BodyLoose.notSynchronized Bd
  have X0 : Stand p l e ({ frames := 0, cells := 0, slots := 0, locals := 0 } : Room) s m #[(.ref a1), (.int (1 : Int32)), (.int p3)] below meth c s₁ [] 0 0 := Stand.of_body Bd
  have e0 : s₁.heap = h0 := by rw [← hh, Bd.state]; rfl
  have N0 := Fr.nil n0
  show OEnds p.tables e below (OGoal (Qput1 Z a1 p3 k f h0 n0) s 0 0) (s₁.setTop (entryFrame m #[(.ref a1), (.int (1 : Int32)), (.int p3)] 5))
  refine OEnds.st (fun t k => castTop (ef_put1 m a1 p3) k) ?_
  generalize hG : OGoal (Qput1 Z a1 p3 k f h0 n0) s 0 0 = G
  have KK0 : Keep h0 h0 [a1] := Keep.refl h0 [a1]
  show OEnds p.tables e below G (s₁.setTop (mkF m 0 #[.val (.ref a1), .val (.int (1 : Int32)), .val (.int p3), .unset, .unset] []))
  refine OEnds.st (fun _ k => XS.iloadN X0.here hx rfl (hb hby d1_0) rfl k) ?_
  show OEnds p.tables e below G (s₁.setTop (mkF m 1 #[.val (.ref a1), .val (.int (1 : Int32)), .val (.int p3), .unset, .unset] [(.int p3)]))
  refine OEnds.st (fun _ k => XS.istoreN X0.here hx rfl (hb hby d1_1) rfl (l' := #[.val (.ref a1), .val (.int (1 : Int32)), .val (.int p3), .val (.int p3), .unset]) rfl k) ?_
  show OEnds p.tables e below G (s₁.setTop (mkF m 2 #[.val (.ref a1), .val (.int (1 : Int32)), .val (.int p3), .val (.int p3), .unset] []))
  refine OEnds.st (fun _ k => XS.iloadN X0.here hx rfl (hb hby d1_2) rfl k) ?_
  show OEnds p.tables e below G (s₁.setTop (mkF m 3 #[.val (.ref a1), .val (.int (1 : Int32)), .val (.int p3), .val (.int p3), .unset] [(.int (1 : Int32))]))
  refine OEnds.st (fun _ k => XS.istore X0.here hx rfl (hb hby d1_3) rfl (l' := #[.val (.ref a1), .val (.int (1 : Int32)), .val (.int p3), .val (.int p3), .val (.int (1 : Int32))]) rfl k) ?_
  show OEnds p.tables e below G (s₁.setTop (mkF m 5 #[.val (.ref a1), .val (.int (1 : Int32)), .val (.int p3), .val (.int p3), .val (.int (1 : Int32))] []))
  refine OEnds.st (fun _ k => XS.iloadN X0.here hx rfl (hb hby d1_5) rfl k) ?_
  show OEnds p.tables e below G (s₁.setTop (mkF m 6 #[.val (.ref a1), .val (.int (1 : Int32)), .val (.int p3), .val (.int p3), .val (.int (1 : Int32))] [(.int p3)]))
  refine OEnds.st (fun _ k => XS.bipush X0.here hx rfl (hb hby d1_6) k) ?_
  show OEnds p.tables e below G (s₁.setTop (mkF m 8 #[.val (.ref a1), .val (.int (1 : Int32)), .val (.int p3), .val (.int p3), .val (.int (1 : Int32))] [(.int (-128 : Int32)), (.int p3)]))
  refine OEnds.st (fun _ k => XS.iand X0.here hx rfl (hb hby d1_8) rfl k) ?_
  show OEnds p.tables e below G (s₁.setTop (mkF m 9 #[.val (.ref a1), .val (.int (1 : Int32)), .val (.int p3), .val (.int p3), .val (.int (1 : Int32))] [(.int (p3 &&& (-128 : Int32)))]))
  by_cases hc9_1001 : (p3 &&& (-128 : Int32)) = (0 : Int32)
  · -- pc 9: yes
    refine OEnds.st (fun _ k => XS.ifYes X0.here hx rfl (pc0 := 9) (pc' := 36) rfl (hb hby d1_9) rfl ((if0 _ _).trans (teq hc9_1001).1) (by decide) (by decide) k) ?_
    show OEnds p.tables e below G (s₁.setTop (mkF m 36 #[.val (.ref a1), .val (.int (1 : Int32)), .val (.int p3), .val (.int p3), .val (.int (1 : Int32))] []))
    refine OEnds.st (fun _ k => XS.aloadN X0.here hx rfl (hb hby d1_36) rfl rfl k) ?_
    show OEnds p.tables e below G (s₁.setTop (mkF m 37 #[.val (.ref a1), .val (.int (1 : Int32)), .val (.int p3), .val (.int p3), .val (.int (1 : Int32))] [(.ref a1)]))
    refine OEnds.st (fun _ k => XS.iload X0.here hx rfl (hb hby d1_37) rfl k) ?_
    show OEnds p.tables e below G (s₁.setTop (mkF m 39 #[.val (.ref a1), .val (.int (1 : Int32)), .val (.int p3), .val (.int p3), .val (.int (1 : Int32))] [(.int (1 : Int32)), (.ref a1)]))
    refine OEnds.st (fun _ k => XS.iloadN X0.here hx rfl (hb hby d1_39) rfl k) ?_
    show OEnds p.tables e below G (s₁.setTop (mkF m 40 #[.val (.ref a1), .val (.int (1 : Int32)), .val (.int p3), .val (.int p3), .val (.int (1 : Int32))] [(.int p3), (.int (1 : Int32)), (.ref a1)]))
    refine OEnds.st (fun _ k => XS.i2b X0.here hx rfl (hb hby d1_40) rfl k) ?_
    show OEnds p.tables e below G (s₁.setTop (mkF m 41 #[.val (.ref a1), .val (.int (1 : Int32)), .val (.int p3), .val (.int p3), .val (.int (1 : Int32))] [(.int (p3.toInt8.toInt32)), (.int (1 : Int32)), (.ref a1)]))
    obtain ⟨cl1002, Ar1002, q1002, S1002, N1002n, H1002, G1002⟩ := id V
    have hin1002 : ¬ ((1 : Int32) < 0 ∨ cl1002.slots.size ≤ ((1 : Int32)).toNatClampNeg) := inb_of S1002 ⟨by decide, by decide⟩
    obtain ⟨T1002, h1002, X1002, e1002, W1002, st1002⟩ := stB X0 hx hZ e0 Ar1002 (j := (1 : Int32)) hin1002 (g := (mkF m 41 #[.val (.ref a1), .val (.int (1 : Int32)), .val (.int p3), .val (.int p3), .val (.int (1 : Int32))] [(.int (p3.toInt8.toInt32)), (.int (1 : Int32)), (.ref a1)])) rfl rfl (hb hby d1_41)
    refine OEnds.st st1002 ?_
    rw [own_b8] at W1002
    have f1003 : Arv Z h1002 a1 k .byte (9 : Int32) [(.int f), (.int (p3.toInt8.toInt32)), (.int f), (.int f), (.int f), (.int f), (.int f), (.int f), (.int f)] (.int (0 : Int32)) := Arv.set Ar1002 q1002 S1002 N1002n H1002 G1002 (fits_nar_byte _) W1002 1 rfl (Nat.le_of_ble_eq_true rfl)
    have N1002 := Fr.snoc X1002 N0 g_a1
    have KK1002 : Keep h0 h1002 [a1] := KK0.wr W1002 (Or.inl (List.mem_of_getElem? (i := 0) rfl))
    have Z1002 := Nat.le_trans Z0 (Keep.of_wr W1002).1
    show OEnds p.tables e below G (T1002.setTop (mkF m 42 #[.val (.ref a1), .val (.int (1 : Int32)), .val (.int p3), .val (.int p3), .val (.int (1 : Int32))] []))
    refine OEnds.st (fun _ k => XS.iload X1002.here hx rfl (hb hby d1_42) rfl k) ?_
    show OEnds p.tables e below G (T1002.setTop (mkF m 44 #[.val (.ref a1), .val (.int (1 : Int32)), .val (.int p3), .val (.int p3), .val (.int (1 : Int32))] [(.int (1 : Int32))]))
    refine OEnds.st (fun _ k => XS.iconst X1002.here hx rfl (hb hby d1_44) k) ?_
    show OEnds p.tables e below G (T1002.setTop (mkF m 45 #[.val (.ref a1), .val (.int (1 : Int32)), .val (.int p3), .val (.int p3), .val (.int (1 : Int32))] [(.int (1 : Int32)), (.int (1 : Int32))]))
    refine OEnds.st (fun _ k => XS.iadd X1002.here hx rfl (hb hby d1_45) rfl k) ?_
    show OEnds p.tables e below G (T1002.setTop (mkF m 46 #[.val (.ref a1), .val (.int (1 : Int32)), .val (.int p3), .val (.int p3), .val (.int (1 : Int32))] [(.int ((1 : Int32) + (1 : Int32)))]))
    rw [← hG]
    have u0 : (p3 &&& (-128 : Int32)) = (0 : Int32) := hc9_1001
    have hq : own_cnt p3 = (1 : Int32) := by simp [own_cnt, u0]
    have hr : ((1 : Int32) + (1 : Int32)) = (1 : Int32) + own_cnt p3 := by first | (rw [hq]; done) | (rw [hq]; decide)
    have x0 : own_el 1 0 p3 f = f := by simp [own_el, own_byte, u0]
    have x1 : own_el 1 1 p3 f = own_lo p3 := by simp [own_el, own_byte, u0]
    have x2 : own_el 1 2 p3 f = f := by simp [own_el, own_byte, u0]
    have x3 : own_el 1 3 p3 f = f := by simp [own_el, own_byte, u0]
    have x4 : own_el 1 4 p3 f = f := by simp [own_el, own_byte, u0]
    have x5 : own_el 1 5 p3 f = f := by simp [own_el, own_byte, u0]
    have x6 : own_el 1 6 p3 f = f := by simp [own_el, own_byte, u0]
    have x7 : own_el 1 7 p3 f = f := by simp [own_el, own_byte, u0]
    have x8 : own_el 1 8 p3 f = f := by simp [own_el, own_byte, u0]
    refine OEnds.retI X1002 hx hlk Bd.returns (hb hby d1_46) (by decide) (by decide) ?_
    rw [e1002]
    refine ⟨congrArg (fun z => some (Value.int z)) hr, N1002, KK1002, ?_⟩
    unfold own_els
    rw [x0, x1, x2, x3, x4, x5, x6, x7, x8]
    exact f1003
  · -- pc 9: no
    refine OEnds.st (fun _ k => XS.ifNo X0.here hx rfl (hb hby d1_9) rfl ((if0 _ _).trans (feq hc9_1001).1) k) ?_
    show OEnds p.tables e below G (s₁.setTop (mkF m 12 #[.val (.ref a1), .val (.int (1 : Int32)), .val (.int p3), .val (.int p3), .val (.int (1 : Int32))] []))
    refine OEnds.st (fun _ k => XS.aloadN X0.here hx rfl (hb hby d1_12) rfl rfl k) ?_
    show OEnds p.tables e below G (s₁.setTop (mkF m 13 #[.val (.ref a1), .val (.int (1 : Int32)), .val (.int p3), .val (.int p3), .val (.int (1 : Int32))] [(.ref a1)]))
    refine OEnds.st (fun _ k => XS.iload X0.here hx rfl (hb hby d1_13) rfl k) ?_
    show OEnds p.tables e below G (s₁.setTop (mkF m 15 #[.val (.ref a1), .val (.int (1 : Int32)), .val (.int p3), .val (.int p3), .val (.int (1 : Int32))] [(.int (1 : Int32)), (.ref a1)]))
    refine OEnds.st (fun _ k => XS.iloadN X0.here hx rfl (hb hby d1_15) rfl k) ?_
    show OEnds p.tables e below G (s₁.setTop (mkF m 16 #[.val (.ref a1), .val (.int (1 : Int32)), .val (.int p3), .val (.int p3), .val (.int (1 : Int32))] [(.int p3), (.int (1 : Int32)), (.ref a1)]))
    refine OEnds.st (fun _ k => XS.bipush X0.here hx rfl (hb hby d1_16) k) ?_
    show OEnds p.tables e below G (s₁.setTop (mkF m 18 #[.val (.ref a1), .val (.int (1 : Int32)), .val (.int p3), .val (.int p3), .val (.int (1 : Int32))] [(.int (127 : Int32)), (.int p3), (.int (1 : Int32)), (.ref a1)]))
    refine OEnds.st (fun _ k => XS.iand X0.here hx rfl (hb hby d1_18) rfl k) ?_
    show OEnds p.tables e below G (s₁.setTop (mkF m 19 #[.val (.ref a1), .val (.int (1 : Int32)), .val (.int p3), .val (.int p3), .val (.int (1 : Int32))] [(.int (p3 &&& (127 : Int32))), (.int (1 : Int32)), (.ref a1)]))
    refine OEnds.st (fun _ k => XS.sipush X0.here hx rfl (hb hby d1_19) k) ?_
    show OEnds p.tables e below G (s₁.setTop (mkF m 22 #[.val (.ref a1), .val (.int (1 : Int32)), .val (.int p3), .val (.int p3), .val (.int (1 : Int32))] [(.int (128 : Int32)), (.int (p3 &&& (127 : Int32))), (.int (1 : Int32)), (.ref a1)]))
    refine OEnds.st (fun _ k => XS.ior X0.here hx rfl (hb hby d1_22) rfl k) ?_
    show OEnds p.tables e below G (s₁.setTop (mkF m 23 #[.val (.ref a1), .val (.int (1 : Int32)), .val (.int p3), .val (.int p3), .val (.int (1 : Int32))] [(.int ((p3 &&& (127 : Int32)) ||| (128 : Int32))), (.int (1 : Int32)), (.ref a1)]))
    refine OEnds.st (fun _ k => XS.i2b X0.here hx rfl (hb hby d1_23) rfl k) ?_
    show OEnds p.tables e below G (s₁.setTop (mkF m 24 #[.val (.ref a1), .val (.int (1 : Int32)), .val (.int p3), .val (.int p3), .val (.int (1 : Int32))] [(.int (((p3 &&& (127 : Int32)) ||| (128 : Int32)).toInt8.toInt32)), (.int (1 : Int32)), (.ref a1)]))
    obtain ⟨cl1004, Ar1004, q1004, S1004, N1004n, H1004, G1004⟩ := id V
    have hin1004 : ¬ ((1 : Int32) < 0 ∨ cl1004.slots.size ≤ ((1 : Int32)).toNatClampNeg) := inb_of S1004 ⟨by decide, by decide⟩
    obtain ⟨T1004, h1004, X1004, e1004, W1004, st1004⟩ := stB X0 hx hZ e0 Ar1004 (j := (1 : Int32)) hin1004 (g := (mkF m 24 #[.val (.ref a1), .val (.int (1 : Int32)), .val (.int p3), .val (.int p3), .val (.int (1 : Int32))] [(.int (((p3 &&& (127 : Int32)) ||| (128 : Int32)).toInt8.toInt32)), (.int (1 : Int32)), (.ref a1)])) rfl rfl (hb hby d1_24)
    refine OEnds.st st1004 ?_
    rw [own_b8] at W1004
    have f1005 : Arv Z h1004 a1 k .byte (9 : Int32) [(.int f), (.int (((p3 &&& (127 : Int32)) ||| (128 : Int32)).toInt8.toInt32)), (.int f), (.int f), (.int f), (.int f), (.int f), (.int f), (.int f)] (.int (0 : Int32)) := Arv.set Ar1004 q1004 S1004 N1004n H1004 G1004 (fits_nar_byte _) W1004 1 rfl (Nat.le_of_ble_eq_true rfl)
    have N1004 := Fr.snoc X1004 N0 g_a1
    have KK1004 : Keep h0 h1004 [a1] := KK0.wr W1004 (Or.inl (List.mem_of_getElem? (i := 0) rfl))
    have Z1004 := Nat.le_trans Z0 (Keep.of_wr W1004).1
    show OEnds p.tables e below G (T1004.setTop (mkF m 25 #[.val (.ref a1), .val (.int (1 : Int32)), .val (.int p3), .val (.int p3), .val (.int (1 : Int32))] []))
    refine OEnds.st (fun _ k => XS.iinc X1004.here hx rfl (hb hby d1_25) rfl (l' := #[.val (.ref a1), .val (.int (1 : Int32)), .val (.int p3), .val (.int p3), .val (.int ((1 : Int32) + (1 : Int32)))]) rfl k) ?_
    show OEnds p.tables e below G (T1004.setTop (mkF m 28 #[.val (.ref a1), .val (.int (1 : Int32)), .val (.int p3), .val (.int p3), .val (.int ((1 : Int32) + (1 : Int32)))] []))
    rw [show ((1 : Int32) + (1 : Int32)) = (2 : Int32) from by decide]
    show OEnds p.tables e below G (T1004.setTop (mkF m 28 #[.val (.ref a1), .val (.int (1 : Int32)), .val (.int p3), .val (.int p3), .val (.int (2 : Int32))] []))
    refine OEnds.st (fun _ k => XS.iloadN X1004.here hx rfl (hb hby d1_28) rfl k) ?_
    show OEnds p.tables e below G (T1004.setTop (mkF m 29 #[.val (.ref a1), .val (.int (1 : Int32)), .val (.int p3), .val (.int p3), .val (.int (2 : Int32))] [(.int p3)]))
    refine OEnds.st (fun _ k => XS.bipush X1004.here hx rfl (hb hby d1_29) k) ?_
    show OEnds p.tables e below G (T1004.setTop (mkF m 31 #[.val (.ref a1), .val (.int (1 : Int32)), .val (.int p3), .val (.int p3), .val (.int (2 : Int32))] [(.int (7 : Int32)), (.int p3)]))
    refine OEnds.st (fun _ k => XS.iushr X1004.here hx rfl (hb hby d1_31) rfl k) ?_
    show OEnds p.tables e below G (T1004.setTop (mkF m 32 #[.val (.ref a1), .val (.int (1 : Int32)), .val (.int p3), .val (.int p3), .val (.int (2 : Int32))] [(.int ((p3.toUInt32 >>> ((7 : Int32) &&& 31).toUInt32).toInt32))]))
    refine OEnds.st (fun _ k => XS.istoreN X1004.here hx rfl (hb hby d1_32) rfl (l' := #[.val (.ref a1), .val (.int (1 : Int32)), .val (.int p3), .val (.int ((p3.toUInt32 >>> ((7 : Int32) &&& 31).toUInt32).toInt32)), .val (.int (2 : Int32))]) rfl k) ?_
    show OEnds p.tables e below G (T1004.setTop (mkF m 33 #[.val (.ref a1), .val (.int (1 : Int32)), .val (.int p3), .val (.int ((p3.toUInt32 >>> ((7 : Int32) &&& 31).toUInt32).toInt32)), .val (.int (2 : Int32))] []))
    generalize hv_v1006 : ((p3.toUInt32 >>> ((7 : Int32) &&& 31).toUInt32).toInt32) = v1006
    show OEnds p.tables e below G (T1004.setTop (mkF m 33 #[.val (.ref a1), .val (.int (1 : Int32)), .val (.int p3), .val (.int v1006), .val (.int (2 : Int32))] []))
    refine OEnds.st (fun _ k => XS.goto X1004.here hx rfl (pc0 := 33) (pc' := 5) rfl (hb hby d1_33) (by decide) (by decide) k) ?_
    show OEnds p.tables e below G (T1004.setTop (mkF m 5 #[.val (.ref a1), .val (.int (1 : Int32)), .val (.int p3), .val (.int v1006), .val (.int (2 : Int32))] []))
    refine OEnds.st (fun _ k => XS.iloadN X1004.here hx rfl (hb hby d1_5) rfl k) ?_
    show OEnds p.tables e below G (T1004.setTop (mkF m 6 #[.val (.ref a1), .val (.int (1 : Int32)), .val (.int p3), .val (.int v1006), .val (.int (2 : Int32))] [(.int v1006)]))
    refine OEnds.st (fun _ k => XS.bipush X1004.here hx rfl (hb hby d1_6) k) ?_
    show OEnds p.tables e below G (T1004.setTop (mkF m 8 #[.val (.ref a1), .val (.int (1 : Int32)), .val (.int p3), .val (.int v1006), .val (.int (2 : Int32))] [(.int (-128 : Int32)), (.int v1006)]))
    refine OEnds.st (fun _ k => XS.iand X1004.here hx rfl (hb hby d1_8) rfl k) ?_
    show OEnds p.tables e below G (T1004.setTop (mkF m 9 #[.val (.ref a1), .val (.int (1 : Int32)), .val (.int p3), .val (.int v1006), .val (.int (2 : Int32))] [(.int (v1006 &&& (-128 : Int32)))]))
    by_cases hc9_1007 : (v1006 &&& (-128 : Int32)) = (0 : Int32)
    · -- pc 9: yes
      refine OEnds.st (fun _ k => XS.ifYes X1004.here hx rfl (pc0 := 9) (pc' := 36) rfl (hb hby d1_9) rfl ((if0 _ _).trans (teq hc9_1007).1) (by decide) (by decide) k) ?_
      show OEnds p.tables e below G (T1004.setTop (mkF m 36 #[.val (.ref a1), .val (.int (1 : Int32)), .val (.int p3), .val (.int v1006), .val (.int (2 : Int32))] []))
      refine OEnds.st (fun _ k => XS.aloadN X1004.here hx rfl (hb hby d1_36) rfl rfl k) ?_
      show OEnds p.tables e below G (T1004.setTop (mkF m 37 #[.val (.ref a1), .val (.int (1 : Int32)), .val (.int p3), .val (.int v1006), .val (.int (2 : Int32))] [(.ref a1)]))
      refine OEnds.st (fun _ k => XS.iload X1004.here hx rfl (hb hby d1_37) rfl k) ?_
      show OEnds p.tables e below G (T1004.setTop (mkF m 39 #[.val (.ref a1), .val (.int (1 : Int32)), .val (.int p3), .val (.int v1006), .val (.int (2 : Int32))] [(.int (2 : Int32)), (.ref a1)]))
      refine OEnds.st (fun _ k => XS.iloadN X1004.here hx rfl (hb hby d1_39) rfl k) ?_
      show OEnds p.tables e below G (T1004.setTop (mkF m 40 #[.val (.ref a1), .val (.int (1 : Int32)), .val (.int p3), .val (.int v1006), .val (.int (2 : Int32))] [(.int v1006), (.int (2 : Int32)), (.ref a1)]))
      refine OEnds.st (fun _ k => XS.i2b X1004.here hx rfl (hb hby d1_40) rfl k) ?_
      show OEnds p.tables e below G (T1004.setTop (mkF m 41 #[.val (.ref a1), .val (.int (1 : Int32)), .val (.int p3), .val (.int v1006), .val (.int (2 : Int32))] [(.int (v1006.toInt8.toInt32)), (.int (2 : Int32)), (.ref a1)]))
      obtain ⟨cl1008, Ar1008, q1008, S1008, N1008n, H1008, G1008⟩ := id f1005
      have hin1008 : ¬ ((2 : Int32) < 0 ∨ cl1008.slots.size ≤ ((2 : Int32)).toNatClampNeg) := inb_of S1008 ⟨by decide, by decide⟩
      obtain ⟨T1008, h1008, X1008, e1008, W1008, st1008⟩ := stB X1004 hx hZ e1004 Ar1008 (j := (2 : Int32)) hin1008 (g := (mkF m 41 #[.val (.ref a1), .val (.int (1 : Int32)), .val (.int p3), .val (.int v1006), .val (.int (2 : Int32))] [(.int (v1006.toInt8.toInt32)), (.int (2 : Int32)), (.ref a1)])) rfl rfl (hb hby d1_41)
      refine OEnds.st st1008 ?_
      rw [own_b8] at W1008
      have f1009 : Arv Z h1008 a1 k .byte (9 : Int32) [(.int f), (.int (((p3 &&& (127 : Int32)) ||| (128 : Int32)).toInt8.toInt32)), (.int (v1006.toInt8.toInt32)), (.int f), (.int f), (.int f), (.int f), (.int f), (.int f)] (.int (0 : Int32)) := Arv.set Ar1008 q1008 S1008 N1008n H1008 G1008 (fits_nar_byte _) W1008 2 rfl (Nat.le_of_ble_eq_true rfl)
      have N1008 := Fr.snoc X1008 N1004 g_a1
      have KK1008 : Keep h0 h1008 [a1] := KK1004.wr W1008 (Or.inl (List.mem_of_getElem? (i := 0) rfl))
      have Z1008 := Nat.le_trans Z1004 (Keep.of_wr W1008).1
      show OEnds p.tables e below G (T1008.setTop (mkF m 42 #[.val (.ref a1), .val (.int (1 : Int32)), .val (.int p3), .val (.int v1006), .val (.int (2 : Int32))] []))
      refine OEnds.st (fun _ k => XS.iload X1008.here hx rfl (hb hby d1_42) rfl k) ?_
      show OEnds p.tables e below G (T1008.setTop (mkF m 44 #[.val (.ref a1), .val (.int (1 : Int32)), .val (.int p3), .val (.int v1006), .val (.int (2 : Int32))] [(.int (2 : Int32))]))
      refine OEnds.st (fun _ k => XS.iconst X1008.here hx rfl (hb hby d1_44) k) ?_
      show OEnds p.tables e below G (T1008.setTop (mkF m 45 #[.val (.ref a1), .val (.int (1 : Int32)), .val (.int p3), .val (.int v1006), .val (.int (2 : Int32))] [(.int (1 : Int32)), (.int (2 : Int32))]))
      refine OEnds.st (fun _ k => XS.iadd X1008.here hx rfl (hb hby d1_45) rfl k) ?_
      show OEnds p.tables e below G (T1008.setTop (mkF m 46 #[.val (.ref a1), .val (.int (1 : Int32)), .val (.int p3), .val (.int v1006), .val (.int (2 : Int32))] [(.int ((2 : Int32) + (1 : Int32)))]))
      rw [← hG]
      subst hv_v1006
      have u0 : ¬ (p3 &&& (-128 : Int32)) = (0 : Int32) := hc9_1001
      have u1 : ((own_sh p3) &&& (-128 : Int32)) = (0 : Int32) := hc9_1007
      have hq : own_cnt p3 = (2 : Int32) := by simp [own_cnt, u0, u1]
      have hr : ((2 : Int32) + (1 : Int32)) = (1 : Int32) + own_cnt p3 := by first | (rw [hq]; done) | (rw [hq]; decide)
      have x0 : own_el 1 0 p3 f = f := by simp [own_el, own_byte, u0, u1]
      have x1 : own_el 1 1 p3 f = own_hi p3 := by simp [own_el, own_byte, u0, u1]
      have x2 : own_el 1 2 p3 f = own_lo (own_sh p3) := by simp [own_el, own_byte, u0, u1]
      have x3 : own_el 1 3 p3 f = f := by simp [own_el, own_byte, u0, u1]
      have x4 : own_el 1 4 p3 f = f := by simp [own_el, own_byte, u0, u1]
      have x5 : own_el 1 5 p3 f = f := by simp [own_el, own_byte, u0, u1]
      have x6 : own_el 1 6 p3 f = f := by simp [own_el, own_byte, u0, u1]
      have x7 : own_el 1 7 p3 f = f := by simp [own_el, own_byte, u0, u1]
      have x8 : own_el 1 8 p3 f = f := by simp [own_el, own_byte, u0, u1]
      refine OEnds.retI X1008 hx hlk Bd.returns (hb hby d1_46) (by decide) (by decide) ?_
      rw [e1008]
      refine ⟨congrArg (fun z => some (Value.int z)) hr, N1008, KK1008, ?_⟩
      unfold own_els
      rw [x0, x1, x2, x3, x4, x5, x6, x7, x8]
      exact f1009
    · -- pc 9: no
      refine OEnds.st (fun _ k => XS.ifNo X1004.here hx rfl (hb hby d1_9) rfl ((if0 _ _).trans (feq hc9_1007).1) k) ?_
      show OEnds p.tables e below G (T1004.setTop (mkF m 12 #[.val (.ref a1), .val (.int (1 : Int32)), .val (.int p3), .val (.int v1006), .val (.int (2 : Int32))] []))
      refine OEnds.st (fun _ k => XS.aloadN X1004.here hx rfl (hb hby d1_12) rfl rfl k) ?_
      show OEnds p.tables e below G (T1004.setTop (mkF m 13 #[.val (.ref a1), .val (.int (1 : Int32)), .val (.int p3), .val (.int v1006), .val (.int (2 : Int32))] [(.ref a1)]))
      refine OEnds.st (fun _ k => XS.iload X1004.here hx rfl (hb hby d1_13) rfl k) ?_
      show OEnds p.tables e below G (T1004.setTop (mkF m 15 #[.val (.ref a1), .val (.int (1 : Int32)), .val (.int p3), .val (.int v1006), .val (.int (2 : Int32))] [(.int (2 : Int32)), (.ref a1)]))
      refine OEnds.st (fun _ k => XS.iloadN X1004.here hx rfl (hb hby d1_15) rfl k) ?_
      show OEnds p.tables e below G (T1004.setTop (mkF m 16 #[.val (.ref a1), .val (.int (1 : Int32)), .val (.int p3), .val (.int v1006), .val (.int (2 : Int32))] [(.int v1006), (.int (2 : Int32)), (.ref a1)]))
      refine OEnds.st (fun _ k => XS.bipush X1004.here hx rfl (hb hby d1_16) k) ?_
      show OEnds p.tables e below G (T1004.setTop (mkF m 18 #[.val (.ref a1), .val (.int (1 : Int32)), .val (.int p3), .val (.int v1006), .val (.int (2 : Int32))] [(.int (127 : Int32)), (.int v1006), (.int (2 : Int32)), (.ref a1)]))
      refine OEnds.st (fun _ k => XS.iand X1004.here hx rfl (hb hby d1_18) rfl k) ?_
      show OEnds p.tables e below G (T1004.setTop (mkF m 19 #[.val (.ref a1), .val (.int (1 : Int32)), .val (.int p3), .val (.int v1006), .val (.int (2 : Int32))] [(.int (v1006 &&& (127 : Int32))), (.int (2 : Int32)), (.ref a1)]))
      refine OEnds.st (fun _ k => XS.sipush X1004.here hx rfl (hb hby d1_19) k) ?_
      show OEnds p.tables e below G (T1004.setTop (mkF m 22 #[.val (.ref a1), .val (.int (1 : Int32)), .val (.int p3), .val (.int v1006), .val (.int (2 : Int32))] [(.int (128 : Int32)), (.int (v1006 &&& (127 : Int32))), (.int (2 : Int32)), (.ref a1)]))
      refine OEnds.st (fun _ k => XS.ior X1004.here hx rfl (hb hby d1_22) rfl k) ?_
      show OEnds p.tables e below G (T1004.setTop (mkF m 23 #[.val (.ref a1), .val (.int (1 : Int32)), .val (.int p3), .val (.int v1006), .val (.int (2 : Int32))] [(.int ((v1006 &&& (127 : Int32)) ||| (128 : Int32))), (.int (2 : Int32)), (.ref a1)]))
      refine OEnds.st (fun _ k => XS.i2b X1004.here hx rfl (hb hby d1_23) rfl k) ?_
      show OEnds p.tables e below G (T1004.setTop (mkF m 24 #[.val (.ref a1), .val (.int (1 : Int32)), .val (.int p3), .val (.int v1006), .val (.int (2 : Int32))] [(.int (((v1006 &&& (127 : Int32)) ||| (128 : Int32)).toInt8.toInt32)), (.int (2 : Int32)), (.ref a1)]))
      obtain ⟨cl1010, Ar1010, q1010, S1010, N1010n, H1010, G1010⟩ := id f1005
      have hin1010 : ¬ ((2 : Int32) < 0 ∨ cl1010.slots.size ≤ ((2 : Int32)).toNatClampNeg) := inb_of S1010 ⟨by decide, by decide⟩
      obtain ⟨T1010, h1010, X1010, e1010, W1010, st1010⟩ := stB X1004 hx hZ e1004 Ar1010 (j := (2 : Int32)) hin1010 (g := (mkF m 24 #[.val (.ref a1), .val (.int (1 : Int32)), .val (.int p3), .val (.int v1006), .val (.int (2 : Int32))] [(.int (((v1006 &&& (127 : Int32)) ||| (128 : Int32)).toInt8.toInt32)), (.int (2 : Int32)), (.ref a1)])) rfl rfl (hb hby d1_24)
      refine OEnds.st st1010 ?_
      rw [own_b8] at W1010
      have f1011 : Arv Z h1010 a1 k .byte (9 : Int32) [(.int f), (.int (((p3 &&& (127 : Int32)) ||| (128 : Int32)).toInt8.toInt32)), (.int (((v1006 &&& (127 : Int32)) ||| (128 : Int32)).toInt8.toInt32)), (.int f), (.int f), (.int f), (.int f), (.int f), (.int f)] (.int (0 : Int32)) := Arv.set Ar1010 q1010 S1010 N1010n H1010 G1010 (fits_nar_byte _) W1010 2 rfl (Nat.le_of_ble_eq_true rfl)
      have N1010 := Fr.snoc X1010 N1004 g_a1
      have KK1010 : Keep h0 h1010 [a1] := KK1004.wr W1010 (Or.inl (List.mem_of_getElem? (i := 0) rfl))
      have Z1010 := Nat.le_trans Z1004 (Keep.of_wr W1010).1
      show OEnds p.tables e below G (T1010.setTop (mkF m 25 #[.val (.ref a1), .val (.int (1 : Int32)), .val (.int p3), .val (.int v1006), .val (.int (2 : Int32))] []))
      refine OEnds.st (fun _ k => XS.iinc X1010.here hx rfl (hb hby d1_25) rfl (l' := #[.val (.ref a1), .val (.int (1 : Int32)), .val (.int p3), .val (.int v1006), .val (.int ((2 : Int32) + (1 : Int32)))]) rfl k) ?_
      show OEnds p.tables e below G (T1010.setTop (mkF m 28 #[.val (.ref a1), .val (.int (1 : Int32)), .val (.int p3), .val (.int v1006), .val (.int ((2 : Int32) + (1 : Int32)))] []))
      rw [show ((2 : Int32) + (1 : Int32)) = (3 : Int32) from by decide]
      show OEnds p.tables e below G (T1010.setTop (mkF m 28 #[.val (.ref a1), .val (.int (1 : Int32)), .val (.int p3), .val (.int v1006), .val (.int (3 : Int32))] []))
      refine OEnds.st (fun _ k => XS.iloadN X1010.here hx rfl (hb hby d1_28) rfl k) ?_
      show OEnds p.tables e below G (T1010.setTop (mkF m 29 #[.val (.ref a1), .val (.int (1 : Int32)), .val (.int p3), .val (.int v1006), .val (.int (3 : Int32))] [(.int v1006)]))
      refine OEnds.st (fun _ k => XS.bipush X1010.here hx rfl (hb hby d1_29) k) ?_
      show OEnds p.tables e below G (T1010.setTop (mkF m 31 #[.val (.ref a1), .val (.int (1 : Int32)), .val (.int p3), .val (.int v1006), .val (.int (3 : Int32))] [(.int (7 : Int32)), (.int v1006)]))
      refine OEnds.st (fun _ k => XS.iushr X1010.here hx rfl (hb hby d1_31) rfl k) ?_
      show OEnds p.tables e below G (T1010.setTop (mkF m 32 #[.val (.ref a1), .val (.int (1 : Int32)), .val (.int p3), .val (.int v1006), .val (.int (3 : Int32))] [(.int ((v1006.toUInt32 >>> ((7 : Int32) &&& 31).toUInt32).toInt32))]))
      refine OEnds.st (fun _ k => XS.istoreN X1010.here hx rfl (hb hby d1_32) rfl (l' := #[.val (.ref a1), .val (.int (1 : Int32)), .val (.int p3), .val (.int ((v1006.toUInt32 >>> ((7 : Int32) &&& 31).toUInt32).toInt32)), .val (.int (3 : Int32))]) rfl k) ?_
      show OEnds p.tables e below G (T1010.setTop (mkF m 33 #[.val (.ref a1), .val (.int (1 : Int32)), .val (.int p3), .val (.int ((v1006.toUInt32 >>> ((7 : Int32) &&& 31).toUInt32).toInt32)), .val (.int (3 : Int32))] []))
      generalize hv_v1012 : ((v1006.toUInt32 >>> ((7 : Int32) &&& 31).toUInt32).toInt32) = v1012
      show OEnds p.tables e below G (T1010.setTop (mkF m 33 #[.val (.ref a1), .val (.int (1 : Int32)), .val (.int p3), .val (.int v1012), .val (.int (3 : Int32))] []))
      refine OEnds.st (fun _ k => XS.goto X1010.here hx rfl (pc0 := 33) (pc' := 5) rfl (hb hby d1_33) (by decide) (by decide) k) ?_
      show OEnds p.tables e below G (T1010.setTop (mkF m 5 #[.val (.ref a1), .val (.int (1 : Int32)), .val (.int p3), .val (.int v1012), .val (.int (3 : Int32))] []))
      refine OEnds.st (fun _ k => XS.iloadN X1010.here hx rfl (hb hby d1_5) rfl k) ?_
      show OEnds p.tables e below G (T1010.setTop (mkF m 6 #[.val (.ref a1), .val (.int (1 : Int32)), .val (.int p3), .val (.int v1012), .val (.int (3 : Int32))] [(.int v1012)]))
      refine OEnds.st (fun _ k => XS.bipush X1010.here hx rfl (hb hby d1_6) k) ?_
      show OEnds p.tables e below G (T1010.setTop (mkF m 8 #[.val (.ref a1), .val (.int (1 : Int32)), .val (.int p3), .val (.int v1012), .val (.int (3 : Int32))] [(.int (-128 : Int32)), (.int v1012)]))
      refine OEnds.st (fun _ k => XS.iand X1010.here hx rfl (hb hby d1_8) rfl k) ?_
      show OEnds p.tables e below G (T1010.setTop (mkF m 9 #[.val (.ref a1), .val (.int (1 : Int32)), .val (.int p3), .val (.int v1012), .val (.int (3 : Int32))] [(.int (v1012 &&& (-128 : Int32)))]))
      by_cases hc9_1013 : (v1012 &&& (-128 : Int32)) = (0 : Int32)
      · -- pc 9: yes
        refine OEnds.st (fun _ k => XS.ifYes X1010.here hx rfl (pc0 := 9) (pc' := 36) rfl (hb hby d1_9) rfl ((if0 _ _).trans (teq hc9_1013).1) (by decide) (by decide) k) ?_
        show OEnds p.tables e below G (T1010.setTop (mkF m 36 #[.val (.ref a1), .val (.int (1 : Int32)), .val (.int p3), .val (.int v1012), .val (.int (3 : Int32))] []))
        refine OEnds.st (fun _ k => XS.aloadN X1010.here hx rfl (hb hby d1_36) rfl rfl k) ?_
        show OEnds p.tables e below G (T1010.setTop (mkF m 37 #[.val (.ref a1), .val (.int (1 : Int32)), .val (.int p3), .val (.int v1012), .val (.int (3 : Int32))] [(.ref a1)]))
        refine OEnds.st (fun _ k => XS.iload X1010.here hx rfl (hb hby d1_37) rfl k) ?_
        show OEnds p.tables e below G (T1010.setTop (mkF m 39 #[.val (.ref a1), .val (.int (1 : Int32)), .val (.int p3), .val (.int v1012), .val (.int (3 : Int32))] [(.int (3 : Int32)), (.ref a1)]))
        refine OEnds.st (fun _ k => XS.iloadN X1010.here hx rfl (hb hby d1_39) rfl k) ?_
        show OEnds p.tables e below G (T1010.setTop (mkF m 40 #[.val (.ref a1), .val (.int (1 : Int32)), .val (.int p3), .val (.int v1012), .val (.int (3 : Int32))] [(.int v1012), (.int (3 : Int32)), (.ref a1)]))
        refine OEnds.st (fun _ k => XS.i2b X1010.here hx rfl (hb hby d1_40) rfl k) ?_
        show OEnds p.tables e below G (T1010.setTop (mkF m 41 #[.val (.ref a1), .val (.int (1 : Int32)), .val (.int p3), .val (.int v1012), .val (.int (3 : Int32))] [(.int (v1012.toInt8.toInt32)), (.int (3 : Int32)), (.ref a1)]))
        obtain ⟨cl1014, Ar1014, q1014, S1014, N1014n, H1014, G1014⟩ := id f1011
        have hin1014 : ¬ ((3 : Int32) < 0 ∨ cl1014.slots.size ≤ ((3 : Int32)).toNatClampNeg) := inb_of S1014 ⟨by decide, by decide⟩
        obtain ⟨T1014, h1014, X1014, e1014, W1014, st1014⟩ := stB X1010 hx hZ e1010 Ar1014 (j := (3 : Int32)) hin1014 (g := (mkF m 41 #[.val (.ref a1), .val (.int (1 : Int32)), .val (.int p3), .val (.int v1012), .val (.int (3 : Int32))] [(.int (v1012.toInt8.toInt32)), (.int (3 : Int32)), (.ref a1)])) rfl rfl (hb hby d1_41)
        refine OEnds.st st1014 ?_
        rw [own_b8] at W1014
        have f1015 : Arv Z h1014 a1 k .byte (9 : Int32) [(.int f), (.int (((p3 &&& (127 : Int32)) ||| (128 : Int32)).toInt8.toInt32)), (.int (((v1006 &&& (127 : Int32)) ||| (128 : Int32)).toInt8.toInt32)), (.int (v1012.toInt8.toInt32)), (.int f), (.int f), (.int f), (.int f), (.int f)] (.int (0 : Int32)) := Arv.set Ar1014 q1014 S1014 N1014n H1014 G1014 (fits_nar_byte _) W1014 3 rfl (Nat.le_of_ble_eq_true rfl)
        have N1014 := Fr.snoc X1014 N1010 g_a1
        have KK1014 : Keep h0 h1014 [a1] := KK1010.wr W1014 (Or.inl (List.mem_of_getElem? (i := 0) rfl))
        have Z1014 := Nat.le_trans Z1010 (Keep.of_wr W1014).1
        show OEnds p.tables e below G (T1014.setTop (mkF m 42 #[.val (.ref a1), .val (.int (1 : Int32)), .val (.int p3), .val (.int v1012), .val (.int (3 : Int32))] []))
        refine OEnds.st (fun _ k => XS.iload X1014.here hx rfl (hb hby d1_42) rfl k) ?_
        show OEnds p.tables e below G (T1014.setTop (mkF m 44 #[.val (.ref a1), .val (.int (1 : Int32)), .val (.int p3), .val (.int v1012), .val (.int (3 : Int32))] [(.int (3 : Int32))]))
        refine OEnds.st (fun _ k => XS.iconst X1014.here hx rfl (hb hby d1_44) k) ?_
        show OEnds p.tables e below G (T1014.setTop (mkF m 45 #[.val (.ref a1), .val (.int (1 : Int32)), .val (.int p3), .val (.int v1012), .val (.int (3 : Int32))] [(.int (1 : Int32)), (.int (3 : Int32))]))
        refine OEnds.st (fun _ k => XS.iadd X1014.here hx rfl (hb hby d1_45) rfl k) ?_
        show OEnds p.tables e below G (T1014.setTop (mkF m 46 #[.val (.ref a1), .val (.int (1 : Int32)), .val (.int p3), .val (.int v1012), .val (.int (3 : Int32))] [(.int ((3 : Int32) + (1 : Int32)))]))
        rw [← hG]
        subst hv_v1006 hv_v1012
        have u0 : ¬ (p3 &&& (-128 : Int32)) = (0 : Int32) := hc9_1001
        have u1 : ¬ ((own_sh p3) &&& (-128 : Int32)) = (0 : Int32) := hc9_1007
        have u2 : ((own_sh (own_sh p3)) &&& (-128 : Int32)) = (0 : Int32) := hc9_1013
        have hq : own_cnt p3 = (3 : Int32) := by simp [own_cnt, u0, u1, u2]
        have hr : ((3 : Int32) + (1 : Int32)) = (1 : Int32) + own_cnt p3 := by first | (rw [hq]; done) | (rw [hq]; decide)
        have x0 : own_el 1 0 p3 f = f := by simp [own_el, own_byte, u0, u1, u2]
        have x1 : own_el 1 1 p3 f = own_hi p3 := by simp [own_el, own_byte, u0, u1, u2]
        have x2 : own_el 1 2 p3 f = own_hi (own_sh p3) := by simp [own_el, own_byte, u0, u1, u2]
        have x3 : own_el 1 3 p3 f = own_lo (own_sh (own_sh p3)) := by simp [own_el, own_byte, u0, u1, u2]
        have x4 : own_el 1 4 p3 f = f := by simp [own_el, own_byte, u0, u1, u2]
        have x5 : own_el 1 5 p3 f = f := by simp [own_el, own_byte, u0, u1, u2]
        have x6 : own_el 1 6 p3 f = f := by simp [own_el, own_byte, u0, u1, u2]
        have x7 : own_el 1 7 p3 f = f := by simp [own_el, own_byte, u0, u1, u2]
        have x8 : own_el 1 8 p3 f = f := by simp [own_el, own_byte, u0, u1, u2]
        refine OEnds.retI X1014 hx hlk Bd.returns (hb hby d1_46) (by decide) (by decide) ?_
        rw [e1014]
        refine ⟨congrArg (fun z => some (Value.int z)) hr, N1014, KK1014, ?_⟩
        unfold own_els
        rw [x0, x1, x2, x3, x4, x5, x6, x7, x8]
        exact f1015
      · -- pc 9: no
        refine OEnds.st (fun _ k => XS.ifNo X1010.here hx rfl (hb hby d1_9) rfl ((if0 _ _).trans (feq hc9_1013).1) k) ?_
        show OEnds p.tables e below G (T1010.setTop (mkF m 12 #[.val (.ref a1), .val (.int (1 : Int32)), .val (.int p3), .val (.int v1012), .val (.int (3 : Int32))] []))
        refine OEnds.st (fun _ k => XS.aloadN X1010.here hx rfl (hb hby d1_12) rfl rfl k) ?_
        show OEnds p.tables e below G (T1010.setTop (mkF m 13 #[.val (.ref a1), .val (.int (1 : Int32)), .val (.int p3), .val (.int v1012), .val (.int (3 : Int32))] [(.ref a1)]))
        refine OEnds.st (fun _ k => XS.iload X1010.here hx rfl (hb hby d1_13) rfl k) ?_
        show OEnds p.tables e below G (T1010.setTop (mkF m 15 #[.val (.ref a1), .val (.int (1 : Int32)), .val (.int p3), .val (.int v1012), .val (.int (3 : Int32))] [(.int (3 : Int32)), (.ref a1)]))
        refine OEnds.st (fun _ k => XS.iloadN X1010.here hx rfl (hb hby d1_15) rfl k) ?_
        show OEnds p.tables e below G (T1010.setTop (mkF m 16 #[.val (.ref a1), .val (.int (1 : Int32)), .val (.int p3), .val (.int v1012), .val (.int (3 : Int32))] [(.int v1012), (.int (3 : Int32)), (.ref a1)]))
        refine OEnds.st (fun _ k => XS.bipush X1010.here hx rfl (hb hby d1_16) k) ?_
        show OEnds p.tables e below G (T1010.setTop (mkF m 18 #[.val (.ref a1), .val (.int (1 : Int32)), .val (.int p3), .val (.int v1012), .val (.int (3 : Int32))] [(.int (127 : Int32)), (.int v1012), (.int (3 : Int32)), (.ref a1)]))
        refine OEnds.st (fun _ k => XS.iand X1010.here hx rfl (hb hby d1_18) rfl k) ?_
        show OEnds p.tables e below G (T1010.setTop (mkF m 19 #[.val (.ref a1), .val (.int (1 : Int32)), .val (.int p3), .val (.int v1012), .val (.int (3 : Int32))] [(.int (v1012 &&& (127 : Int32))), (.int (3 : Int32)), (.ref a1)]))
        refine OEnds.st (fun _ k => XS.sipush X1010.here hx rfl (hb hby d1_19) k) ?_
        show OEnds p.tables e below G (T1010.setTop (mkF m 22 #[.val (.ref a1), .val (.int (1 : Int32)), .val (.int p3), .val (.int v1012), .val (.int (3 : Int32))] [(.int (128 : Int32)), (.int (v1012 &&& (127 : Int32))), (.int (3 : Int32)), (.ref a1)]))
        refine OEnds.st (fun _ k => XS.ior X1010.here hx rfl (hb hby d1_22) rfl k) ?_
        show OEnds p.tables e below G (T1010.setTop (mkF m 23 #[.val (.ref a1), .val (.int (1 : Int32)), .val (.int p3), .val (.int v1012), .val (.int (3 : Int32))] [(.int ((v1012 &&& (127 : Int32)) ||| (128 : Int32))), (.int (3 : Int32)), (.ref a1)]))
        refine OEnds.st (fun _ k => XS.i2b X1010.here hx rfl (hb hby d1_23) rfl k) ?_
        show OEnds p.tables e below G (T1010.setTop (mkF m 24 #[.val (.ref a1), .val (.int (1 : Int32)), .val (.int p3), .val (.int v1012), .val (.int (3 : Int32))] [(.int (((v1012 &&& (127 : Int32)) ||| (128 : Int32)).toInt8.toInt32)), (.int (3 : Int32)), (.ref a1)]))
        obtain ⟨cl1016, Ar1016, q1016, S1016, N1016n, H1016, G1016⟩ := id f1011
        have hin1016 : ¬ ((3 : Int32) < 0 ∨ cl1016.slots.size ≤ ((3 : Int32)).toNatClampNeg) := inb_of S1016 ⟨by decide, by decide⟩
        obtain ⟨T1016, h1016, X1016, e1016, W1016, st1016⟩ := stB X1010 hx hZ e1010 Ar1016 (j := (3 : Int32)) hin1016 (g := (mkF m 24 #[.val (.ref a1), .val (.int (1 : Int32)), .val (.int p3), .val (.int v1012), .val (.int (3 : Int32))] [(.int (((v1012 &&& (127 : Int32)) ||| (128 : Int32)).toInt8.toInt32)), (.int (3 : Int32)), (.ref a1)])) rfl rfl (hb hby d1_24)
        refine OEnds.st st1016 ?_
        rw [own_b8] at W1016
        have f1017 : Arv Z h1016 a1 k .byte (9 : Int32) [(.int f), (.int (((p3 &&& (127 : Int32)) ||| (128 : Int32)).toInt8.toInt32)), (.int (((v1006 &&& (127 : Int32)) ||| (128 : Int32)).toInt8.toInt32)), (.int (((v1012 &&& (127 : Int32)) ||| (128 : Int32)).toInt8.toInt32)), (.int f), (.int f), (.int f), (.int f), (.int f)] (.int (0 : Int32)) := Arv.set Ar1016 q1016 S1016 N1016n H1016 G1016 (fits_nar_byte _) W1016 3 rfl (Nat.le_of_ble_eq_true rfl)
        have N1016 := Fr.snoc X1016 N1010 g_a1
        have KK1016 : Keep h0 h1016 [a1] := KK1010.wr W1016 (Or.inl (List.mem_of_getElem? (i := 0) rfl))
        have Z1016 := Nat.le_trans Z1010 (Keep.of_wr W1016).1
        show OEnds p.tables e below G (T1016.setTop (mkF m 25 #[.val (.ref a1), .val (.int (1 : Int32)), .val (.int p3), .val (.int v1012), .val (.int (3 : Int32))] []))
        refine OEnds.st (fun _ k => XS.iinc X1016.here hx rfl (hb hby d1_25) rfl (l' := #[.val (.ref a1), .val (.int (1 : Int32)), .val (.int p3), .val (.int v1012), .val (.int ((3 : Int32) + (1 : Int32)))]) rfl k) ?_
        show OEnds p.tables e below G (T1016.setTop (mkF m 28 #[.val (.ref a1), .val (.int (1 : Int32)), .val (.int p3), .val (.int v1012), .val (.int ((3 : Int32) + (1 : Int32)))] []))
        rw [show ((3 : Int32) + (1 : Int32)) = (4 : Int32) from by decide]
        show OEnds p.tables e below G (T1016.setTop (mkF m 28 #[.val (.ref a1), .val (.int (1 : Int32)), .val (.int p3), .val (.int v1012), .val (.int (4 : Int32))] []))
        refine OEnds.st (fun _ k => XS.iloadN X1016.here hx rfl (hb hby d1_28) rfl k) ?_
        show OEnds p.tables e below G (T1016.setTop (mkF m 29 #[.val (.ref a1), .val (.int (1 : Int32)), .val (.int p3), .val (.int v1012), .val (.int (4 : Int32))] [(.int v1012)]))
        refine OEnds.st (fun _ k => XS.bipush X1016.here hx rfl (hb hby d1_29) k) ?_
        show OEnds p.tables e below G (T1016.setTop (mkF m 31 #[.val (.ref a1), .val (.int (1 : Int32)), .val (.int p3), .val (.int v1012), .val (.int (4 : Int32))] [(.int (7 : Int32)), (.int v1012)]))
        refine OEnds.st (fun _ k => XS.iushr X1016.here hx rfl (hb hby d1_31) rfl k) ?_
        show OEnds p.tables e below G (T1016.setTop (mkF m 32 #[.val (.ref a1), .val (.int (1 : Int32)), .val (.int p3), .val (.int v1012), .val (.int (4 : Int32))] [(.int ((v1012.toUInt32 >>> ((7 : Int32) &&& 31).toUInt32).toInt32))]))
        refine OEnds.st (fun _ k => XS.istoreN X1016.here hx rfl (hb hby d1_32) rfl (l' := #[.val (.ref a1), .val (.int (1 : Int32)), .val (.int p3), .val (.int ((v1012.toUInt32 >>> ((7 : Int32) &&& 31).toUInt32).toInt32)), .val (.int (4 : Int32))]) rfl k) ?_
        show OEnds p.tables e below G (T1016.setTop (mkF m 33 #[.val (.ref a1), .val (.int (1 : Int32)), .val (.int p3), .val (.int ((v1012.toUInt32 >>> ((7 : Int32) &&& 31).toUInt32).toInt32)), .val (.int (4 : Int32))] []))
        generalize hv_v1018 : ((v1012.toUInt32 >>> ((7 : Int32) &&& 31).toUInt32).toInt32) = v1018
        show OEnds p.tables e below G (T1016.setTop (mkF m 33 #[.val (.ref a1), .val (.int (1 : Int32)), .val (.int p3), .val (.int v1018), .val (.int (4 : Int32))] []))
        refine OEnds.st (fun _ k => XS.goto X1016.here hx rfl (pc0 := 33) (pc' := 5) rfl (hb hby d1_33) (by decide) (by decide) k) ?_
        show OEnds p.tables e below G (T1016.setTop (mkF m 5 #[.val (.ref a1), .val (.int (1 : Int32)), .val (.int p3), .val (.int v1018), .val (.int (4 : Int32))] []))
        refine OEnds.st (fun _ k => XS.iloadN X1016.here hx rfl (hb hby d1_5) rfl k) ?_
        show OEnds p.tables e below G (T1016.setTop (mkF m 6 #[.val (.ref a1), .val (.int (1 : Int32)), .val (.int p3), .val (.int v1018), .val (.int (4 : Int32))] [(.int v1018)]))
        refine OEnds.st (fun _ k => XS.bipush X1016.here hx rfl (hb hby d1_6) k) ?_
        show OEnds p.tables e below G (T1016.setTop (mkF m 8 #[.val (.ref a1), .val (.int (1 : Int32)), .val (.int p3), .val (.int v1018), .val (.int (4 : Int32))] [(.int (-128 : Int32)), (.int v1018)]))
        refine OEnds.st (fun _ k => XS.iand X1016.here hx rfl (hb hby d1_8) rfl k) ?_
        show OEnds p.tables e below G (T1016.setTop (mkF m 9 #[.val (.ref a1), .val (.int (1 : Int32)), .val (.int p3), .val (.int v1018), .val (.int (4 : Int32))] [(.int (v1018 &&& (-128 : Int32)))]))
        by_cases hc9_1019 : (v1018 &&& (-128 : Int32)) = (0 : Int32)
        · -- pc 9: yes
          refine OEnds.st (fun _ k => XS.ifYes X1016.here hx rfl (pc0 := 9) (pc' := 36) rfl (hb hby d1_9) rfl ((if0 _ _).trans (teq hc9_1019).1) (by decide) (by decide) k) ?_
          show OEnds p.tables e below G (T1016.setTop (mkF m 36 #[.val (.ref a1), .val (.int (1 : Int32)), .val (.int p3), .val (.int v1018), .val (.int (4 : Int32))] []))
          refine OEnds.st (fun _ k => XS.aloadN X1016.here hx rfl (hb hby d1_36) rfl rfl k) ?_
          show OEnds p.tables e below G (T1016.setTop (mkF m 37 #[.val (.ref a1), .val (.int (1 : Int32)), .val (.int p3), .val (.int v1018), .val (.int (4 : Int32))] [(.ref a1)]))
          refine OEnds.st (fun _ k => XS.iload X1016.here hx rfl (hb hby d1_37) rfl k) ?_
          show OEnds p.tables e below G (T1016.setTop (mkF m 39 #[.val (.ref a1), .val (.int (1 : Int32)), .val (.int p3), .val (.int v1018), .val (.int (4 : Int32))] [(.int (4 : Int32)), (.ref a1)]))
          refine OEnds.st (fun _ k => XS.iloadN X1016.here hx rfl (hb hby d1_39) rfl k) ?_
          show OEnds p.tables e below G (T1016.setTop (mkF m 40 #[.val (.ref a1), .val (.int (1 : Int32)), .val (.int p3), .val (.int v1018), .val (.int (4 : Int32))] [(.int v1018), (.int (4 : Int32)), (.ref a1)]))
          refine OEnds.st (fun _ k => XS.i2b X1016.here hx rfl (hb hby d1_40) rfl k) ?_
          show OEnds p.tables e below G (T1016.setTop (mkF m 41 #[.val (.ref a1), .val (.int (1 : Int32)), .val (.int p3), .val (.int v1018), .val (.int (4 : Int32))] [(.int (v1018.toInt8.toInt32)), (.int (4 : Int32)), (.ref a1)]))
          obtain ⟨cl1020, Ar1020, q1020, S1020, N1020n, H1020, G1020⟩ := id f1017
          have hin1020 : ¬ ((4 : Int32) < 0 ∨ cl1020.slots.size ≤ ((4 : Int32)).toNatClampNeg) := inb_of S1020 ⟨by decide, by decide⟩
          obtain ⟨T1020, h1020, X1020, e1020, W1020, st1020⟩ := stB X1016 hx hZ e1016 Ar1020 (j := (4 : Int32)) hin1020 (g := (mkF m 41 #[.val (.ref a1), .val (.int (1 : Int32)), .val (.int p3), .val (.int v1018), .val (.int (4 : Int32))] [(.int (v1018.toInt8.toInt32)), (.int (4 : Int32)), (.ref a1)])) rfl rfl (hb hby d1_41)
          refine OEnds.st st1020 ?_
          rw [own_b8] at W1020
          have f1021 : Arv Z h1020 a1 k .byte (9 : Int32) [(.int f), (.int (((p3 &&& (127 : Int32)) ||| (128 : Int32)).toInt8.toInt32)), (.int (((v1006 &&& (127 : Int32)) ||| (128 : Int32)).toInt8.toInt32)), (.int (((v1012 &&& (127 : Int32)) ||| (128 : Int32)).toInt8.toInt32)), (.int (v1018.toInt8.toInt32)), (.int f), (.int f), (.int f), (.int f)] (.int (0 : Int32)) := Arv.set Ar1020 q1020 S1020 N1020n H1020 G1020 (fits_nar_byte _) W1020 4 rfl (Nat.le_of_ble_eq_true rfl)
          have N1020 := Fr.snoc X1020 N1016 g_a1
          have KK1020 : Keep h0 h1020 [a1] := KK1016.wr W1020 (Or.inl (List.mem_of_getElem? (i := 0) rfl))
          have Z1020 := Nat.le_trans Z1016 (Keep.of_wr W1020).1
          show OEnds p.tables e below G (T1020.setTop (mkF m 42 #[.val (.ref a1), .val (.int (1 : Int32)), .val (.int p3), .val (.int v1018), .val (.int (4 : Int32))] []))
          refine OEnds.st (fun _ k => XS.iload X1020.here hx rfl (hb hby d1_42) rfl k) ?_
          show OEnds p.tables e below G (T1020.setTop (mkF m 44 #[.val (.ref a1), .val (.int (1 : Int32)), .val (.int p3), .val (.int v1018), .val (.int (4 : Int32))] [(.int (4 : Int32))]))
          refine OEnds.st (fun _ k => XS.iconst X1020.here hx rfl (hb hby d1_44) k) ?_
          show OEnds p.tables e below G (T1020.setTop (mkF m 45 #[.val (.ref a1), .val (.int (1 : Int32)), .val (.int p3), .val (.int v1018), .val (.int (4 : Int32))] [(.int (1 : Int32)), (.int (4 : Int32))]))
          refine OEnds.st (fun _ k => XS.iadd X1020.here hx rfl (hb hby d1_45) rfl k) ?_
          show OEnds p.tables e below G (T1020.setTop (mkF m 46 #[.val (.ref a1), .val (.int (1 : Int32)), .val (.int p3), .val (.int v1018), .val (.int (4 : Int32))] [(.int ((4 : Int32) + (1 : Int32)))]))
          rw [← hG]
          subst hv_v1006 hv_v1012 hv_v1018
          have u0 : ¬ (p3 &&& (-128 : Int32)) = (0 : Int32) := hc9_1001
          have u1 : ¬ ((own_sh p3) &&& (-128 : Int32)) = (0 : Int32) := hc9_1007
          have u2 : ¬ ((own_sh (own_sh p3)) &&& (-128 : Int32)) = (0 : Int32) := hc9_1013
          have u3 : ((own_sh (own_sh (own_sh p3))) &&& (-128 : Int32)) = (0 : Int32) := hc9_1019
          have hq : own_cnt p3 = (4 : Int32) := by simp [own_cnt, u0, u1, u2, u3]
          have hr : ((4 : Int32) + (1 : Int32)) = (1 : Int32) + own_cnt p3 := by first | (rw [hq]; done) | (rw [hq]; decide)
          have x0 : own_el 1 0 p3 f = f := by simp [own_el, own_byte, u0, u1, u2, u3]
          have x1 : own_el 1 1 p3 f = own_hi p3 := by simp [own_el, own_byte, u0, u1, u2, u3]
          have x2 : own_el 1 2 p3 f = own_hi (own_sh p3) := by simp [own_el, own_byte, u0, u1, u2, u3]
          have x3 : own_el 1 3 p3 f = own_hi (own_sh (own_sh p3)) := by simp [own_el, own_byte, u0, u1, u2, u3]
          have x4 : own_el 1 4 p3 f = own_lo (own_sh (own_sh (own_sh p3))) := by simp [own_el, own_byte, u0, u1, u2, u3]
          have x5 : own_el 1 5 p3 f = f := by simp [own_el, own_byte, u0, u1, u2, u3]
          have x6 : own_el 1 6 p3 f = f := by simp [own_el, own_byte, u0, u1, u2, u3]
          have x7 : own_el 1 7 p3 f = f := by simp [own_el, own_byte, u0, u1, u2, u3]
          have x8 : own_el 1 8 p3 f = f := by simp [own_el, own_byte, u0, u1, u2, u3]
          refine OEnds.retI X1020 hx hlk Bd.returns (hb hby d1_46) (by decide) (by decide) ?_
          rw [e1020]
          refine ⟨congrArg (fun z => some (Value.int z)) hr, N1020, KK1020, ?_⟩
          unfold own_els
          rw [x0, x1, x2, x3, x4, x5, x6, x7, x8]
          exact f1021
        · -- pc 9: no
          refine OEnds.st (fun _ k => XS.ifNo X1016.here hx rfl (hb hby d1_9) rfl ((if0 _ _).trans (feq hc9_1019).1) k) ?_
          show OEnds p.tables e below G (T1016.setTop (mkF m 12 #[.val (.ref a1), .val (.int (1 : Int32)), .val (.int p3), .val (.int v1018), .val (.int (4 : Int32))] []))
          refine OEnds.st (fun _ k => XS.aloadN X1016.here hx rfl (hb hby d1_12) rfl rfl k) ?_
          show OEnds p.tables e below G (T1016.setTop (mkF m 13 #[.val (.ref a1), .val (.int (1 : Int32)), .val (.int p3), .val (.int v1018), .val (.int (4 : Int32))] [(.ref a1)]))
          refine OEnds.st (fun _ k => XS.iload X1016.here hx rfl (hb hby d1_13) rfl k) ?_
          show OEnds p.tables e below G (T1016.setTop (mkF m 15 #[.val (.ref a1), .val (.int (1 : Int32)), .val (.int p3), .val (.int v1018), .val (.int (4 : Int32))] [(.int (4 : Int32)), (.ref a1)]))
          refine OEnds.st (fun _ k => XS.iloadN X1016.here hx rfl (hb hby d1_15) rfl k) ?_
          show OEnds p.tables e below G (T1016.setTop (mkF m 16 #[.val (.ref a1), .val (.int (1 : Int32)), .val (.int p3), .val (.int v1018), .val (.int (4 : Int32))] [(.int v1018), (.int (4 : Int32)), (.ref a1)]))
          refine OEnds.st (fun _ k => XS.bipush X1016.here hx rfl (hb hby d1_16) k) ?_
          show OEnds p.tables e below G (T1016.setTop (mkF m 18 #[.val (.ref a1), .val (.int (1 : Int32)), .val (.int p3), .val (.int v1018), .val (.int (4 : Int32))] [(.int (127 : Int32)), (.int v1018), (.int (4 : Int32)), (.ref a1)]))
          refine OEnds.st (fun _ k => XS.iand X1016.here hx rfl (hb hby d1_18) rfl k) ?_
          show OEnds p.tables e below G (T1016.setTop (mkF m 19 #[.val (.ref a1), .val (.int (1 : Int32)), .val (.int p3), .val (.int v1018), .val (.int (4 : Int32))] [(.int (v1018 &&& (127 : Int32))), (.int (4 : Int32)), (.ref a1)]))
          refine OEnds.st (fun _ k => XS.sipush X1016.here hx rfl (hb hby d1_19) k) ?_
          show OEnds p.tables e below G (T1016.setTop (mkF m 22 #[.val (.ref a1), .val (.int (1 : Int32)), .val (.int p3), .val (.int v1018), .val (.int (4 : Int32))] [(.int (128 : Int32)), (.int (v1018 &&& (127 : Int32))), (.int (4 : Int32)), (.ref a1)]))
          refine OEnds.st (fun _ k => XS.ior X1016.here hx rfl (hb hby d1_22) rfl k) ?_
          show OEnds p.tables e below G (T1016.setTop (mkF m 23 #[.val (.ref a1), .val (.int (1 : Int32)), .val (.int p3), .val (.int v1018), .val (.int (4 : Int32))] [(.int ((v1018 &&& (127 : Int32)) ||| (128 : Int32))), (.int (4 : Int32)), (.ref a1)]))
          refine OEnds.st (fun _ k => XS.i2b X1016.here hx rfl (hb hby d1_23) rfl k) ?_
          show OEnds p.tables e below G (T1016.setTop (mkF m 24 #[.val (.ref a1), .val (.int (1 : Int32)), .val (.int p3), .val (.int v1018), .val (.int (4 : Int32))] [(.int (((v1018 &&& (127 : Int32)) ||| (128 : Int32)).toInt8.toInt32)), (.int (4 : Int32)), (.ref a1)]))
          obtain ⟨cl1022, Ar1022, q1022, S1022, N1022n, H1022, G1022⟩ := id f1017
          have hin1022 : ¬ ((4 : Int32) < 0 ∨ cl1022.slots.size ≤ ((4 : Int32)).toNatClampNeg) := inb_of S1022 ⟨by decide, by decide⟩
          obtain ⟨T1022, h1022, X1022, e1022, W1022, st1022⟩ := stB X1016 hx hZ e1016 Ar1022 (j := (4 : Int32)) hin1022 (g := (mkF m 24 #[.val (.ref a1), .val (.int (1 : Int32)), .val (.int p3), .val (.int v1018), .val (.int (4 : Int32))] [(.int (((v1018 &&& (127 : Int32)) ||| (128 : Int32)).toInt8.toInt32)), (.int (4 : Int32)), (.ref a1)])) rfl rfl (hb hby d1_24)
          refine OEnds.st st1022 ?_
          rw [own_b8] at W1022
          have f1023 : Arv Z h1022 a1 k .byte (9 : Int32) [(.int f), (.int (((p3 &&& (127 : Int32)) ||| (128 : Int32)).toInt8.toInt32)), (.int (((v1006 &&& (127 : Int32)) ||| (128 : Int32)).toInt8.toInt32)), (.int (((v1012 &&& (127 : Int32)) ||| (128 : Int32)).toInt8.toInt32)), (.int (((v1018 &&& (127 : Int32)) ||| (128 : Int32)).toInt8.toInt32)), (.int f), (.int f), (.int f), (.int f)] (.int (0 : Int32)) := Arv.set Ar1022 q1022 S1022 N1022n H1022 G1022 (fits_nar_byte _) W1022 4 rfl (Nat.le_of_ble_eq_true rfl)
          have N1022 := Fr.snoc X1022 N1016 g_a1
          have KK1022 : Keep h0 h1022 [a1] := KK1016.wr W1022 (Or.inl (List.mem_of_getElem? (i := 0) rfl))
          have Z1022 := Nat.le_trans Z1016 (Keep.of_wr W1022).1
          show OEnds p.tables e below G (T1022.setTop (mkF m 25 #[.val (.ref a1), .val (.int (1 : Int32)), .val (.int p3), .val (.int v1018), .val (.int (4 : Int32))] []))
          refine OEnds.st (fun _ k => XS.iinc X1022.here hx rfl (hb hby d1_25) rfl (l' := #[.val (.ref a1), .val (.int (1 : Int32)), .val (.int p3), .val (.int v1018), .val (.int ((4 : Int32) + (1 : Int32)))]) rfl k) ?_
          show OEnds p.tables e below G (T1022.setTop (mkF m 28 #[.val (.ref a1), .val (.int (1 : Int32)), .val (.int p3), .val (.int v1018), .val (.int ((4 : Int32) + (1 : Int32)))] []))
          rw [show ((4 : Int32) + (1 : Int32)) = (5 : Int32) from by decide]
          show OEnds p.tables e below G (T1022.setTop (mkF m 28 #[.val (.ref a1), .val (.int (1 : Int32)), .val (.int p3), .val (.int v1018), .val (.int (5 : Int32))] []))
          refine OEnds.st (fun _ k => XS.iloadN X1022.here hx rfl (hb hby d1_28) rfl k) ?_
          show OEnds p.tables e below G (T1022.setTop (mkF m 29 #[.val (.ref a1), .val (.int (1 : Int32)), .val (.int p3), .val (.int v1018), .val (.int (5 : Int32))] [(.int v1018)]))
          refine OEnds.st (fun _ k => XS.bipush X1022.here hx rfl (hb hby d1_29) k) ?_
          show OEnds p.tables e below G (T1022.setTop (mkF m 31 #[.val (.ref a1), .val (.int (1 : Int32)), .val (.int p3), .val (.int v1018), .val (.int (5 : Int32))] [(.int (7 : Int32)), (.int v1018)]))
          refine OEnds.st (fun _ k => XS.iushr X1022.here hx rfl (hb hby d1_31) rfl k) ?_
          show OEnds p.tables e below G (T1022.setTop (mkF m 32 #[.val (.ref a1), .val (.int (1 : Int32)), .val (.int p3), .val (.int v1018), .val (.int (5 : Int32))] [(.int ((v1018.toUInt32 >>> ((7 : Int32) &&& 31).toUInt32).toInt32))]))
          refine OEnds.st (fun _ k => XS.istoreN X1022.here hx rfl (hb hby d1_32) rfl (l' := #[.val (.ref a1), .val (.int (1 : Int32)), .val (.int p3), .val (.int ((v1018.toUInt32 >>> ((7 : Int32) &&& 31).toUInt32).toInt32)), .val (.int (5 : Int32))]) rfl k) ?_
          show OEnds p.tables e below G (T1022.setTop (mkF m 33 #[.val (.ref a1), .val (.int (1 : Int32)), .val (.int p3), .val (.int ((v1018.toUInt32 >>> ((7 : Int32) &&& 31).toUInt32).toInt32)), .val (.int (5 : Int32))] []))
          generalize hv_v1024 : ((v1018.toUInt32 >>> ((7 : Int32) &&& 31).toUInt32).toInt32) = v1024
          show OEnds p.tables e below G (T1022.setTop (mkF m 33 #[.val (.ref a1), .val (.int (1 : Int32)), .val (.int p3), .val (.int v1024), .val (.int (5 : Int32))] []))
          refine OEnds.st (fun _ k => XS.goto X1022.here hx rfl (pc0 := 33) (pc' := 5) rfl (hb hby d1_33) (by decide) (by decide) k) ?_
          show OEnds p.tables e below G (T1022.setTop (mkF m 5 #[.val (.ref a1), .val (.int (1 : Int32)), .val (.int p3), .val (.int v1024), .val (.int (5 : Int32))] []))
          refine OEnds.st (fun _ k => XS.iloadN X1022.here hx rfl (hb hby d1_5) rfl k) ?_
          show OEnds p.tables e below G (T1022.setTop (mkF m 6 #[.val (.ref a1), .val (.int (1 : Int32)), .val (.int p3), .val (.int v1024), .val (.int (5 : Int32))] [(.int v1024)]))
          refine OEnds.st (fun _ k => XS.bipush X1022.here hx rfl (hb hby d1_6) k) ?_
          show OEnds p.tables e below G (T1022.setTop (mkF m 8 #[.val (.ref a1), .val (.int (1 : Int32)), .val (.int p3), .val (.int v1024), .val (.int (5 : Int32))] [(.int (-128 : Int32)), (.int v1024)]))
          refine OEnds.st (fun _ k => XS.iand X1022.here hx rfl (hb hby d1_8) rfl k) ?_
          show OEnds p.tables e below G (T1022.setTop (mkF m 9 #[.val (.ref a1), .val (.int (1 : Int32)), .val (.int p3), .val (.int v1024), .val (.int (5 : Int32))] [(.int (v1024 &&& (-128 : Int32)))]))
          have hc9_1025 : (v1024 &&& (-128 : Int32)) = (0 : Int32) := by subst hv_v1006 hv_v1012 hv_v1018 hv_v1024; exact own_five p3
          refine OEnds.st (fun _ k => XS.ifYes X1022.here hx rfl (pc0 := 9) (pc' := 36) rfl (hb hby d1_9) rfl ((if0 _ _).trans (teq hc9_1025).1) (by decide) (by decide) k) ?_
          show OEnds p.tables e below G (T1022.setTop (mkF m 36 #[.val (.ref a1), .val (.int (1 : Int32)), .val (.int p3), .val (.int v1024), .val (.int (5 : Int32))] []))
          refine OEnds.st (fun _ k => XS.aloadN X1022.here hx rfl (hb hby d1_36) rfl rfl k) ?_
          show OEnds p.tables e below G (T1022.setTop (mkF m 37 #[.val (.ref a1), .val (.int (1 : Int32)), .val (.int p3), .val (.int v1024), .val (.int (5 : Int32))] [(.ref a1)]))
          refine OEnds.st (fun _ k => XS.iload X1022.here hx rfl (hb hby d1_37) rfl k) ?_
          show OEnds p.tables e below G (T1022.setTop (mkF m 39 #[.val (.ref a1), .val (.int (1 : Int32)), .val (.int p3), .val (.int v1024), .val (.int (5 : Int32))] [(.int (5 : Int32)), (.ref a1)]))
          refine OEnds.st (fun _ k => XS.iloadN X1022.here hx rfl (hb hby d1_39) rfl k) ?_
          show OEnds p.tables e below G (T1022.setTop (mkF m 40 #[.val (.ref a1), .val (.int (1 : Int32)), .val (.int p3), .val (.int v1024), .val (.int (5 : Int32))] [(.int v1024), (.int (5 : Int32)), (.ref a1)]))
          refine OEnds.st (fun _ k => XS.i2b X1022.here hx rfl (hb hby d1_40) rfl k) ?_
          show OEnds p.tables e below G (T1022.setTop (mkF m 41 #[.val (.ref a1), .val (.int (1 : Int32)), .val (.int p3), .val (.int v1024), .val (.int (5 : Int32))] [(.int (v1024.toInt8.toInt32)), (.int (5 : Int32)), (.ref a1)]))
          obtain ⟨cl1026, Ar1026, q1026, S1026, N1026n, H1026, G1026⟩ := id f1023
          have hin1026 : ¬ ((5 : Int32) < 0 ∨ cl1026.slots.size ≤ ((5 : Int32)).toNatClampNeg) := inb_of S1026 ⟨by decide, by decide⟩
          obtain ⟨T1026, h1026, X1026, e1026, W1026, st1026⟩ := stB X1022 hx hZ e1022 Ar1026 (j := (5 : Int32)) hin1026 (g := (mkF m 41 #[.val (.ref a1), .val (.int (1 : Int32)), .val (.int p3), .val (.int v1024), .val (.int (5 : Int32))] [(.int (v1024.toInt8.toInt32)), (.int (5 : Int32)), (.ref a1)])) rfl rfl (hb hby d1_41)
          refine OEnds.st st1026 ?_
          rw [own_b8] at W1026
          have f1027 : Arv Z h1026 a1 k .byte (9 : Int32) [(.int f), (.int (((p3 &&& (127 : Int32)) ||| (128 : Int32)).toInt8.toInt32)), (.int (((v1006 &&& (127 : Int32)) ||| (128 : Int32)).toInt8.toInt32)), (.int (((v1012 &&& (127 : Int32)) ||| (128 : Int32)).toInt8.toInt32)), (.int (((v1018 &&& (127 : Int32)) ||| (128 : Int32)).toInt8.toInt32)), (.int (v1024.toInt8.toInt32)), (.int f), (.int f), (.int f)] (.int (0 : Int32)) := Arv.set Ar1026 q1026 S1026 N1026n H1026 G1026 (fits_nar_byte _) W1026 5 rfl (Nat.le_of_ble_eq_true rfl)
          have N1026 := Fr.snoc X1026 N1022 g_a1
          have KK1026 : Keep h0 h1026 [a1] := KK1022.wr W1026 (Or.inl (List.mem_of_getElem? (i := 0) rfl))
          have Z1026 := Nat.le_trans Z1022 (Keep.of_wr W1026).1
          show OEnds p.tables e below G (T1026.setTop (mkF m 42 #[.val (.ref a1), .val (.int (1 : Int32)), .val (.int p3), .val (.int v1024), .val (.int (5 : Int32))] []))
          refine OEnds.st (fun _ k => XS.iload X1026.here hx rfl (hb hby d1_42) rfl k) ?_
          show OEnds p.tables e below G (T1026.setTop (mkF m 44 #[.val (.ref a1), .val (.int (1 : Int32)), .val (.int p3), .val (.int v1024), .val (.int (5 : Int32))] [(.int (5 : Int32))]))
          refine OEnds.st (fun _ k => XS.iconst X1026.here hx rfl (hb hby d1_44) k) ?_
          show OEnds p.tables e below G (T1026.setTop (mkF m 45 #[.val (.ref a1), .val (.int (1 : Int32)), .val (.int p3), .val (.int v1024), .val (.int (5 : Int32))] [(.int (1 : Int32)), (.int (5 : Int32))]))
          refine OEnds.st (fun _ k => XS.iadd X1026.here hx rfl (hb hby d1_45) rfl k) ?_
          show OEnds p.tables e below G (T1026.setTop (mkF m 46 #[.val (.ref a1), .val (.int (1 : Int32)), .val (.int p3), .val (.int v1024), .val (.int (5 : Int32))] [(.int ((5 : Int32) + (1 : Int32)))]))
          rw [← hG]
          subst hv_v1006 hv_v1012 hv_v1018 hv_v1024
          have u0 : ¬ (p3 &&& (-128 : Int32)) = (0 : Int32) := hc9_1001
          have u1 : ¬ ((own_sh p3) &&& (-128 : Int32)) = (0 : Int32) := hc9_1007
          have u2 : ¬ ((own_sh (own_sh p3)) &&& (-128 : Int32)) = (0 : Int32) := hc9_1013
          have u3 : ¬ ((own_sh (own_sh (own_sh p3))) &&& (-128 : Int32)) = (0 : Int32) := hc9_1019
          have u4 : ((own_sh (own_sh (own_sh (own_sh p3)))) &&& (-128 : Int32)) = (0 : Int32) := hc9_1025
          have hq : own_cnt p3 = (5 : Int32) := by simp [own_cnt, u0, u1, u2, u3, u4]
          have hr : ((5 : Int32) + (1 : Int32)) = (1 : Int32) + own_cnt p3 := by first | (rw [hq]; done) | (rw [hq]; decide)
          have x0 : own_el 1 0 p3 f = f := by simp [own_el, own_byte, u0, u1, u2, u3, u4]
          have x1 : own_el 1 1 p3 f = own_hi p3 := by simp [own_el, own_byte, u0, u1, u2, u3, u4]
          have x2 : own_el 1 2 p3 f = own_hi (own_sh p3) := by simp [own_el, own_byte, u0, u1, u2, u3, u4]
          have x3 : own_el 1 3 p3 f = own_hi (own_sh (own_sh p3)) := by simp [own_el, own_byte, u0, u1, u2, u3, u4]
          have x4 : own_el 1 4 p3 f = own_hi (own_sh (own_sh (own_sh p3))) := by simp [own_el, own_byte, u0, u1, u2, u3, u4]
          have x5 : own_el 1 5 p3 f = own_lo (own_sh (own_sh (own_sh (own_sh p3)))) := by simp [own_el, own_byte, u0, u1, u2, u3, u4]
          have x6 : own_el 1 6 p3 f = f := by simp [own_el, own_byte, u0, u1, u2, u3, u4]
          have x7 : own_el 1 7 p3 f = f := by simp [own_el, own_byte, u0, u1, u2, u3, u4]
          have x8 : own_el 1 8 p3 f = f := by simp [own_el, own_byte, u0, u1, u2, u3, u4]
          refine OEnds.retI X1026 hx hlk Bd.returns (hb hby d1_46) (by decide) (by decide) ?_
          rw [e1026]
          refine ⟨congrArg (fun z => some (Value.int z)) hr, N1026, KK1026, ?_⟩
          unfold own_els
          rw [x0, x1, x2, x3, x4, x5, x6, x7, x8]
          exact f1027
theorem ef_put2 (m : MethodId) (a1 : Addr) (p3 : Int32) : entryFrame m #[(.ref a1), (.int (2 : Int32)), (.int p3)] 5 = mkF m 0 #[.val (.ref a1), .val (.int (2 : Int32)), .val (.int p3), .unset, .unset] [] := by first | (simp [entryFrame, mkF, argsToLocals, Value.category]; done) | rfl
def Qput2 (Z : State) (a1 : Addr) (p3 : Int32) (k : ClassId) (f : Int32) (h0 : Heap) (n0 : Nat) (v : Option Value) (h : Heap) (L : List Loc) : Prop := v = some (.int ((2 : Int32) + own_cnt p3)) ∧ Fr n0 L ∧ Keep h0 h [a1] ∧ Arv Z h a1 k .byte (9 : Int32) (own_els 2 p3 f) (.int (0 : Int32))
set_option maxRecDepth 65536 in
set_option maxHeartbeats 40000000 in
theorem rmput2 (l : Launch) (Z : State) (a0 : Array Value) (hw : ∀ d ∈ tables_1, d.before a0 Z = true) (ws : List Jvm.Cond) (a1 : Addr) (p3 : Int32) (k : ClassId) (f : Int32) (h0 : Heap) (n0 : Nat) (Z0 : n0 ≤ h0.size) (V : Arv Z h0 a1 k .byte (9 : Int32) [(.int f), (.int f), (.int f), (.int f), (.int f), (.int f), (.int f), (.int f), (.int f)] (.int (0 : Int32))) (g_a1 : n0 ≤ a1) (hf8 : nar .byte f = f) :
    MetFree l (⟨"com/example/words_to_weights/wordstoweights/index/IndexFormat", "putNumber", "([BII)I"⟩ : MethodName) (head1 (Jvm.Cond.code (⟨"com/example/words_to_weights/wordstoweights/index/IndexFormat", "putNumber", "([BII)I"⟩ : MethodName) prog_39_method_2_code 5 (some .int) :: ws) ({ frames := 0, cells := 0, slots := 0, locals := 0 } : Room)) (fun a U => a = #[(.ref a1), (.int (2 : Int32)), (.int p3)] ∧ Z.Warmed39 U.vm ∧ U.heap = h0) (fun _ _ _ _ _ => True) (fun _ U o U' => ∃ v L, o = .returned v ∧ Qput2 Z a1 p3 k f h0 n0 v U'.heap L ∧ FrameEnd U o U' L ({ frames := 0, cells := 0, slots := 0, locals := 0 } : Room).cells ({ frames := 0, cells := 0, slots := 0, locals := 0 } : Room).slots) := by
  refine MetFree.of_bodySF (plainFor_of_name pn_0) hisR ?_
  intro p e s m args below meth c s₁ Bd hml0 hP hK
  obtain ⟨rfl, hZ, hh⟩ := hP
  have hx := Bd.exec
  have hby := Bd.bytes
  have hml : c.maxLocals = 5 := hml0
  have hown : s.vm.findClass "com/example/words_to_weights/wordstoweights/index/IndexFormat" = some m.cls := findClass_of_methodNamed Bd.named
  have hnm := (name_of_methodNamed Bd.named Bd.method).1
  have hlk : meth.locks = false := BodyLoose.notSynchronized Bd
  have X0 : Stand p l e ({ frames := 0, cells := 0, slots := 0, locals := 0 } : Room) s m #[(.ref a1), (.int (2 : Int32)), (.int p3)] below meth c s₁ [] 0 0 := Stand.of_body Bd
  have e0 : s₁.heap = h0 := by rw [← hh, Bd.state]; rfl
  have N0 := Fr.nil n0
  show OEnds p.tables e below (OGoal (Qput2 Z a1 p3 k f h0 n0) s 0 0) (s₁.setTop (entryFrame m #[(.ref a1), (.int (2 : Int32)), (.int p3)] 5))
  refine OEnds.st (fun t k => castTop (ef_put2 m a1 p3) k) ?_
  generalize hG : OGoal (Qput2 Z a1 p3 k f h0 n0) s 0 0 = G
  have KK0 : Keep h0 h0 [a1] := Keep.refl h0 [a1]
  show OEnds p.tables e below G (s₁.setTop (mkF m 0 #[.val (.ref a1), .val (.int (2 : Int32)), .val (.int p3), .unset, .unset] []))
  refine OEnds.st (fun _ k => XS.iloadN X0.here hx rfl (hb hby d1_0) rfl k) ?_
  show OEnds p.tables e below G (s₁.setTop (mkF m 1 #[.val (.ref a1), .val (.int (2 : Int32)), .val (.int p3), .unset, .unset] [(.int p3)]))
  refine OEnds.st (fun _ k => XS.istoreN X0.here hx rfl (hb hby d1_1) rfl (l' := #[.val (.ref a1), .val (.int (2 : Int32)), .val (.int p3), .val (.int p3), .unset]) rfl k) ?_
  show OEnds p.tables e below G (s₁.setTop (mkF m 2 #[.val (.ref a1), .val (.int (2 : Int32)), .val (.int p3), .val (.int p3), .unset] []))
  refine OEnds.st (fun _ k => XS.iloadN X0.here hx rfl (hb hby d1_2) rfl k) ?_
  show OEnds p.tables e below G (s₁.setTop (mkF m 3 #[.val (.ref a1), .val (.int (2 : Int32)), .val (.int p3), .val (.int p3), .unset] [(.int (2 : Int32))]))
  refine OEnds.st (fun _ k => XS.istore X0.here hx rfl (hb hby d1_3) rfl (l' := #[.val (.ref a1), .val (.int (2 : Int32)), .val (.int p3), .val (.int p3), .val (.int (2 : Int32))]) rfl k) ?_
  show OEnds p.tables e below G (s₁.setTop (mkF m 5 #[.val (.ref a1), .val (.int (2 : Int32)), .val (.int p3), .val (.int p3), .val (.int (2 : Int32))] []))
  refine OEnds.st (fun _ k => XS.iloadN X0.here hx rfl (hb hby d1_5) rfl k) ?_
  show OEnds p.tables e below G (s₁.setTop (mkF m 6 #[.val (.ref a1), .val (.int (2 : Int32)), .val (.int p3), .val (.int p3), .val (.int (2 : Int32))] [(.int p3)]))
  refine OEnds.st (fun _ k => XS.bipush X0.here hx rfl (hb hby d1_6) k) ?_
  show OEnds p.tables e below G (s₁.setTop (mkF m 8 #[.val (.ref a1), .val (.int (2 : Int32)), .val (.int p3), .val (.int p3), .val (.int (2 : Int32))] [(.int (-128 : Int32)), (.int p3)]))
  refine OEnds.st (fun _ k => XS.iand X0.here hx rfl (hb hby d1_8) rfl k) ?_
  show OEnds p.tables e below G (s₁.setTop (mkF m 9 #[.val (.ref a1), .val (.int (2 : Int32)), .val (.int p3), .val (.int p3), .val (.int (2 : Int32))] [(.int (p3 &&& (-128 : Int32)))]))
  by_cases hc9_1001 : (p3 &&& (-128 : Int32)) = (0 : Int32)
  · -- pc 9: yes
    refine OEnds.st (fun _ k => XS.ifYes X0.here hx rfl (pc0 := 9) (pc' := 36) rfl (hb hby d1_9) rfl ((if0 _ _).trans (teq hc9_1001).1) (by decide) (by decide) k) ?_
    show OEnds p.tables e below G (s₁.setTop (mkF m 36 #[.val (.ref a1), .val (.int (2 : Int32)), .val (.int p3), .val (.int p3), .val (.int (2 : Int32))] []))
    refine OEnds.st (fun _ k => XS.aloadN X0.here hx rfl (hb hby d1_36) rfl rfl k) ?_
    show OEnds p.tables e below G (s₁.setTop (mkF m 37 #[.val (.ref a1), .val (.int (2 : Int32)), .val (.int p3), .val (.int p3), .val (.int (2 : Int32))] [(.ref a1)]))
    refine OEnds.st (fun _ k => XS.iload X0.here hx rfl (hb hby d1_37) rfl k) ?_
    show OEnds p.tables e below G (s₁.setTop (mkF m 39 #[.val (.ref a1), .val (.int (2 : Int32)), .val (.int p3), .val (.int p3), .val (.int (2 : Int32))] [(.int (2 : Int32)), (.ref a1)]))
    refine OEnds.st (fun _ k => XS.iloadN X0.here hx rfl (hb hby d1_39) rfl k) ?_
    show OEnds p.tables e below G (s₁.setTop (mkF m 40 #[.val (.ref a1), .val (.int (2 : Int32)), .val (.int p3), .val (.int p3), .val (.int (2 : Int32))] [(.int p3), (.int (2 : Int32)), (.ref a1)]))
    refine OEnds.st (fun _ k => XS.i2b X0.here hx rfl (hb hby d1_40) rfl k) ?_
    show OEnds p.tables e below G (s₁.setTop (mkF m 41 #[.val (.ref a1), .val (.int (2 : Int32)), .val (.int p3), .val (.int p3), .val (.int (2 : Int32))] [(.int (p3.toInt8.toInt32)), (.int (2 : Int32)), (.ref a1)]))
    obtain ⟨cl1002, Ar1002, q1002, S1002, N1002n, H1002, G1002⟩ := id V
    have hin1002 : ¬ ((2 : Int32) < 0 ∨ cl1002.slots.size ≤ ((2 : Int32)).toNatClampNeg) := inb_of S1002 ⟨by decide, by decide⟩
    obtain ⟨T1002, h1002, X1002, e1002, W1002, st1002⟩ := stB X0 hx hZ e0 Ar1002 (j := (2 : Int32)) hin1002 (g := (mkF m 41 #[.val (.ref a1), .val (.int (2 : Int32)), .val (.int p3), .val (.int p3), .val (.int (2 : Int32))] [(.int (p3.toInt8.toInt32)), (.int (2 : Int32)), (.ref a1)])) rfl rfl (hb hby d1_41)
    refine OEnds.st st1002 ?_
    rw [own_b8] at W1002
    have f1003 : Arv Z h1002 a1 k .byte (9 : Int32) [(.int f), (.int f), (.int (p3.toInt8.toInt32)), (.int f), (.int f), (.int f), (.int f), (.int f), (.int f)] (.int (0 : Int32)) := Arv.set Ar1002 q1002 S1002 N1002n H1002 G1002 (fits_nar_byte _) W1002 2 rfl (Nat.le_of_ble_eq_true rfl)
    have N1002 := Fr.snoc X1002 N0 g_a1
    have KK1002 : Keep h0 h1002 [a1] := KK0.wr W1002 (Or.inl (List.mem_of_getElem? (i := 0) rfl))
    have Z1002 := Nat.le_trans Z0 (Keep.of_wr W1002).1
    show OEnds p.tables e below G (T1002.setTop (mkF m 42 #[.val (.ref a1), .val (.int (2 : Int32)), .val (.int p3), .val (.int p3), .val (.int (2 : Int32))] []))
    refine OEnds.st (fun _ k => XS.iload X1002.here hx rfl (hb hby d1_42) rfl k) ?_
    show OEnds p.tables e below G (T1002.setTop (mkF m 44 #[.val (.ref a1), .val (.int (2 : Int32)), .val (.int p3), .val (.int p3), .val (.int (2 : Int32))] [(.int (2 : Int32))]))
    refine OEnds.st (fun _ k => XS.iconst X1002.here hx rfl (hb hby d1_44) k) ?_
    show OEnds p.tables e below G (T1002.setTop (mkF m 45 #[.val (.ref a1), .val (.int (2 : Int32)), .val (.int p3), .val (.int p3), .val (.int (2 : Int32))] [(.int (1 : Int32)), (.int (2 : Int32))]))
    refine OEnds.st (fun _ k => XS.iadd X1002.here hx rfl (hb hby d1_45) rfl k) ?_
    show OEnds p.tables e below G (T1002.setTop (mkF m 46 #[.val (.ref a1), .val (.int (2 : Int32)), .val (.int p3), .val (.int p3), .val (.int (2 : Int32))] [(.int ((2 : Int32) + (1 : Int32)))]))
    rw [← hG]
    have u0 : (p3 &&& (-128 : Int32)) = (0 : Int32) := hc9_1001
    have hq : own_cnt p3 = (1 : Int32) := by simp [own_cnt, u0]
    have hr : ((2 : Int32) + (1 : Int32)) = (2 : Int32) + own_cnt p3 := by first | (rw [hq]; done) | (rw [hq]; decide)
    have x0 : own_el 2 0 p3 f = f := by simp [own_el, own_byte, u0]
    have x1 : own_el 2 1 p3 f = f := by simp [own_el, own_byte, u0]
    have x2 : own_el 2 2 p3 f = own_lo p3 := by simp [own_el, own_byte, u0]
    have x3 : own_el 2 3 p3 f = f := by simp [own_el, own_byte, u0]
    have x4 : own_el 2 4 p3 f = f := by simp [own_el, own_byte, u0]
    have x5 : own_el 2 5 p3 f = f := by simp [own_el, own_byte, u0]
    have x6 : own_el 2 6 p3 f = f := by simp [own_el, own_byte, u0]
    have x7 : own_el 2 7 p3 f = f := by simp [own_el, own_byte, u0]
    have x8 : own_el 2 8 p3 f = f := by simp [own_el, own_byte, u0]
    refine OEnds.retI X1002 hx hlk Bd.returns (hb hby d1_46) (by decide) (by decide) ?_
    rw [e1002]
    refine ⟨congrArg (fun z => some (Value.int z)) hr, N1002, KK1002, ?_⟩
    unfold own_els
    rw [x0, x1, x2, x3, x4, x5, x6, x7, x8]
    exact f1003
  · -- pc 9: no
    refine OEnds.st (fun _ k => XS.ifNo X0.here hx rfl (hb hby d1_9) rfl ((if0 _ _).trans (feq hc9_1001).1) k) ?_
    show OEnds p.tables e below G (s₁.setTop (mkF m 12 #[.val (.ref a1), .val (.int (2 : Int32)), .val (.int p3), .val (.int p3), .val (.int (2 : Int32))] []))
    refine OEnds.st (fun _ k => XS.aloadN X0.here hx rfl (hb hby d1_12) rfl rfl k) ?_
    show OEnds p.tables e below G (s₁.setTop (mkF m 13 #[.val (.ref a1), .val (.int (2 : Int32)), .val (.int p3), .val (.int p3), .val (.int (2 : Int32))] [(.ref a1)]))
    refine OEnds.st (fun _ k => XS.iload X0.here hx rfl (hb hby d1_13) rfl k) ?_
    show OEnds p.tables e below G (s₁.setTop (mkF m 15 #[.val (.ref a1), .val (.int (2 : Int32)), .val (.int p3), .val (.int p3), .val (.int (2 : Int32))] [(.int (2 : Int32)), (.ref a1)]))
    refine OEnds.st (fun _ k => XS.iloadN X0.here hx rfl (hb hby d1_15) rfl k) ?_
    show OEnds p.tables e below G (s₁.setTop (mkF m 16 #[.val (.ref a1), .val (.int (2 : Int32)), .val (.int p3), .val (.int p3), .val (.int (2 : Int32))] [(.int p3), (.int (2 : Int32)), (.ref a1)]))
    refine OEnds.st (fun _ k => XS.bipush X0.here hx rfl (hb hby d1_16) k) ?_
    show OEnds p.tables e below G (s₁.setTop (mkF m 18 #[.val (.ref a1), .val (.int (2 : Int32)), .val (.int p3), .val (.int p3), .val (.int (2 : Int32))] [(.int (127 : Int32)), (.int p3), (.int (2 : Int32)), (.ref a1)]))
    refine OEnds.st (fun _ k => XS.iand X0.here hx rfl (hb hby d1_18) rfl k) ?_
    show OEnds p.tables e below G (s₁.setTop (mkF m 19 #[.val (.ref a1), .val (.int (2 : Int32)), .val (.int p3), .val (.int p3), .val (.int (2 : Int32))] [(.int (p3 &&& (127 : Int32))), (.int (2 : Int32)), (.ref a1)]))
    refine OEnds.st (fun _ k => XS.sipush X0.here hx rfl (hb hby d1_19) k) ?_
    show OEnds p.tables e below G (s₁.setTop (mkF m 22 #[.val (.ref a1), .val (.int (2 : Int32)), .val (.int p3), .val (.int p3), .val (.int (2 : Int32))] [(.int (128 : Int32)), (.int (p3 &&& (127 : Int32))), (.int (2 : Int32)), (.ref a1)]))
    refine OEnds.st (fun _ k => XS.ior X0.here hx rfl (hb hby d1_22) rfl k) ?_
    show OEnds p.tables e below G (s₁.setTop (mkF m 23 #[.val (.ref a1), .val (.int (2 : Int32)), .val (.int p3), .val (.int p3), .val (.int (2 : Int32))] [(.int ((p3 &&& (127 : Int32)) ||| (128 : Int32))), (.int (2 : Int32)), (.ref a1)]))
    refine OEnds.st (fun _ k => XS.i2b X0.here hx rfl (hb hby d1_23) rfl k) ?_
    show OEnds p.tables e below G (s₁.setTop (mkF m 24 #[.val (.ref a1), .val (.int (2 : Int32)), .val (.int p3), .val (.int p3), .val (.int (2 : Int32))] [(.int (((p3 &&& (127 : Int32)) ||| (128 : Int32)).toInt8.toInt32)), (.int (2 : Int32)), (.ref a1)]))
    obtain ⟨cl1004, Ar1004, q1004, S1004, N1004n, H1004, G1004⟩ := id V
    have hin1004 : ¬ ((2 : Int32) < 0 ∨ cl1004.slots.size ≤ ((2 : Int32)).toNatClampNeg) := inb_of S1004 ⟨by decide, by decide⟩
    obtain ⟨T1004, h1004, X1004, e1004, W1004, st1004⟩ := stB X0 hx hZ e0 Ar1004 (j := (2 : Int32)) hin1004 (g := (mkF m 24 #[.val (.ref a1), .val (.int (2 : Int32)), .val (.int p3), .val (.int p3), .val (.int (2 : Int32))] [(.int (((p3 &&& (127 : Int32)) ||| (128 : Int32)).toInt8.toInt32)), (.int (2 : Int32)), (.ref a1)])) rfl rfl (hb hby d1_24)
    refine OEnds.st st1004 ?_
    rw [own_b8] at W1004
    have f1005 : Arv Z h1004 a1 k .byte (9 : Int32) [(.int f), (.int f), (.int (((p3 &&& (127 : Int32)) ||| (128 : Int32)).toInt8.toInt32)), (.int f), (.int f), (.int f), (.int f), (.int f), (.int f)] (.int (0 : Int32)) := Arv.set Ar1004 q1004 S1004 N1004n H1004 G1004 (fits_nar_byte _) W1004 2 rfl (Nat.le_of_ble_eq_true rfl)
    have N1004 := Fr.snoc X1004 N0 g_a1
    have KK1004 : Keep h0 h1004 [a1] := KK0.wr W1004 (Or.inl (List.mem_of_getElem? (i := 0) rfl))
    have Z1004 := Nat.le_trans Z0 (Keep.of_wr W1004).1
    show OEnds p.tables e below G (T1004.setTop (mkF m 25 #[.val (.ref a1), .val (.int (2 : Int32)), .val (.int p3), .val (.int p3), .val (.int (2 : Int32))] []))
    refine OEnds.st (fun _ k => XS.iinc X1004.here hx rfl (hb hby d1_25) rfl (l' := #[.val (.ref a1), .val (.int (2 : Int32)), .val (.int p3), .val (.int p3), .val (.int ((2 : Int32) + (1 : Int32)))]) rfl k) ?_
    show OEnds p.tables e below G (T1004.setTop (mkF m 28 #[.val (.ref a1), .val (.int (2 : Int32)), .val (.int p3), .val (.int p3), .val (.int ((2 : Int32) + (1 : Int32)))] []))
    rw [show ((2 : Int32) + (1 : Int32)) = (3 : Int32) from by decide]
    show OEnds p.tables e below G (T1004.setTop (mkF m 28 #[.val (.ref a1), .val (.int (2 : Int32)), .val (.int p3), .val (.int p3), .val (.int (3 : Int32))] []))
    refine OEnds.st (fun _ k => XS.iloadN X1004.here hx rfl (hb hby d1_28) rfl k) ?_
    show OEnds p.tables e below G (T1004.setTop (mkF m 29 #[.val (.ref a1), .val (.int (2 : Int32)), .val (.int p3), .val (.int p3), .val (.int (3 : Int32))] [(.int p3)]))
    refine OEnds.st (fun _ k => XS.bipush X1004.here hx rfl (hb hby d1_29) k) ?_
    show OEnds p.tables e below G (T1004.setTop (mkF m 31 #[.val (.ref a1), .val (.int (2 : Int32)), .val (.int p3), .val (.int p3), .val (.int (3 : Int32))] [(.int (7 : Int32)), (.int p3)]))
    refine OEnds.st (fun _ k => XS.iushr X1004.here hx rfl (hb hby d1_31) rfl k) ?_
    show OEnds p.tables e below G (T1004.setTop (mkF m 32 #[.val (.ref a1), .val (.int (2 : Int32)), .val (.int p3), .val (.int p3), .val (.int (3 : Int32))] [(.int ((p3.toUInt32 >>> ((7 : Int32) &&& 31).toUInt32).toInt32))]))
    refine OEnds.st (fun _ k => XS.istoreN X1004.here hx rfl (hb hby d1_32) rfl (l' := #[.val (.ref a1), .val (.int (2 : Int32)), .val (.int p3), .val (.int ((p3.toUInt32 >>> ((7 : Int32) &&& 31).toUInt32).toInt32)), .val (.int (3 : Int32))]) rfl k) ?_
    show OEnds p.tables e below G (T1004.setTop (mkF m 33 #[.val (.ref a1), .val (.int (2 : Int32)), .val (.int p3), .val (.int ((p3.toUInt32 >>> ((7 : Int32) &&& 31).toUInt32).toInt32)), .val (.int (3 : Int32))] []))
    generalize hv_v1006 : ((p3.toUInt32 >>> ((7 : Int32) &&& 31).toUInt32).toInt32) = v1006
    show OEnds p.tables e below G (T1004.setTop (mkF m 33 #[.val (.ref a1), .val (.int (2 : Int32)), .val (.int p3), .val (.int v1006), .val (.int (3 : Int32))] []))
    refine OEnds.st (fun _ k => XS.goto X1004.here hx rfl (pc0 := 33) (pc' := 5) rfl (hb hby d1_33) (by decide) (by decide) k) ?_
    show OEnds p.tables e below G (T1004.setTop (mkF m 5 #[.val (.ref a1), .val (.int (2 : Int32)), .val (.int p3), .val (.int v1006), .val (.int (3 : Int32))] []))
    refine OEnds.st (fun _ k => XS.iloadN X1004.here hx rfl (hb hby d1_5) rfl k) ?_
    show OEnds p.tables e below G (T1004.setTop (mkF m 6 #[.val (.ref a1), .val (.int (2 : Int32)), .val (.int p3), .val (.int v1006), .val (.int (3 : Int32))] [(.int v1006)]))
    refine OEnds.st (fun _ k => XS.bipush X1004.here hx rfl (hb hby d1_6) k) ?_
    show OEnds p.tables e below G (T1004.setTop (mkF m 8 #[.val (.ref a1), .val (.int (2 : Int32)), .val (.int p3), .val (.int v1006), .val (.int (3 : Int32))] [(.int (-128 : Int32)), (.int v1006)]))
    refine OEnds.st (fun _ k => XS.iand X1004.here hx rfl (hb hby d1_8) rfl k) ?_
    show OEnds p.tables e below G (T1004.setTop (mkF m 9 #[.val (.ref a1), .val (.int (2 : Int32)), .val (.int p3), .val (.int v1006), .val (.int (3 : Int32))] [(.int (v1006 &&& (-128 : Int32)))]))
    by_cases hc9_1007 : (v1006 &&& (-128 : Int32)) = (0 : Int32)
    · -- pc 9: yes
      refine OEnds.st (fun _ k => XS.ifYes X1004.here hx rfl (pc0 := 9) (pc' := 36) rfl (hb hby d1_9) rfl ((if0 _ _).trans (teq hc9_1007).1) (by decide) (by decide) k) ?_
      show OEnds p.tables e below G (T1004.setTop (mkF m 36 #[.val (.ref a1), .val (.int (2 : Int32)), .val (.int p3), .val (.int v1006), .val (.int (3 : Int32))] []))
      refine OEnds.st (fun _ k => XS.aloadN X1004.here hx rfl (hb hby d1_36) rfl rfl k) ?_
      show OEnds p.tables e below G (T1004.setTop (mkF m 37 #[.val (.ref a1), .val (.int (2 : Int32)), .val (.int p3), .val (.int v1006), .val (.int (3 : Int32))] [(.ref a1)]))
      refine OEnds.st (fun _ k => XS.iload X1004.here hx rfl (hb hby d1_37) rfl k) ?_
      show OEnds p.tables e below G (T1004.setTop (mkF m 39 #[.val (.ref a1), .val (.int (2 : Int32)), .val (.int p3), .val (.int v1006), .val (.int (3 : Int32))] [(.int (3 : Int32)), (.ref a1)]))
      refine OEnds.st (fun _ k => XS.iloadN X1004.here hx rfl (hb hby d1_39) rfl k) ?_
      show OEnds p.tables e below G (T1004.setTop (mkF m 40 #[.val (.ref a1), .val (.int (2 : Int32)), .val (.int p3), .val (.int v1006), .val (.int (3 : Int32))] [(.int v1006), (.int (3 : Int32)), (.ref a1)]))
      refine OEnds.st (fun _ k => XS.i2b X1004.here hx rfl (hb hby d1_40) rfl k) ?_
      show OEnds p.tables e below G (T1004.setTop (mkF m 41 #[.val (.ref a1), .val (.int (2 : Int32)), .val (.int p3), .val (.int v1006), .val (.int (3 : Int32))] [(.int (v1006.toInt8.toInt32)), (.int (3 : Int32)), (.ref a1)]))
      obtain ⟨cl1008, Ar1008, q1008, S1008, N1008n, H1008, G1008⟩ := id f1005
      have hin1008 : ¬ ((3 : Int32) < 0 ∨ cl1008.slots.size ≤ ((3 : Int32)).toNatClampNeg) := inb_of S1008 ⟨by decide, by decide⟩
      obtain ⟨T1008, h1008, X1008, e1008, W1008, st1008⟩ := stB X1004 hx hZ e1004 Ar1008 (j := (3 : Int32)) hin1008 (g := (mkF m 41 #[.val (.ref a1), .val (.int (2 : Int32)), .val (.int p3), .val (.int v1006), .val (.int (3 : Int32))] [(.int (v1006.toInt8.toInt32)), (.int (3 : Int32)), (.ref a1)])) rfl rfl (hb hby d1_41)
      refine OEnds.st st1008 ?_
      rw [own_b8] at W1008
      have f1009 : Arv Z h1008 a1 k .byte (9 : Int32) [(.int f), (.int f), (.int (((p3 &&& (127 : Int32)) ||| (128 : Int32)).toInt8.toInt32)), (.int (v1006.toInt8.toInt32)), (.int f), (.int f), (.int f), (.int f), (.int f)] (.int (0 : Int32)) := Arv.set Ar1008 q1008 S1008 N1008n H1008 G1008 (fits_nar_byte _) W1008 3 rfl (Nat.le_of_ble_eq_true rfl)
      have N1008 := Fr.snoc X1008 N1004 g_a1
      have KK1008 : Keep h0 h1008 [a1] := KK1004.wr W1008 (Or.inl (List.mem_of_getElem? (i := 0) rfl))
      have Z1008 := Nat.le_trans Z1004 (Keep.of_wr W1008).1
      show OEnds p.tables e below G (T1008.setTop (mkF m 42 #[.val (.ref a1), .val (.int (2 : Int32)), .val (.int p3), .val (.int v1006), .val (.int (3 : Int32))] []))
      refine OEnds.st (fun _ k => XS.iload X1008.here hx rfl (hb hby d1_42) rfl k) ?_
      show OEnds p.tables e below G (T1008.setTop (mkF m 44 #[.val (.ref a1), .val (.int (2 : Int32)), .val (.int p3), .val (.int v1006), .val (.int (3 : Int32))] [(.int (3 : Int32))]))
      refine OEnds.st (fun _ k => XS.iconst X1008.here hx rfl (hb hby d1_44) k) ?_
      show OEnds p.tables e below G (T1008.setTop (mkF m 45 #[.val (.ref a1), .val (.int (2 : Int32)), .val (.int p3), .val (.int v1006), .val (.int (3 : Int32))] [(.int (1 : Int32)), (.int (3 : Int32))]))
      refine OEnds.st (fun _ k => XS.iadd X1008.here hx rfl (hb hby d1_45) rfl k) ?_
      show OEnds p.tables e below G (T1008.setTop (mkF m 46 #[.val (.ref a1), .val (.int (2 : Int32)), .val (.int p3), .val (.int v1006), .val (.int (3 : Int32))] [(.int ((3 : Int32) + (1 : Int32)))]))
      rw [← hG]
      subst hv_v1006
      have u0 : ¬ (p3 &&& (-128 : Int32)) = (0 : Int32) := hc9_1001
      have u1 : ((own_sh p3) &&& (-128 : Int32)) = (0 : Int32) := hc9_1007
      have hq : own_cnt p3 = (2 : Int32) := by simp [own_cnt, u0, u1]
      have hr : ((3 : Int32) + (1 : Int32)) = (2 : Int32) + own_cnt p3 := by first | (rw [hq]; done) | (rw [hq]; decide)
      have x0 : own_el 2 0 p3 f = f := by simp [own_el, own_byte, u0, u1]
      have x1 : own_el 2 1 p3 f = f := by simp [own_el, own_byte, u0, u1]
      have x2 : own_el 2 2 p3 f = own_hi p3 := by simp [own_el, own_byte, u0, u1]
      have x3 : own_el 2 3 p3 f = own_lo (own_sh p3) := by simp [own_el, own_byte, u0, u1]
      have x4 : own_el 2 4 p3 f = f := by simp [own_el, own_byte, u0, u1]
      have x5 : own_el 2 5 p3 f = f := by simp [own_el, own_byte, u0, u1]
      have x6 : own_el 2 6 p3 f = f := by simp [own_el, own_byte, u0, u1]
      have x7 : own_el 2 7 p3 f = f := by simp [own_el, own_byte, u0, u1]
      have x8 : own_el 2 8 p3 f = f := by simp [own_el, own_byte, u0, u1]
      refine OEnds.retI X1008 hx hlk Bd.returns (hb hby d1_46) (by decide) (by decide) ?_
      rw [e1008]
      refine ⟨congrArg (fun z => some (Value.int z)) hr, N1008, KK1008, ?_⟩
      unfold own_els
      rw [x0, x1, x2, x3, x4, x5, x6, x7, x8]
      exact f1009
    · -- pc 9: no
      refine OEnds.st (fun _ k => XS.ifNo X1004.here hx rfl (hb hby d1_9) rfl ((if0 _ _).trans (feq hc9_1007).1) k) ?_
      show OEnds p.tables e below G (T1004.setTop (mkF m 12 #[.val (.ref a1), .val (.int (2 : Int32)), .val (.int p3), .val (.int v1006), .val (.int (3 : Int32))] []))
      refine OEnds.st (fun _ k => XS.aloadN X1004.here hx rfl (hb hby d1_12) rfl rfl k) ?_
      show OEnds p.tables e below G (T1004.setTop (mkF m 13 #[.val (.ref a1), .val (.int (2 : Int32)), .val (.int p3), .val (.int v1006), .val (.int (3 : Int32))] [(.ref a1)]))
      refine OEnds.st (fun _ k => XS.iload X1004.here hx rfl (hb hby d1_13) rfl k) ?_
      show OEnds p.tables e below G (T1004.setTop (mkF m 15 #[.val (.ref a1), .val (.int (2 : Int32)), .val (.int p3), .val (.int v1006), .val (.int (3 : Int32))] [(.int (3 : Int32)), (.ref a1)]))
      refine OEnds.st (fun _ k => XS.iloadN X1004.here hx rfl (hb hby d1_15) rfl k) ?_
      show OEnds p.tables e below G (T1004.setTop (mkF m 16 #[.val (.ref a1), .val (.int (2 : Int32)), .val (.int p3), .val (.int v1006), .val (.int (3 : Int32))] [(.int v1006), (.int (3 : Int32)), (.ref a1)]))
      refine OEnds.st (fun _ k => XS.bipush X1004.here hx rfl (hb hby d1_16) k) ?_
      show OEnds p.tables e below G (T1004.setTop (mkF m 18 #[.val (.ref a1), .val (.int (2 : Int32)), .val (.int p3), .val (.int v1006), .val (.int (3 : Int32))] [(.int (127 : Int32)), (.int v1006), (.int (3 : Int32)), (.ref a1)]))
      refine OEnds.st (fun _ k => XS.iand X1004.here hx rfl (hb hby d1_18) rfl k) ?_
      show OEnds p.tables e below G (T1004.setTop (mkF m 19 #[.val (.ref a1), .val (.int (2 : Int32)), .val (.int p3), .val (.int v1006), .val (.int (3 : Int32))] [(.int (v1006 &&& (127 : Int32))), (.int (3 : Int32)), (.ref a1)]))
      refine OEnds.st (fun _ k => XS.sipush X1004.here hx rfl (hb hby d1_19) k) ?_
      show OEnds p.tables e below G (T1004.setTop (mkF m 22 #[.val (.ref a1), .val (.int (2 : Int32)), .val (.int p3), .val (.int v1006), .val (.int (3 : Int32))] [(.int (128 : Int32)), (.int (v1006 &&& (127 : Int32))), (.int (3 : Int32)), (.ref a1)]))
      refine OEnds.st (fun _ k => XS.ior X1004.here hx rfl (hb hby d1_22) rfl k) ?_
      show OEnds p.tables e below G (T1004.setTop (mkF m 23 #[.val (.ref a1), .val (.int (2 : Int32)), .val (.int p3), .val (.int v1006), .val (.int (3 : Int32))] [(.int ((v1006 &&& (127 : Int32)) ||| (128 : Int32))), (.int (3 : Int32)), (.ref a1)]))
      refine OEnds.st (fun _ k => XS.i2b X1004.here hx rfl (hb hby d1_23) rfl k) ?_
      show OEnds p.tables e below G (T1004.setTop (mkF m 24 #[.val (.ref a1), .val (.int (2 : Int32)), .val (.int p3), .val (.int v1006), .val (.int (3 : Int32))] [(.int (((v1006 &&& (127 : Int32)) ||| (128 : Int32)).toInt8.toInt32)), (.int (3 : Int32)), (.ref a1)]))
      obtain ⟨cl1010, Ar1010, q1010, S1010, N1010n, H1010, G1010⟩ := id f1005
      have hin1010 : ¬ ((3 : Int32) < 0 ∨ cl1010.slots.size ≤ ((3 : Int32)).toNatClampNeg) := inb_of S1010 ⟨by decide, by decide⟩
      obtain ⟨T1010, h1010, X1010, e1010, W1010, st1010⟩ := stB X1004 hx hZ e1004 Ar1010 (j := (3 : Int32)) hin1010 (g := (mkF m 24 #[.val (.ref a1), .val (.int (2 : Int32)), .val (.int p3), .val (.int v1006), .val (.int (3 : Int32))] [(.int (((v1006 &&& (127 : Int32)) ||| (128 : Int32)).toInt8.toInt32)), (.int (3 : Int32)), (.ref a1)])) rfl rfl (hb hby d1_24)
      refine OEnds.st st1010 ?_
      rw [own_b8] at W1010
      have f1011 : Arv Z h1010 a1 k .byte (9 : Int32) [(.int f), (.int f), (.int (((p3 &&& (127 : Int32)) ||| (128 : Int32)).toInt8.toInt32)), (.int (((v1006 &&& (127 : Int32)) ||| (128 : Int32)).toInt8.toInt32)), (.int f), (.int f), (.int f), (.int f), (.int f)] (.int (0 : Int32)) := Arv.set Ar1010 q1010 S1010 N1010n H1010 G1010 (fits_nar_byte _) W1010 3 rfl (Nat.le_of_ble_eq_true rfl)
      have N1010 := Fr.snoc X1010 N1004 g_a1
      have KK1010 : Keep h0 h1010 [a1] := KK1004.wr W1010 (Or.inl (List.mem_of_getElem? (i := 0) rfl))
      have Z1010 := Nat.le_trans Z1004 (Keep.of_wr W1010).1
      show OEnds p.tables e below G (T1010.setTop (mkF m 25 #[.val (.ref a1), .val (.int (2 : Int32)), .val (.int p3), .val (.int v1006), .val (.int (3 : Int32))] []))
      refine OEnds.st (fun _ k => XS.iinc X1010.here hx rfl (hb hby d1_25) rfl (l' := #[.val (.ref a1), .val (.int (2 : Int32)), .val (.int p3), .val (.int v1006), .val (.int ((3 : Int32) + (1 : Int32)))]) rfl k) ?_
      show OEnds p.tables e below G (T1010.setTop (mkF m 28 #[.val (.ref a1), .val (.int (2 : Int32)), .val (.int p3), .val (.int v1006), .val (.int ((3 : Int32) + (1 : Int32)))] []))
      rw [show ((3 : Int32) + (1 : Int32)) = (4 : Int32) from by decide]
      show OEnds p.tables e below G (T1010.setTop (mkF m 28 #[.val (.ref a1), .val (.int (2 : Int32)), .val (.int p3), .val (.int v1006), .val (.int (4 : Int32))] []))
      refine OEnds.st (fun _ k => XS.iloadN X1010.here hx rfl (hb hby d1_28) rfl k) ?_
      show OEnds p.tables e below G (T1010.setTop (mkF m 29 #[.val (.ref a1), .val (.int (2 : Int32)), .val (.int p3), .val (.int v1006), .val (.int (4 : Int32))] [(.int v1006)]))
      refine OEnds.st (fun _ k => XS.bipush X1010.here hx rfl (hb hby d1_29) k) ?_
      show OEnds p.tables e below G (T1010.setTop (mkF m 31 #[.val (.ref a1), .val (.int (2 : Int32)), .val (.int p3), .val (.int v1006), .val (.int (4 : Int32))] [(.int (7 : Int32)), (.int v1006)]))
      refine OEnds.st (fun _ k => XS.iushr X1010.here hx rfl (hb hby d1_31) rfl k) ?_
      show OEnds p.tables e below G (T1010.setTop (mkF m 32 #[.val (.ref a1), .val (.int (2 : Int32)), .val (.int p3), .val (.int v1006), .val (.int (4 : Int32))] [(.int ((v1006.toUInt32 >>> ((7 : Int32) &&& 31).toUInt32).toInt32))]))
      refine OEnds.st (fun _ k => XS.istoreN X1010.here hx rfl (hb hby d1_32) rfl (l' := #[.val (.ref a1), .val (.int (2 : Int32)), .val (.int p3), .val (.int ((v1006.toUInt32 >>> ((7 : Int32) &&& 31).toUInt32).toInt32)), .val (.int (4 : Int32))]) rfl k) ?_
      show OEnds p.tables e below G (T1010.setTop (mkF m 33 #[.val (.ref a1), .val (.int (2 : Int32)), .val (.int p3), .val (.int ((v1006.toUInt32 >>> ((7 : Int32) &&& 31).toUInt32).toInt32)), .val (.int (4 : Int32))] []))
      generalize hv_v1012 : ((v1006.toUInt32 >>> ((7 : Int32) &&& 31).toUInt32).toInt32) = v1012
      show OEnds p.tables e below G (T1010.setTop (mkF m 33 #[.val (.ref a1), .val (.int (2 : Int32)), .val (.int p3), .val (.int v1012), .val (.int (4 : Int32))] []))
      refine OEnds.st (fun _ k => XS.goto X1010.here hx rfl (pc0 := 33) (pc' := 5) rfl (hb hby d1_33) (by decide) (by decide) k) ?_
      show OEnds p.tables e below G (T1010.setTop (mkF m 5 #[.val (.ref a1), .val (.int (2 : Int32)), .val (.int p3), .val (.int v1012), .val (.int (4 : Int32))] []))
      refine OEnds.st (fun _ k => XS.iloadN X1010.here hx rfl (hb hby d1_5) rfl k) ?_
      show OEnds p.tables e below G (T1010.setTop (mkF m 6 #[.val (.ref a1), .val (.int (2 : Int32)), .val (.int p3), .val (.int v1012), .val (.int (4 : Int32))] [(.int v1012)]))
      refine OEnds.st (fun _ k => XS.bipush X1010.here hx rfl (hb hby d1_6) k) ?_
      show OEnds p.tables e below G (T1010.setTop (mkF m 8 #[.val (.ref a1), .val (.int (2 : Int32)), .val (.int p3), .val (.int v1012), .val (.int (4 : Int32))] [(.int (-128 : Int32)), (.int v1012)]))
      refine OEnds.st (fun _ k => XS.iand X1010.here hx rfl (hb hby d1_8) rfl k) ?_
      show OEnds p.tables e below G (T1010.setTop (mkF m 9 #[.val (.ref a1), .val (.int (2 : Int32)), .val (.int p3), .val (.int v1012), .val (.int (4 : Int32))] [(.int (v1012 &&& (-128 : Int32)))]))
      by_cases hc9_1013 : (v1012 &&& (-128 : Int32)) = (0 : Int32)
      · -- pc 9: yes
        refine OEnds.st (fun _ k => XS.ifYes X1010.here hx rfl (pc0 := 9) (pc' := 36) rfl (hb hby d1_9) rfl ((if0 _ _).trans (teq hc9_1013).1) (by decide) (by decide) k) ?_
        show OEnds p.tables e below G (T1010.setTop (mkF m 36 #[.val (.ref a1), .val (.int (2 : Int32)), .val (.int p3), .val (.int v1012), .val (.int (4 : Int32))] []))
        refine OEnds.st (fun _ k => XS.aloadN X1010.here hx rfl (hb hby d1_36) rfl rfl k) ?_
        show OEnds p.tables e below G (T1010.setTop (mkF m 37 #[.val (.ref a1), .val (.int (2 : Int32)), .val (.int p3), .val (.int v1012), .val (.int (4 : Int32))] [(.ref a1)]))
        refine OEnds.st (fun _ k => XS.iload X1010.here hx rfl (hb hby d1_37) rfl k) ?_
        show OEnds p.tables e below G (T1010.setTop (mkF m 39 #[.val (.ref a1), .val (.int (2 : Int32)), .val (.int p3), .val (.int v1012), .val (.int (4 : Int32))] [(.int (4 : Int32)), (.ref a1)]))
        refine OEnds.st (fun _ k => XS.iloadN X1010.here hx rfl (hb hby d1_39) rfl k) ?_
        show OEnds p.tables e below G (T1010.setTop (mkF m 40 #[.val (.ref a1), .val (.int (2 : Int32)), .val (.int p3), .val (.int v1012), .val (.int (4 : Int32))] [(.int v1012), (.int (4 : Int32)), (.ref a1)]))
        refine OEnds.st (fun _ k => XS.i2b X1010.here hx rfl (hb hby d1_40) rfl k) ?_
        show OEnds p.tables e below G (T1010.setTop (mkF m 41 #[.val (.ref a1), .val (.int (2 : Int32)), .val (.int p3), .val (.int v1012), .val (.int (4 : Int32))] [(.int (v1012.toInt8.toInt32)), (.int (4 : Int32)), (.ref a1)]))
        obtain ⟨cl1014, Ar1014, q1014, S1014, N1014n, H1014, G1014⟩ := id f1011
        have hin1014 : ¬ ((4 : Int32) < 0 ∨ cl1014.slots.size ≤ ((4 : Int32)).toNatClampNeg) := inb_of S1014 ⟨by decide, by decide⟩
        obtain ⟨T1014, h1014, X1014, e1014, W1014, st1014⟩ := stB X1010 hx hZ e1010 Ar1014 (j := (4 : Int32)) hin1014 (g := (mkF m 41 #[.val (.ref a1), .val (.int (2 : Int32)), .val (.int p3), .val (.int v1012), .val (.int (4 : Int32))] [(.int (v1012.toInt8.toInt32)), (.int (4 : Int32)), (.ref a1)])) rfl rfl (hb hby d1_41)
        refine OEnds.st st1014 ?_
        rw [own_b8] at W1014
        have f1015 : Arv Z h1014 a1 k .byte (9 : Int32) [(.int f), (.int f), (.int (((p3 &&& (127 : Int32)) ||| (128 : Int32)).toInt8.toInt32)), (.int (((v1006 &&& (127 : Int32)) ||| (128 : Int32)).toInt8.toInt32)), (.int (v1012.toInt8.toInt32)), (.int f), (.int f), (.int f), (.int f)] (.int (0 : Int32)) := Arv.set Ar1014 q1014 S1014 N1014n H1014 G1014 (fits_nar_byte _) W1014 4 rfl (Nat.le_of_ble_eq_true rfl)
        have N1014 := Fr.snoc X1014 N1010 g_a1
        have KK1014 : Keep h0 h1014 [a1] := KK1010.wr W1014 (Or.inl (List.mem_of_getElem? (i := 0) rfl))
        have Z1014 := Nat.le_trans Z1010 (Keep.of_wr W1014).1
        show OEnds p.tables e below G (T1014.setTop (mkF m 42 #[.val (.ref a1), .val (.int (2 : Int32)), .val (.int p3), .val (.int v1012), .val (.int (4 : Int32))] []))
        refine OEnds.st (fun _ k => XS.iload X1014.here hx rfl (hb hby d1_42) rfl k) ?_
        show OEnds p.tables e below G (T1014.setTop (mkF m 44 #[.val (.ref a1), .val (.int (2 : Int32)), .val (.int p3), .val (.int v1012), .val (.int (4 : Int32))] [(.int (4 : Int32))]))
        refine OEnds.st (fun _ k => XS.iconst X1014.here hx rfl (hb hby d1_44) k) ?_
        show OEnds p.tables e below G (T1014.setTop (mkF m 45 #[.val (.ref a1), .val (.int (2 : Int32)), .val (.int p3), .val (.int v1012), .val (.int (4 : Int32))] [(.int (1 : Int32)), (.int (4 : Int32))]))
        refine OEnds.st (fun _ k => XS.iadd X1014.here hx rfl (hb hby d1_45) rfl k) ?_
        show OEnds p.tables e below G (T1014.setTop (mkF m 46 #[.val (.ref a1), .val (.int (2 : Int32)), .val (.int p3), .val (.int v1012), .val (.int (4 : Int32))] [(.int ((4 : Int32) + (1 : Int32)))]))
        rw [← hG]
        subst hv_v1006 hv_v1012
        have u0 : ¬ (p3 &&& (-128 : Int32)) = (0 : Int32) := hc9_1001
        have u1 : ¬ ((own_sh p3) &&& (-128 : Int32)) = (0 : Int32) := hc9_1007
        have u2 : ((own_sh (own_sh p3)) &&& (-128 : Int32)) = (0 : Int32) := hc9_1013
        have hq : own_cnt p3 = (3 : Int32) := by simp [own_cnt, u0, u1, u2]
        have hr : ((4 : Int32) + (1 : Int32)) = (2 : Int32) + own_cnt p3 := by first | (rw [hq]; done) | (rw [hq]; decide)
        have x0 : own_el 2 0 p3 f = f := by simp [own_el, own_byte, u0, u1, u2]
        have x1 : own_el 2 1 p3 f = f := by simp [own_el, own_byte, u0, u1, u2]
        have x2 : own_el 2 2 p3 f = own_hi p3 := by simp [own_el, own_byte, u0, u1, u2]
        have x3 : own_el 2 3 p3 f = own_hi (own_sh p3) := by simp [own_el, own_byte, u0, u1, u2]
        have x4 : own_el 2 4 p3 f = own_lo (own_sh (own_sh p3)) := by simp [own_el, own_byte, u0, u1, u2]
        have x5 : own_el 2 5 p3 f = f := by simp [own_el, own_byte, u0, u1, u2]
        have x6 : own_el 2 6 p3 f = f := by simp [own_el, own_byte, u0, u1, u2]
        have x7 : own_el 2 7 p3 f = f := by simp [own_el, own_byte, u0, u1, u2]
        have x8 : own_el 2 8 p3 f = f := by simp [own_el, own_byte, u0, u1, u2]
        refine OEnds.retI X1014 hx hlk Bd.returns (hb hby d1_46) (by decide) (by decide) ?_
        rw [e1014]
        refine ⟨congrArg (fun z => some (Value.int z)) hr, N1014, KK1014, ?_⟩
        unfold own_els
        rw [x0, x1, x2, x3, x4, x5, x6, x7, x8]
        exact f1015
      · -- pc 9: no
        refine OEnds.st (fun _ k => XS.ifNo X1010.here hx rfl (hb hby d1_9) rfl ((if0 _ _).trans (feq hc9_1013).1) k) ?_
        show OEnds p.tables e below G (T1010.setTop (mkF m 12 #[.val (.ref a1), .val (.int (2 : Int32)), .val (.int p3), .val (.int v1012), .val (.int (4 : Int32))] []))
        refine OEnds.st (fun _ k => XS.aloadN X1010.here hx rfl (hb hby d1_12) rfl rfl k) ?_
        show OEnds p.tables e below G (T1010.setTop (mkF m 13 #[.val (.ref a1), .val (.int (2 : Int32)), .val (.int p3), .val (.int v1012), .val (.int (4 : Int32))] [(.ref a1)]))
        refine OEnds.st (fun _ k => XS.iload X1010.here hx rfl (hb hby d1_13) rfl k) ?_
        show OEnds p.tables e below G (T1010.setTop (mkF m 15 #[.val (.ref a1), .val (.int (2 : Int32)), .val (.int p3), .val (.int v1012), .val (.int (4 : Int32))] [(.int (4 : Int32)), (.ref a1)]))
        refine OEnds.st (fun _ k => XS.iloadN X1010.here hx rfl (hb hby d1_15) rfl k) ?_
        show OEnds p.tables e below G (T1010.setTop (mkF m 16 #[.val (.ref a1), .val (.int (2 : Int32)), .val (.int p3), .val (.int v1012), .val (.int (4 : Int32))] [(.int v1012), (.int (4 : Int32)), (.ref a1)]))
        refine OEnds.st (fun _ k => XS.bipush X1010.here hx rfl (hb hby d1_16) k) ?_
        show OEnds p.tables e below G (T1010.setTop (mkF m 18 #[.val (.ref a1), .val (.int (2 : Int32)), .val (.int p3), .val (.int v1012), .val (.int (4 : Int32))] [(.int (127 : Int32)), (.int v1012), (.int (4 : Int32)), (.ref a1)]))
        refine OEnds.st (fun _ k => XS.iand X1010.here hx rfl (hb hby d1_18) rfl k) ?_
        show OEnds p.tables e below G (T1010.setTop (mkF m 19 #[.val (.ref a1), .val (.int (2 : Int32)), .val (.int p3), .val (.int v1012), .val (.int (4 : Int32))] [(.int (v1012 &&& (127 : Int32))), (.int (4 : Int32)), (.ref a1)]))
        refine OEnds.st (fun _ k => XS.sipush X1010.here hx rfl (hb hby d1_19) k) ?_
        show OEnds p.tables e below G (T1010.setTop (mkF m 22 #[.val (.ref a1), .val (.int (2 : Int32)), .val (.int p3), .val (.int v1012), .val (.int (4 : Int32))] [(.int (128 : Int32)), (.int (v1012 &&& (127 : Int32))), (.int (4 : Int32)), (.ref a1)]))
        refine OEnds.st (fun _ k => XS.ior X1010.here hx rfl (hb hby d1_22) rfl k) ?_
        show OEnds p.tables e below G (T1010.setTop (mkF m 23 #[.val (.ref a1), .val (.int (2 : Int32)), .val (.int p3), .val (.int v1012), .val (.int (4 : Int32))] [(.int ((v1012 &&& (127 : Int32)) ||| (128 : Int32))), (.int (4 : Int32)), (.ref a1)]))
        refine OEnds.st (fun _ k => XS.i2b X1010.here hx rfl (hb hby d1_23) rfl k) ?_
        show OEnds p.tables e below G (T1010.setTop (mkF m 24 #[.val (.ref a1), .val (.int (2 : Int32)), .val (.int p3), .val (.int v1012), .val (.int (4 : Int32))] [(.int (((v1012 &&& (127 : Int32)) ||| (128 : Int32)).toInt8.toInt32)), (.int (4 : Int32)), (.ref a1)]))
        obtain ⟨cl1016, Ar1016, q1016, S1016, N1016n, H1016, G1016⟩ := id f1011
        have hin1016 : ¬ ((4 : Int32) < 0 ∨ cl1016.slots.size ≤ ((4 : Int32)).toNatClampNeg) := inb_of S1016 ⟨by decide, by decide⟩
        obtain ⟨T1016, h1016, X1016, e1016, W1016, st1016⟩ := stB X1010 hx hZ e1010 Ar1016 (j := (4 : Int32)) hin1016 (g := (mkF m 24 #[.val (.ref a1), .val (.int (2 : Int32)), .val (.int p3), .val (.int v1012), .val (.int (4 : Int32))] [(.int (((v1012 &&& (127 : Int32)) ||| (128 : Int32)).toInt8.toInt32)), (.int (4 : Int32)), (.ref a1)])) rfl rfl (hb hby d1_24)
        refine OEnds.st st1016 ?_
        rw [own_b8] at W1016
        have f1017 : Arv Z h1016 a1 k .byte (9 : Int32) [(.int f), (.int f), (.int (((p3 &&& (127 : Int32)) ||| (128 : Int32)).toInt8.toInt32)), (.int (((v1006 &&& (127 : Int32)) ||| (128 : Int32)).toInt8.toInt32)), (.int (((v1012 &&& (127 : Int32)) ||| (128 : Int32)).toInt8.toInt32)), (.int f), (.int f), (.int f), (.int f)] (.int (0 : Int32)) := Arv.set Ar1016 q1016 S1016 N1016n H1016 G1016 (fits_nar_byte _) W1016 4 rfl (Nat.le_of_ble_eq_true rfl)
        have N1016 := Fr.snoc X1016 N1010 g_a1
        have KK1016 : Keep h0 h1016 [a1] := KK1010.wr W1016 (Or.inl (List.mem_of_getElem? (i := 0) rfl))
        have Z1016 := Nat.le_trans Z1010 (Keep.of_wr W1016).1
        show OEnds p.tables e below G (T1016.setTop (mkF m 25 #[.val (.ref a1), .val (.int (2 : Int32)), .val (.int p3), .val (.int v1012), .val (.int (4 : Int32))] []))
        refine OEnds.st (fun _ k => XS.iinc X1016.here hx rfl (hb hby d1_25) rfl (l' := #[.val (.ref a1), .val (.int (2 : Int32)), .val (.int p3), .val (.int v1012), .val (.int ((4 : Int32) + (1 : Int32)))]) rfl k) ?_
        show OEnds p.tables e below G (T1016.setTop (mkF m 28 #[.val (.ref a1), .val (.int (2 : Int32)), .val (.int p3), .val (.int v1012), .val (.int ((4 : Int32) + (1 : Int32)))] []))
        rw [show ((4 : Int32) + (1 : Int32)) = (5 : Int32) from by decide]
        show OEnds p.tables e below G (T1016.setTop (mkF m 28 #[.val (.ref a1), .val (.int (2 : Int32)), .val (.int p3), .val (.int v1012), .val (.int (5 : Int32))] []))
        refine OEnds.st (fun _ k => XS.iloadN X1016.here hx rfl (hb hby d1_28) rfl k) ?_
        show OEnds p.tables e below G (T1016.setTop (mkF m 29 #[.val (.ref a1), .val (.int (2 : Int32)), .val (.int p3), .val (.int v1012), .val (.int (5 : Int32))] [(.int v1012)]))
        refine OEnds.st (fun _ k => XS.bipush X1016.here hx rfl (hb hby d1_29) k) ?_
        show OEnds p.tables e below G (T1016.setTop (mkF m 31 #[.val (.ref a1), .val (.int (2 : Int32)), .val (.int p3), .val (.int v1012), .val (.int (5 : Int32))] [(.int (7 : Int32)), (.int v1012)]))
        refine OEnds.st (fun _ k => XS.iushr X1016.here hx rfl (hb hby d1_31) rfl k) ?_
        show OEnds p.tables e below G (T1016.setTop (mkF m 32 #[.val (.ref a1), .val (.int (2 : Int32)), .val (.int p3), .val (.int v1012), .val (.int (5 : Int32))] [(.int ((v1012.toUInt32 >>> ((7 : Int32) &&& 31).toUInt32).toInt32))]))
        refine OEnds.st (fun _ k => XS.istoreN X1016.here hx rfl (hb hby d1_32) rfl (l' := #[.val (.ref a1), .val (.int (2 : Int32)), .val (.int p3), .val (.int ((v1012.toUInt32 >>> ((7 : Int32) &&& 31).toUInt32).toInt32)), .val (.int (5 : Int32))]) rfl k) ?_
        show OEnds p.tables e below G (T1016.setTop (mkF m 33 #[.val (.ref a1), .val (.int (2 : Int32)), .val (.int p3), .val (.int ((v1012.toUInt32 >>> ((7 : Int32) &&& 31).toUInt32).toInt32)), .val (.int (5 : Int32))] []))
        generalize hv_v1018 : ((v1012.toUInt32 >>> ((7 : Int32) &&& 31).toUInt32).toInt32) = v1018
        show OEnds p.tables e below G (T1016.setTop (mkF m 33 #[.val (.ref a1), .val (.int (2 : Int32)), .val (.int p3), .val (.int v1018), .val (.int (5 : Int32))] []))
        refine OEnds.st (fun _ k => XS.goto X1016.here hx rfl (pc0 := 33) (pc' := 5) rfl (hb hby d1_33) (by decide) (by decide) k) ?_
        show OEnds p.tables e below G (T1016.setTop (mkF m 5 #[.val (.ref a1), .val (.int (2 : Int32)), .val (.int p3), .val (.int v1018), .val (.int (5 : Int32))] []))
        refine OEnds.st (fun _ k => XS.iloadN X1016.here hx rfl (hb hby d1_5) rfl k) ?_
        show OEnds p.tables e below G (T1016.setTop (mkF m 6 #[.val (.ref a1), .val (.int (2 : Int32)), .val (.int p3), .val (.int v1018), .val (.int (5 : Int32))] [(.int v1018)]))
        refine OEnds.st (fun _ k => XS.bipush X1016.here hx rfl (hb hby d1_6) k) ?_
        show OEnds p.tables e below G (T1016.setTop (mkF m 8 #[.val (.ref a1), .val (.int (2 : Int32)), .val (.int p3), .val (.int v1018), .val (.int (5 : Int32))] [(.int (-128 : Int32)), (.int v1018)]))
        refine OEnds.st (fun _ k => XS.iand X1016.here hx rfl (hb hby d1_8) rfl k) ?_
        show OEnds p.tables e below G (T1016.setTop (mkF m 9 #[.val (.ref a1), .val (.int (2 : Int32)), .val (.int p3), .val (.int v1018), .val (.int (5 : Int32))] [(.int (v1018 &&& (-128 : Int32)))]))
        by_cases hc9_1019 : (v1018 &&& (-128 : Int32)) = (0 : Int32)
        · -- pc 9: yes
          refine OEnds.st (fun _ k => XS.ifYes X1016.here hx rfl (pc0 := 9) (pc' := 36) rfl (hb hby d1_9) rfl ((if0 _ _).trans (teq hc9_1019).1) (by decide) (by decide) k) ?_
          show OEnds p.tables e below G (T1016.setTop (mkF m 36 #[.val (.ref a1), .val (.int (2 : Int32)), .val (.int p3), .val (.int v1018), .val (.int (5 : Int32))] []))
          refine OEnds.st (fun _ k => XS.aloadN X1016.here hx rfl (hb hby d1_36) rfl rfl k) ?_
          show OEnds p.tables e below G (T1016.setTop (mkF m 37 #[.val (.ref a1), .val (.int (2 : Int32)), .val (.int p3), .val (.int v1018), .val (.int (5 : Int32))] [(.ref a1)]))
          refine OEnds.st (fun _ k => XS.iload X1016.here hx rfl (hb hby d1_37) rfl k) ?_
          show OEnds p.tables e below G (T1016.setTop (mkF m 39 #[.val (.ref a1), .val (.int (2 : Int32)), .val (.int p3), .val (.int v1018), .val (.int (5 : Int32))] [(.int (5 : Int32)), (.ref a1)]))
          refine OEnds.st (fun _ k => XS.iloadN X1016.here hx rfl (hb hby d1_39) rfl k) ?_
          show OEnds p.tables e below G (T1016.setTop (mkF m 40 #[.val (.ref a1), .val (.int (2 : Int32)), .val (.int p3), .val (.int v1018), .val (.int (5 : Int32))] [(.int v1018), (.int (5 : Int32)), (.ref a1)]))
          refine OEnds.st (fun _ k => XS.i2b X1016.here hx rfl (hb hby d1_40) rfl k) ?_
          show OEnds p.tables e below G (T1016.setTop (mkF m 41 #[.val (.ref a1), .val (.int (2 : Int32)), .val (.int p3), .val (.int v1018), .val (.int (5 : Int32))] [(.int (v1018.toInt8.toInt32)), (.int (5 : Int32)), (.ref a1)]))
          obtain ⟨cl1020, Ar1020, q1020, S1020, N1020n, H1020, G1020⟩ := id f1017
          have hin1020 : ¬ ((5 : Int32) < 0 ∨ cl1020.slots.size ≤ ((5 : Int32)).toNatClampNeg) := inb_of S1020 ⟨by decide, by decide⟩
          obtain ⟨T1020, h1020, X1020, e1020, W1020, st1020⟩ := stB X1016 hx hZ e1016 Ar1020 (j := (5 : Int32)) hin1020 (g := (mkF m 41 #[.val (.ref a1), .val (.int (2 : Int32)), .val (.int p3), .val (.int v1018), .val (.int (5 : Int32))] [(.int (v1018.toInt8.toInt32)), (.int (5 : Int32)), (.ref a1)])) rfl rfl (hb hby d1_41)
          refine OEnds.st st1020 ?_
          rw [own_b8] at W1020
          have f1021 : Arv Z h1020 a1 k .byte (9 : Int32) [(.int f), (.int f), (.int (((p3 &&& (127 : Int32)) ||| (128 : Int32)).toInt8.toInt32)), (.int (((v1006 &&& (127 : Int32)) ||| (128 : Int32)).toInt8.toInt32)), (.int (((v1012 &&& (127 : Int32)) ||| (128 : Int32)).toInt8.toInt32)), (.int (v1018.toInt8.toInt32)), (.int f), (.int f), (.int f)] (.int (0 : Int32)) := Arv.set Ar1020 q1020 S1020 N1020n H1020 G1020 (fits_nar_byte _) W1020 5 rfl (Nat.le_of_ble_eq_true rfl)
          have N1020 := Fr.snoc X1020 N1016 g_a1
          have KK1020 : Keep h0 h1020 [a1] := KK1016.wr W1020 (Or.inl (List.mem_of_getElem? (i := 0) rfl))
          have Z1020 := Nat.le_trans Z1016 (Keep.of_wr W1020).1
          show OEnds p.tables e below G (T1020.setTop (mkF m 42 #[.val (.ref a1), .val (.int (2 : Int32)), .val (.int p3), .val (.int v1018), .val (.int (5 : Int32))] []))
          refine OEnds.st (fun _ k => XS.iload X1020.here hx rfl (hb hby d1_42) rfl k) ?_
          show OEnds p.tables e below G (T1020.setTop (mkF m 44 #[.val (.ref a1), .val (.int (2 : Int32)), .val (.int p3), .val (.int v1018), .val (.int (5 : Int32))] [(.int (5 : Int32))]))
          refine OEnds.st (fun _ k => XS.iconst X1020.here hx rfl (hb hby d1_44) k) ?_
          show OEnds p.tables e below G (T1020.setTop (mkF m 45 #[.val (.ref a1), .val (.int (2 : Int32)), .val (.int p3), .val (.int v1018), .val (.int (5 : Int32))] [(.int (1 : Int32)), (.int (5 : Int32))]))
          refine OEnds.st (fun _ k => XS.iadd X1020.here hx rfl (hb hby d1_45) rfl k) ?_
          show OEnds p.tables e below G (T1020.setTop (mkF m 46 #[.val (.ref a1), .val (.int (2 : Int32)), .val (.int p3), .val (.int v1018), .val (.int (5 : Int32))] [(.int ((5 : Int32) + (1 : Int32)))]))
          rw [← hG]
          subst hv_v1006 hv_v1012 hv_v1018
          have u0 : ¬ (p3 &&& (-128 : Int32)) = (0 : Int32) := hc9_1001
          have u1 : ¬ ((own_sh p3) &&& (-128 : Int32)) = (0 : Int32) := hc9_1007
          have u2 : ¬ ((own_sh (own_sh p3)) &&& (-128 : Int32)) = (0 : Int32) := hc9_1013
          have u3 : ((own_sh (own_sh (own_sh p3))) &&& (-128 : Int32)) = (0 : Int32) := hc9_1019
          have hq : own_cnt p3 = (4 : Int32) := by simp [own_cnt, u0, u1, u2, u3]
          have hr : ((5 : Int32) + (1 : Int32)) = (2 : Int32) + own_cnt p3 := by first | (rw [hq]; done) | (rw [hq]; decide)
          have x0 : own_el 2 0 p3 f = f := by simp [own_el, own_byte, u0, u1, u2, u3]
          have x1 : own_el 2 1 p3 f = f := by simp [own_el, own_byte, u0, u1, u2, u3]
          have x2 : own_el 2 2 p3 f = own_hi p3 := by simp [own_el, own_byte, u0, u1, u2, u3]
          have x3 : own_el 2 3 p3 f = own_hi (own_sh p3) := by simp [own_el, own_byte, u0, u1, u2, u3]
          have x4 : own_el 2 4 p3 f = own_hi (own_sh (own_sh p3)) := by simp [own_el, own_byte, u0, u1, u2, u3]
          have x5 : own_el 2 5 p3 f = own_lo (own_sh (own_sh (own_sh p3))) := by simp [own_el, own_byte, u0, u1, u2, u3]
          have x6 : own_el 2 6 p3 f = f := by simp [own_el, own_byte, u0, u1, u2, u3]
          have x7 : own_el 2 7 p3 f = f := by simp [own_el, own_byte, u0, u1, u2, u3]
          have x8 : own_el 2 8 p3 f = f := by simp [own_el, own_byte, u0, u1, u2, u3]
          refine OEnds.retI X1020 hx hlk Bd.returns (hb hby d1_46) (by decide) (by decide) ?_
          rw [e1020]
          refine ⟨congrArg (fun z => some (Value.int z)) hr, N1020, KK1020, ?_⟩
          unfold own_els
          rw [x0, x1, x2, x3, x4, x5, x6, x7, x8]
          exact f1021
        · -- pc 9: no
          refine OEnds.st (fun _ k => XS.ifNo X1016.here hx rfl (hb hby d1_9) rfl ((if0 _ _).trans (feq hc9_1019).1) k) ?_
          show OEnds p.tables e below G (T1016.setTop (mkF m 12 #[.val (.ref a1), .val (.int (2 : Int32)), .val (.int p3), .val (.int v1018), .val (.int (5 : Int32))] []))
          refine OEnds.st (fun _ k => XS.aloadN X1016.here hx rfl (hb hby d1_12) rfl rfl k) ?_
          show OEnds p.tables e below G (T1016.setTop (mkF m 13 #[.val (.ref a1), .val (.int (2 : Int32)), .val (.int p3), .val (.int v1018), .val (.int (5 : Int32))] [(.ref a1)]))
          refine OEnds.st (fun _ k => XS.iload X1016.here hx rfl (hb hby d1_13) rfl k) ?_
          show OEnds p.tables e below G (T1016.setTop (mkF m 15 #[.val (.ref a1), .val (.int (2 : Int32)), .val (.int p3), .val (.int v1018), .val (.int (5 : Int32))] [(.int (5 : Int32)), (.ref a1)]))
          refine OEnds.st (fun _ k => XS.iloadN X1016.here hx rfl (hb hby d1_15) rfl k) ?_
          show OEnds p.tables e below G (T1016.setTop (mkF m 16 #[.val (.ref a1), .val (.int (2 : Int32)), .val (.int p3), .val (.int v1018), .val (.int (5 : Int32))] [(.int v1018), (.int (5 : Int32)), (.ref a1)]))
          refine OEnds.st (fun _ k => XS.bipush X1016.here hx rfl (hb hby d1_16) k) ?_
          show OEnds p.tables e below G (T1016.setTop (mkF m 18 #[.val (.ref a1), .val (.int (2 : Int32)), .val (.int p3), .val (.int v1018), .val (.int (5 : Int32))] [(.int (127 : Int32)), (.int v1018), (.int (5 : Int32)), (.ref a1)]))
          refine OEnds.st (fun _ k => XS.iand X1016.here hx rfl (hb hby d1_18) rfl k) ?_
          show OEnds p.tables e below G (T1016.setTop (mkF m 19 #[.val (.ref a1), .val (.int (2 : Int32)), .val (.int p3), .val (.int v1018), .val (.int (5 : Int32))] [(.int (v1018 &&& (127 : Int32))), (.int (5 : Int32)), (.ref a1)]))
          refine OEnds.st (fun _ k => XS.sipush X1016.here hx rfl (hb hby d1_19) k) ?_
          show OEnds p.tables e below G (T1016.setTop (mkF m 22 #[.val (.ref a1), .val (.int (2 : Int32)), .val (.int p3), .val (.int v1018), .val (.int (5 : Int32))] [(.int (128 : Int32)), (.int (v1018 &&& (127 : Int32))), (.int (5 : Int32)), (.ref a1)]))
          refine OEnds.st (fun _ k => XS.ior X1016.here hx rfl (hb hby d1_22) rfl k) ?_
          show OEnds p.tables e below G (T1016.setTop (mkF m 23 #[.val (.ref a1), .val (.int (2 : Int32)), .val (.int p3), .val (.int v1018), .val (.int (5 : Int32))] [(.int ((v1018 &&& (127 : Int32)) ||| (128 : Int32))), (.int (5 : Int32)), (.ref a1)]))
          refine OEnds.st (fun _ k => XS.i2b X1016.here hx rfl (hb hby d1_23) rfl k) ?_
          show OEnds p.tables e below G (T1016.setTop (mkF m 24 #[.val (.ref a1), .val (.int (2 : Int32)), .val (.int p3), .val (.int v1018), .val (.int (5 : Int32))] [(.int (((v1018 &&& (127 : Int32)) ||| (128 : Int32)).toInt8.toInt32)), (.int (5 : Int32)), (.ref a1)]))
          obtain ⟨cl1022, Ar1022, q1022, S1022, N1022n, H1022, G1022⟩ := id f1017
          have hin1022 : ¬ ((5 : Int32) < 0 ∨ cl1022.slots.size ≤ ((5 : Int32)).toNatClampNeg) := inb_of S1022 ⟨by decide, by decide⟩
          obtain ⟨T1022, h1022, X1022, e1022, W1022, st1022⟩ := stB X1016 hx hZ e1016 Ar1022 (j := (5 : Int32)) hin1022 (g := (mkF m 24 #[.val (.ref a1), .val (.int (2 : Int32)), .val (.int p3), .val (.int v1018), .val (.int (5 : Int32))] [(.int (((v1018 &&& (127 : Int32)) ||| (128 : Int32)).toInt8.toInt32)), (.int (5 : Int32)), (.ref a1)])) rfl rfl (hb hby d1_24)
          refine OEnds.st st1022 ?_
          rw [own_b8] at W1022
          have f1023 : Arv Z h1022 a1 k .byte (9 : Int32) [(.int f), (.int f), (.int (((p3 &&& (127 : Int32)) ||| (128 : Int32)).toInt8.toInt32)), (.int (((v1006 &&& (127 : Int32)) ||| (128 : Int32)).toInt8.toInt32)), (.int (((v1012 &&& (127 : Int32)) ||| (128 : Int32)).toInt8.toInt32)), (.int (((v1018 &&& (127 : Int32)) ||| (128 : Int32)).toInt8.toInt32)), (.int f), (.int f), (.int f)] (.int (0 : Int32)) := Arv.set Ar1022 q1022 S1022 N1022n H1022 G1022 (fits_nar_byte _) W1022 5 rfl (Nat.le_of_ble_eq_true rfl)
          have N1022 := Fr.snoc X1022 N1016 g_a1
          have KK1022 : Keep h0 h1022 [a1] := KK1016.wr W1022 (Or.inl (List.mem_of_getElem? (i := 0) rfl))
          have Z1022 := Nat.le_trans Z1016 (Keep.of_wr W1022).1
          show OEnds p.tables e below G (T1022.setTop (mkF m 25 #[.val (.ref a1), .val (.int (2 : Int32)), .val (.int p3), .val (.int v1018), .val (.int (5 : Int32))] []))
          refine OEnds.st (fun _ k => XS.iinc X1022.here hx rfl (hb hby d1_25) rfl (l' := #[.val (.ref a1), .val (.int (2 : Int32)), .val (.int p3), .val (.int v1018), .val (.int ((5 : Int32) + (1 : Int32)))]) rfl k) ?_
          show OEnds p.tables e below G (T1022.setTop (mkF m 28 #[.val (.ref a1), .val (.int (2 : Int32)), .val (.int p3), .val (.int v1018), .val (.int ((5 : Int32) + (1 : Int32)))] []))
          rw [show ((5 : Int32) + (1 : Int32)) = (6 : Int32) from by decide]
          show OEnds p.tables e below G (T1022.setTop (mkF m 28 #[.val (.ref a1), .val (.int (2 : Int32)), .val (.int p3), .val (.int v1018), .val (.int (6 : Int32))] []))
          refine OEnds.st (fun _ k => XS.iloadN X1022.here hx rfl (hb hby d1_28) rfl k) ?_
          show OEnds p.tables e below G (T1022.setTop (mkF m 29 #[.val (.ref a1), .val (.int (2 : Int32)), .val (.int p3), .val (.int v1018), .val (.int (6 : Int32))] [(.int v1018)]))
          refine OEnds.st (fun _ k => XS.bipush X1022.here hx rfl (hb hby d1_29) k) ?_
          show OEnds p.tables e below G (T1022.setTop (mkF m 31 #[.val (.ref a1), .val (.int (2 : Int32)), .val (.int p3), .val (.int v1018), .val (.int (6 : Int32))] [(.int (7 : Int32)), (.int v1018)]))
          refine OEnds.st (fun _ k => XS.iushr X1022.here hx rfl (hb hby d1_31) rfl k) ?_
          show OEnds p.tables e below G (T1022.setTop (mkF m 32 #[.val (.ref a1), .val (.int (2 : Int32)), .val (.int p3), .val (.int v1018), .val (.int (6 : Int32))] [(.int ((v1018.toUInt32 >>> ((7 : Int32) &&& 31).toUInt32).toInt32))]))
          refine OEnds.st (fun _ k => XS.istoreN X1022.here hx rfl (hb hby d1_32) rfl (l' := #[.val (.ref a1), .val (.int (2 : Int32)), .val (.int p3), .val (.int ((v1018.toUInt32 >>> ((7 : Int32) &&& 31).toUInt32).toInt32)), .val (.int (6 : Int32))]) rfl k) ?_
          show OEnds p.tables e below G (T1022.setTop (mkF m 33 #[.val (.ref a1), .val (.int (2 : Int32)), .val (.int p3), .val (.int ((v1018.toUInt32 >>> ((7 : Int32) &&& 31).toUInt32).toInt32)), .val (.int (6 : Int32))] []))
          generalize hv_v1024 : ((v1018.toUInt32 >>> ((7 : Int32) &&& 31).toUInt32).toInt32) = v1024
          show OEnds p.tables e below G (T1022.setTop (mkF m 33 #[.val (.ref a1), .val (.int (2 : Int32)), .val (.int p3), .val (.int v1024), .val (.int (6 : Int32))] []))
          refine OEnds.st (fun _ k => XS.goto X1022.here hx rfl (pc0 := 33) (pc' := 5) rfl (hb hby d1_33) (by decide) (by decide) k) ?_
          show OEnds p.tables e below G (T1022.setTop (mkF m 5 #[.val (.ref a1), .val (.int (2 : Int32)), .val (.int p3), .val (.int v1024), .val (.int (6 : Int32))] []))
          refine OEnds.st (fun _ k => XS.iloadN X1022.here hx rfl (hb hby d1_5) rfl k) ?_
          show OEnds p.tables e below G (T1022.setTop (mkF m 6 #[.val (.ref a1), .val (.int (2 : Int32)), .val (.int p3), .val (.int v1024), .val (.int (6 : Int32))] [(.int v1024)]))
          refine OEnds.st (fun _ k => XS.bipush X1022.here hx rfl (hb hby d1_6) k) ?_
          show OEnds p.tables e below G (T1022.setTop (mkF m 8 #[.val (.ref a1), .val (.int (2 : Int32)), .val (.int p3), .val (.int v1024), .val (.int (6 : Int32))] [(.int (-128 : Int32)), (.int v1024)]))
          refine OEnds.st (fun _ k => XS.iand X1022.here hx rfl (hb hby d1_8) rfl k) ?_
          show OEnds p.tables e below G (T1022.setTop (mkF m 9 #[.val (.ref a1), .val (.int (2 : Int32)), .val (.int p3), .val (.int v1024), .val (.int (6 : Int32))] [(.int (v1024 &&& (-128 : Int32)))]))
          have hc9_1025 : (v1024 &&& (-128 : Int32)) = (0 : Int32) := by subst hv_v1006 hv_v1012 hv_v1018 hv_v1024; exact own_five p3
          refine OEnds.st (fun _ k => XS.ifYes X1022.here hx rfl (pc0 := 9) (pc' := 36) rfl (hb hby d1_9) rfl ((if0 _ _).trans (teq hc9_1025).1) (by decide) (by decide) k) ?_
          show OEnds p.tables e below G (T1022.setTop (mkF m 36 #[.val (.ref a1), .val (.int (2 : Int32)), .val (.int p3), .val (.int v1024), .val (.int (6 : Int32))] []))
          refine OEnds.st (fun _ k => XS.aloadN X1022.here hx rfl (hb hby d1_36) rfl rfl k) ?_
          show OEnds p.tables e below G (T1022.setTop (mkF m 37 #[.val (.ref a1), .val (.int (2 : Int32)), .val (.int p3), .val (.int v1024), .val (.int (6 : Int32))] [(.ref a1)]))
          refine OEnds.st (fun _ k => XS.iload X1022.here hx rfl (hb hby d1_37) rfl k) ?_
          show OEnds p.tables e below G (T1022.setTop (mkF m 39 #[.val (.ref a1), .val (.int (2 : Int32)), .val (.int p3), .val (.int v1024), .val (.int (6 : Int32))] [(.int (6 : Int32)), (.ref a1)]))
          refine OEnds.st (fun _ k => XS.iloadN X1022.here hx rfl (hb hby d1_39) rfl k) ?_
          show OEnds p.tables e below G (T1022.setTop (mkF m 40 #[.val (.ref a1), .val (.int (2 : Int32)), .val (.int p3), .val (.int v1024), .val (.int (6 : Int32))] [(.int v1024), (.int (6 : Int32)), (.ref a1)]))
          refine OEnds.st (fun _ k => XS.i2b X1022.here hx rfl (hb hby d1_40) rfl k) ?_
          show OEnds p.tables e below G (T1022.setTop (mkF m 41 #[.val (.ref a1), .val (.int (2 : Int32)), .val (.int p3), .val (.int v1024), .val (.int (6 : Int32))] [(.int (v1024.toInt8.toInt32)), (.int (6 : Int32)), (.ref a1)]))
          obtain ⟨cl1026, Ar1026, q1026, S1026, N1026n, H1026, G1026⟩ := id f1023
          have hin1026 : ¬ ((6 : Int32) < 0 ∨ cl1026.slots.size ≤ ((6 : Int32)).toNatClampNeg) := inb_of S1026 ⟨by decide, by decide⟩
          obtain ⟨T1026, h1026, X1026, e1026, W1026, st1026⟩ := stB X1022 hx hZ e1022 Ar1026 (j := (6 : Int32)) hin1026 (g := (mkF m 41 #[.val (.ref a1), .val (.int (2 : Int32)), .val (.int p3), .val (.int v1024), .val (.int (6 : Int32))] [(.int (v1024.toInt8.toInt32)), (.int (6 : Int32)), (.ref a1)])) rfl rfl (hb hby d1_41)
          refine OEnds.st st1026 ?_
          rw [own_b8] at W1026
          have f1027 : Arv Z h1026 a1 k .byte (9 : Int32) [(.int f), (.int f), (.int (((p3 &&& (127 : Int32)) ||| (128 : Int32)).toInt8.toInt32)), (.int (((v1006 &&& (127 : Int32)) ||| (128 : Int32)).toInt8.toInt32)), (.int (((v1012 &&& (127 : Int32)) ||| (128 : Int32)).toInt8.toInt32)), (.int (((v1018 &&& (127 : Int32)) ||| (128 : Int32)).toInt8.toInt32)), (.int (v1024.toInt8.toInt32)), (.int f), (.int f)] (.int (0 : Int32)) := Arv.set Ar1026 q1026 S1026 N1026n H1026 G1026 (fits_nar_byte _) W1026 6 rfl (Nat.le_of_ble_eq_true rfl)
          have N1026 := Fr.snoc X1026 N1022 g_a1
          have KK1026 : Keep h0 h1026 [a1] := KK1022.wr W1026 (Or.inl (List.mem_of_getElem? (i := 0) rfl))
          have Z1026 := Nat.le_trans Z1022 (Keep.of_wr W1026).1
          show OEnds p.tables e below G (T1026.setTop (mkF m 42 #[.val (.ref a1), .val (.int (2 : Int32)), .val (.int p3), .val (.int v1024), .val (.int (6 : Int32))] []))
          refine OEnds.st (fun _ k => XS.iload X1026.here hx rfl (hb hby d1_42) rfl k) ?_
          show OEnds p.tables e below G (T1026.setTop (mkF m 44 #[.val (.ref a1), .val (.int (2 : Int32)), .val (.int p3), .val (.int v1024), .val (.int (6 : Int32))] [(.int (6 : Int32))]))
          refine OEnds.st (fun _ k => XS.iconst X1026.here hx rfl (hb hby d1_44) k) ?_
          show OEnds p.tables e below G (T1026.setTop (mkF m 45 #[.val (.ref a1), .val (.int (2 : Int32)), .val (.int p3), .val (.int v1024), .val (.int (6 : Int32))] [(.int (1 : Int32)), (.int (6 : Int32))]))
          refine OEnds.st (fun _ k => XS.iadd X1026.here hx rfl (hb hby d1_45) rfl k) ?_
          show OEnds p.tables e below G (T1026.setTop (mkF m 46 #[.val (.ref a1), .val (.int (2 : Int32)), .val (.int p3), .val (.int v1024), .val (.int (6 : Int32))] [(.int ((6 : Int32) + (1 : Int32)))]))
          rw [← hG]
          subst hv_v1006 hv_v1012 hv_v1018 hv_v1024
          have u0 : ¬ (p3 &&& (-128 : Int32)) = (0 : Int32) := hc9_1001
          have u1 : ¬ ((own_sh p3) &&& (-128 : Int32)) = (0 : Int32) := hc9_1007
          have u2 : ¬ ((own_sh (own_sh p3)) &&& (-128 : Int32)) = (0 : Int32) := hc9_1013
          have u3 : ¬ ((own_sh (own_sh (own_sh p3))) &&& (-128 : Int32)) = (0 : Int32) := hc9_1019
          have u4 : ((own_sh (own_sh (own_sh (own_sh p3)))) &&& (-128 : Int32)) = (0 : Int32) := hc9_1025
          have hq : own_cnt p3 = (5 : Int32) := by simp [own_cnt, u0, u1, u2, u3, u4]
          have hr : ((6 : Int32) + (1 : Int32)) = (2 : Int32) + own_cnt p3 := by first | (rw [hq]; done) | (rw [hq]; decide)
          have x0 : own_el 2 0 p3 f = f := by simp [own_el, own_byte, u0, u1, u2, u3, u4]
          have x1 : own_el 2 1 p3 f = f := by simp [own_el, own_byte, u0, u1, u2, u3, u4]
          have x2 : own_el 2 2 p3 f = own_hi p3 := by simp [own_el, own_byte, u0, u1, u2, u3, u4]
          have x3 : own_el 2 3 p3 f = own_hi (own_sh p3) := by simp [own_el, own_byte, u0, u1, u2, u3, u4]
          have x4 : own_el 2 4 p3 f = own_hi (own_sh (own_sh p3)) := by simp [own_el, own_byte, u0, u1, u2, u3, u4]
          have x5 : own_el 2 5 p3 f = own_hi (own_sh (own_sh (own_sh p3))) := by simp [own_el, own_byte, u0, u1, u2, u3, u4]
          have x6 : own_el 2 6 p3 f = own_lo (own_sh (own_sh (own_sh (own_sh p3)))) := by simp [own_el, own_byte, u0, u1, u2, u3, u4]
          have x7 : own_el 2 7 p3 f = f := by simp [own_el, own_byte, u0, u1, u2, u3, u4]
          have x8 : own_el 2 8 p3 f = f := by simp [own_el, own_byte, u0, u1, u2, u3, u4]
          refine OEnds.retI X1026 hx hlk Bd.returns (hb hby d1_46) (by decide) (by decide) ?_
          rw [e1026]
          refine ⟨congrArg (fun z => some (Value.int z)) hr, N1026, KK1026, ?_⟩
          unfold own_els
          rw [x0, x1, x2, x3, x4, x5, x6, x7, x8]
          exact f1027
theorem ef_put3 (m : MethodId) (a1 : Addr) (p3 : Int32) : entryFrame m #[(.ref a1), (.int (3 : Int32)), (.int p3)] 5 = mkF m 0 #[.val (.ref a1), .val (.int (3 : Int32)), .val (.int p3), .unset, .unset] [] := by first | (simp [entryFrame, mkF, argsToLocals, Value.category]; done) | rfl
def Qput3 (Z : State) (a1 : Addr) (p3 : Int32) (k : ClassId) (f : Int32) (h0 : Heap) (n0 : Nat) (v : Option Value) (h : Heap) (L : List Loc) : Prop := v = some (.int ((3 : Int32) + own_cnt p3)) ∧ Fr n0 L ∧ Keep h0 h [a1] ∧ Arv Z h a1 k .byte (9 : Int32) (own_els 3 p3 f) (.int (0 : Int32))
set_option maxRecDepth 65536 in
set_option maxHeartbeats 40000000 in
theorem rmput3 (l : Launch) (Z : State) (a0 : Array Value) (hw : ∀ d ∈ tables_1, d.before a0 Z = true) (ws : List Jvm.Cond) (a1 : Addr) (p3 : Int32) (k : ClassId) (f : Int32) (h0 : Heap) (n0 : Nat) (Z0 : n0 ≤ h0.size) (V : Arv Z h0 a1 k .byte (9 : Int32) [(.int f), (.int f), (.int f), (.int f), (.int f), (.int f), (.int f), (.int f), (.int f)] (.int (0 : Int32))) (g_a1 : n0 ≤ a1) (hf8 : nar .byte f = f) :
    MetFree l (⟨"com/example/words_to_weights/wordstoweights/index/IndexFormat", "putNumber", "([BII)I"⟩ : MethodName) (head1 (Jvm.Cond.code (⟨"com/example/words_to_weights/wordstoweights/index/IndexFormat", "putNumber", "([BII)I"⟩ : MethodName) prog_39_method_2_code 5 (some .int) :: ws) ({ frames := 0, cells := 0, slots := 0, locals := 0 } : Room)) (fun a U => a = #[(.ref a1), (.int (3 : Int32)), (.int p3)] ∧ Z.Warmed39 U.vm ∧ U.heap = h0) (fun _ _ _ _ _ => True) (fun _ U o U' => ∃ v L, o = .returned v ∧ Qput3 Z a1 p3 k f h0 n0 v U'.heap L ∧ FrameEnd U o U' L ({ frames := 0, cells := 0, slots := 0, locals := 0 } : Room).cells ({ frames := 0, cells := 0, slots := 0, locals := 0 } : Room).slots) := by
  refine MetFree.of_bodySF (plainFor_of_name pn_0) hisR ?_
  intro p e s m args below meth c s₁ Bd hml0 hP hK
  obtain ⟨rfl, hZ, hh⟩ := hP
  have hx := Bd.exec
  have hby := Bd.bytes
  have hml : c.maxLocals = 5 := hml0
  have hown : s.vm.findClass "com/example/words_to_weights/wordstoweights/index/IndexFormat" = some m.cls := findClass_of_methodNamed Bd.named
  have hnm := (name_of_methodNamed Bd.named Bd.method).1
  have hlk : meth.locks = false := BodyLoose.notSynchronized Bd
  have X0 : Stand p l e ({ frames := 0, cells := 0, slots := 0, locals := 0 } : Room) s m #[(.ref a1), (.int (3 : Int32)), (.int p3)] below meth c s₁ [] 0 0 := Stand.of_body Bd
  have e0 : s₁.heap = h0 := by rw [← hh, Bd.state]; rfl
  have N0 := Fr.nil n0
  show OEnds p.tables e below (OGoal (Qput3 Z a1 p3 k f h0 n0) s 0 0) (s₁.setTop (entryFrame m #[(.ref a1), (.int (3 : Int32)), (.int p3)] 5))
  refine OEnds.st (fun t k => castTop (ef_put3 m a1 p3) k) ?_
  generalize hG : OGoal (Qput3 Z a1 p3 k f h0 n0) s 0 0 = G
  have KK0 : Keep h0 h0 [a1] := Keep.refl h0 [a1]
  show OEnds p.tables e below G (s₁.setTop (mkF m 0 #[.val (.ref a1), .val (.int (3 : Int32)), .val (.int p3), .unset, .unset] []))
  refine OEnds.st (fun _ k => XS.iloadN X0.here hx rfl (hb hby d1_0) rfl k) ?_
  show OEnds p.tables e below G (s₁.setTop (mkF m 1 #[.val (.ref a1), .val (.int (3 : Int32)), .val (.int p3), .unset, .unset] [(.int p3)]))
  refine OEnds.st (fun _ k => XS.istoreN X0.here hx rfl (hb hby d1_1) rfl (l' := #[.val (.ref a1), .val (.int (3 : Int32)), .val (.int p3), .val (.int p3), .unset]) rfl k) ?_
  show OEnds p.tables e below G (s₁.setTop (mkF m 2 #[.val (.ref a1), .val (.int (3 : Int32)), .val (.int p3), .val (.int p3), .unset] []))
  refine OEnds.st (fun _ k => XS.iloadN X0.here hx rfl (hb hby d1_2) rfl k) ?_
  show OEnds p.tables e below G (s₁.setTop (mkF m 3 #[.val (.ref a1), .val (.int (3 : Int32)), .val (.int p3), .val (.int p3), .unset] [(.int (3 : Int32))]))
  refine OEnds.st (fun _ k => XS.istore X0.here hx rfl (hb hby d1_3) rfl (l' := #[.val (.ref a1), .val (.int (3 : Int32)), .val (.int p3), .val (.int p3), .val (.int (3 : Int32))]) rfl k) ?_
  show OEnds p.tables e below G (s₁.setTop (mkF m 5 #[.val (.ref a1), .val (.int (3 : Int32)), .val (.int p3), .val (.int p3), .val (.int (3 : Int32))] []))
  refine OEnds.st (fun _ k => XS.iloadN X0.here hx rfl (hb hby d1_5) rfl k) ?_
  show OEnds p.tables e below G (s₁.setTop (mkF m 6 #[.val (.ref a1), .val (.int (3 : Int32)), .val (.int p3), .val (.int p3), .val (.int (3 : Int32))] [(.int p3)]))
  refine OEnds.st (fun _ k => XS.bipush X0.here hx rfl (hb hby d1_6) k) ?_
  show OEnds p.tables e below G (s₁.setTop (mkF m 8 #[.val (.ref a1), .val (.int (3 : Int32)), .val (.int p3), .val (.int p3), .val (.int (3 : Int32))] [(.int (-128 : Int32)), (.int p3)]))
  refine OEnds.st (fun _ k => XS.iand X0.here hx rfl (hb hby d1_8) rfl k) ?_
  show OEnds p.tables e below G (s₁.setTop (mkF m 9 #[.val (.ref a1), .val (.int (3 : Int32)), .val (.int p3), .val (.int p3), .val (.int (3 : Int32))] [(.int (p3 &&& (-128 : Int32)))]))
  by_cases hc9_1001 : (p3 &&& (-128 : Int32)) = (0 : Int32)
  · -- pc 9: yes
    refine OEnds.st (fun _ k => XS.ifYes X0.here hx rfl (pc0 := 9) (pc' := 36) rfl (hb hby d1_9) rfl ((if0 _ _).trans (teq hc9_1001).1) (by decide) (by decide) k) ?_
    show OEnds p.tables e below G (s₁.setTop (mkF m 36 #[.val (.ref a1), .val (.int (3 : Int32)), .val (.int p3), .val (.int p3), .val (.int (3 : Int32))] []))
    refine OEnds.st (fun _ k => XS.aloadN X0.here hx rfl (hb hby d1_36) rfl rfl k) ?_
    show OEnds p.tables e below G (s₁.setTop (mkF m 37 #[.val (.ref a1), .val (.int (3 : Int32)), .val (.int p3), .val (.int p3), .val (.int (3 : Int32))] [(.ref a1)]))
    refine OEnds.st (fun _ k => XS.iload X0.here hx rfl (hb hby d1_37) rfl k) ?_
    show OEnds p.tables e below G (s₁.setTop (mkF m 39 #[.val (.ref a1), .val (.int (3 : Int32)), .val (.int p3), .val (.int p3), .val (.int (3 : Int32))] [(.int (3 : Int32)), (.ref a1)]))
    refine OEnds.st (fun _ k => XS.iloadN X0.here hx rfl (hb hby d1_39) rfl k) ?_
    show OEnds p.tables e below G (s₁.setTop (mkF m 40 #[.val (.ref a1), .val (.int (3 : Int32)), .val (.int p3), .val (.int p3), .val (.int (3 : Int32))] [(.int p3), (.int (3 : Int32)), (.ref a1)]))
    refine OEnds.st (fun _ k => XS.i2b X0.here hx rfl (hb hby d1_40) rfl k) ?_
    show OEnds p.tables e below G (s₁.setTop (mkF m 41 #[.val (.ref a1), .val (.int (3 : Int32)), .val (.int p3), .val (.int p3), .val (.int (3 : Int32))] [(.int (p3.toInt8.toInt32)), (.int (3 : Int32)), (.ref a1)]))
    obtain ⟨cl1002, Ar1002, q1002, S1002, N1002n, H1002, G1002⟩ := id V
    have hin1002 : ¬ ((3 : Int32) < 0 ∨ cl1002.slots.size ≤ ((3 : Int32)).toNatClampNeg) := inb_of S1002 ⟨by decide, by decide⟩
    obtain ⟨T1002, h1002, X1002, e1002, W1002, st1002⟩ := stB X0 hx hZ e0 Ar1002 (j := (3 : Int32)) hin1002 (g := (mkF m 41 #[.val (.ref a1), .val (.int (3 : Int32)), .val (.int p3), .val (.int p3), .val (.int (3 : Int32))] [(.int (p3.toInt8.toInt32)), (.int (3 : Int32)), (.ref a1)])) rfl rfl (hb hby d1_41)
    refine OEnds.st st1002 ?_
    rw [own_b8] at W1002
    have f1003 : Arv Z h1002 a1 k .byte (9 : Int32) [(.int f), (.int f), (.int f), (.int (p3.toInt8.toInt32)), (.int f), (.int f), (.int f), (.int f), (.int f)] (.int (0 : Int32)) := Arv.set Ar1002 q1002 S1002 N1002n H1002 G1002 (fits_nar_byte _) W1002 3 rfl (Nat.le_of_ble_eq_true rfl)
    have N1002 := Fr.snoc X1002 N0 g_a1
    have KK1002 : Keep h0 h1002 [a1] := KK0.wr W1002 (Or.inl (List.mem_of_getElem? (i := 0) rfl))
    have Z1002 := Nat.le_trans Z0 (Keep.of_wr W1002).1
    show OEnds p.tables e below G (T1002.setTop (mkF m 42 #[.val (.ref a1), .val (.int (3 : Int32)), .val (.int p3), .val (.int p3), .val (.int (3 : Int32))] []))
    refine OEnds.st (fun _ k => XS.iload X1002.here hx rfl (hb hby d1_42) rfl k) ?_
    show OEnds p.tables e below G (T1002.setTop (mkF m 44 #[.val (.ref a1), .val (.int (3 : Int32)), .val (.int p3), .val (.int p3), .val (.int (3 : Int32))] [(.int (3 : Int32))]))
    refine OEnds.st (fun _ k => XS.iconst X1002.here hx rfl (hb hby d1_44) k) ?_
    show OEnds p.tables e below G (T1002.setTop (mkF m 45 #[.val (.ref a1), .val (.int (3 : Int32)), .val (.int p3), .val (.int p3), .val (.int (3 : Int32))] [(.int (1 : Int32)), (.int (3 : Int32))]))
    refine OEnds.st (fun _ k => XS.iadd X1002.here hx rfl (hb hby d1_45) rfl k) ?_
    show OEnds p.tables e below G (T1002.setTop (mkF m 46 #[.val (.ref a1), .val (.int (3 : Int32)), .val (.int p3), .val (.int p3), .val (.int (3 : Int32))] [(.int ((3 : Int32) + (1 : Int32)))]))
    rw [← hG]
    have u0 : (p3 &&& (-128 : Int32)) = (0 : Int32) := hc9_1001
    have hq : own_cnt p3 = (1 : Int32) := by simp [own_cnt, u0]
    have hr : ((3 : Int32) + (1 : Int32)) = (3 : Int32) + own_cnt p3 := by first | (rw [hq]; done) | (rw [hq]; decide)
    have x0 : own_el 3 0 p3 f = f := by simp [own_el, own_byte, u0]
    have x1 : own_el 3 1 p3 f = f := by simp [own_el, own_byte, u0]
    have x2 : own_el 3 2 p3 f = f := by simp [own_el, own_byte, u0]
    have x3 : own_el 3 3 p3 f = own_lo p3 := by simp [own_el, own_byte, u0]
    have x4 : own_el 3 4 p3 f = f := by simp [own_el, own_byte, u0]
    have x5 : own_el 3 5 p3 f = f := by simp [own_el, own_byte, u0]
    have x6 : own_el 3 6 p3 f = f := by simp [own_el, own_byte, u0]
    have x7 : own_el 3 7 p3 f = f := by simp [own_el, own_byte, u0]
    have x8 : own_el 3 8 p3 f = f := by simp [own_el, own_byte, u0]
    refine OEnds.retI X1002 hx hlk Bd.returns (hb hby d1_46) (by decide) (by decide) ?_
    rw [e1002]
    refine ⟨congrArg (fun z => some (Value.int z)) hr, N1002, KK1002, ?_⟩
    unfold own_els
    rw [x0, x1, x2, x3, x4, x5, x6, x7, x8]
    exact f1003
  · -- pc 9: no
    refine OEnds.st (fun _ k => XS.ifNo X0.here hx rfl (hb hby d1_9) rfl ((if0 _ _).trans (feq hc9_1001).1) k) ?_
    show OEnds p.tables e below G (s₁.setTop (mkF m 12 #[.val (.ref a1), .val (.int (3 : Int32)), .val (.int p3), .val (.int p3), .val (.int (3 : Int32))] []))
    refine OEnds.st (fun _ k => XS.aloadN X0.here hx rfl (hb hby d1_12) rfl rfl k) ?_
    show OEnds p.tables e below G (s₁.setTop (mkF m 13 #[.val (.ref a1), .val (.int (3 : Int32)), .val (.int p3), .val (.int p3), .val (.int (3 : Int32))] [(.ref a1)]))
    refine OEnds.st (fun _ k => XS.iload X0.here hx rfl (hb hby d1_13) rfl k) ?_
    show OEnds p.tables e below G (s₁.setTop (mkF m 15 #[.val (.ref a1), .val (.int (3 : Int32)), .val (.int p3), .val (.int p3), .val (.int (3 : Int32))] [(.int (3 : Int32)), (.ref a1)]))
    refine OEnds.st (fun _ k => XS.iloadN X0.here hx rfl (hb hby d1_15) rfl k) ?_
    show OEnds p.tables e below G (s₁.setTop (mkF m 16 #[.val (.ref a1), .val (.int (3 : Int32)), .val (.int p3), .val (.int p3), .val (.int (3 : Int32))] [(.int p3), (.int (3 : Int32)), (.ref a1)]))
    refine OEnds.st (fun _ k => XS.bipush X0.here hx rfl (hb hby d1_16) k) ?_
    show OEnds p.tables e below G (s₁.setTop (mkF m 18 #[.val (.ref a1), .val (.int (3 : Int32)), .val (.int p3), .val (.int p3), .val (.int (3 : Int32))] [(.int (127 : Int32)), (.int p3), (.int (3 : Int32)), (.ref a1)]))
    refine OEnds.st (fun _ k => XS.iand X0.here hx rfl (hb hby d1_18) rfl k) ?_
    show OEnds p.tables e below G (s₁.setTop (mkF m 19 #[.val (.ref a1), .val (.int (3 : Int32)), .val (.int p3), .val (.int p3), .val (.int (3 : Int32))] [(.int (p3 &&& (127 : Int32))), (.int (3 : Int32)), (.ref a1)]))
    refine OEnds.st (fun _ k => XS.sipush X0.here hx rfl (hb hby d1_19) k) ?_
    show OEnds p.tables e below G (s₁.setTop (mkF m 22 #[.val (.ref a1), .val (.int (3 : Int32)), .val (.int p3), .val (.int p3), .val (.int (3 : Int32))] [(.int (128 : Int32)), (.int (p3 &&& (127 : Int32))), (.int (3 : Int32)), (.ref a1)]))
    refine OEnds.st (fun _ k => XS.ior X0.here hx rfl (hb hby d1_22) rfl k) ?_
    show OEnds p.tables e below G (s₁.setTop (mkF m 23 #[.val (.ref a1), .val (.int (3 : Int32)), .val (.int p3), .val (.int p3), .val (.int (3 : Int32))] [(.int ((p3 &&& (127 : Int32)) ||| (128 : Int32))), (.int (3 : Int32)), (.ref a1)]))
    refine OEnds.st (fun _ k => XS.i2b X0.here hx rfl (hb hby d1_23) rfl k) ?_
    show OEnds p.tables e below G (s₁.setTop (mkF m 24 #[.val (.ref a1), .val (.int (3 : Int32)), .val (.int p3), .val (.int p3), .val (.int (3 : Int32))] [(.int (((p3 &&& (127 : Int32)) ||| (128 : Int32)).toInt8.toInt32)), (.int (3 : Int32)), (.ref a1)]))
    obtain ⟨cl1004, Ar1004, q1004, S1004, N1004n, H1004, G1004⟩ := id V
    have hin1004 : ¬ ((3 : Int32) < 0 ∨ cl1004.slots.size ≤ ((3 : Int32)).toNatClampNeg) := inb_of S1004 ⟨by decide, by decide⟩
    obtain ⟨T1004, h1004, X1004, e1004, W1004, st1004⟩ := stB X0 hx hZ e0 Ar1004 (j := (3 : Int32)) hin1004 (g := (mkF m 24 #[.val (.ref a1), .val (.int (3 : Int32)), .val (.int p3), .val (.int p3), .val (.int (3 : Int32))] [(.int (((p3 &&& (127 : Int32)) ||| (128 : Int32)).toInt8.toInt32)), (.int (3 : Int32)), (.ref a1)])) rfl rfl (hb hby d1_24)
    refine OEnds.st st1004 ?_
    rw [own_b8] at W1004
    have f1005 : Arv Z h1004 a1 k .byte (9 : Int32) [(.int f), (.int f), (.int f), (.int (((p3 &&& (127 : Int32)) ||| (128 : Int32)).toInt8.toInt32)), (.int f), (.int f), (.int f), (.int f), (.int f)] (.int (0 : Int32)) := Arv.set Ar1004 q1004 S1004 N1004n H1004 G1004 (fits_nar_byte _) W1004 3 rfl (Nat.le_of_ble_eq_true rfl)
    have N1004 := Fr.snoc X1004 N0 g_a1
    have KK1004 : Keep h0 h1004 [a1] := KK0.wr W1004 (Or.inl (List.mem_of_getElem? (i := 0) rfl))
    have Z1004 := Nat.le_trans Z0 (Keep.of_wr W1004).1
    show OEnds p.tables e below G (T1004.setTop (mkF m 25 #[.val (.ref a1), .val (.int (3 : Int32)), .val (.int p3), .val (.int p3), .val (.int (3 : Int32))] []))
    refine OEnds.st (fun _ k => XS.iinc X1004.here hx rfl (hb hby d1_25) rfl (l' := #[.val (.ref a1), .val (.int (3 : Int32)), .val (.int p3), .val (.int p3), .val (.int ((3 : Int32) + (1 : Int32)))]) rfl k) ?_
    show OEnds p.tables e below G (T1004.setTop (mkF m 28 #[.val (.ref a1), .val (.int (3 : Int32)), .val (.int p3), .val (.int p3), .val (.int ((3 : Int32) + (1 : Int32)))] []))
    rw [show ((3 : Int32) + (1 : Int32)) = (4 : Int32) from by decide]
    show OEnds p.tables e below G (T1004.setTop (mkF m 28 #[.val (.ref a1), .val (.int (3 : Int32)), .val (.int p3), .val (.int p3), .val (.int (4 : Int32))] []))
    refine OEnds.st (fun _ k => XS.iloadN X1004.here hx rfl (hb hby d1_28) rfl k) ?_
    show OEnds p.tables e below G (T1004.setTop (mkF m 29 #[.val (.ref a1), .val (.int (3 : Int32)), .val (.int p3), .val (.int p3), .val (.int (4 : Int32))] [(.int p3)]))
    refine OEnds.st (fun _ k => XS.bipush X1004.here hx rfl (hb hby d1_29) k) ?_
    show OEnds p.tables e below G (T1004.setTop (mkF m 31 #[.val (.ref a1), .val (.int (3 : Int32)), .val (.int p3), .val (.int p3), .val (.int (4 : Int32))] [(.int (7 : Int32)), (.int p3)]))
    refine OEnds.st (fun _ k => XS.iushr X1004.here hx rfl (hb hby d1_31) rfl k) ?_
    show OEnds p.tables e below G (T1004.setTop (mkF m 32 #[.val (.ref a1), .val (.int (3 : Int32)), .val (.int p3), .val (.int p3), .val (.int (4 : Int32))] [(.int ((p3.toUInt32 >>> ((7 : Int32) &&& 31).toUInt32).toInt32))]))
    refine OEnds.st (fun _ k => XS.istoreN X1004.here hx rfl (hb hby d1_32) rfl (l' := #[.val (.ref a1), .val (.int (3 : Int32)), .val (.int p3), .val (.int ((p3.toUInt32 >>> ((7 : Int32) &&& 31).toUInt32).toInt32)), .val (.int (4 : Int32))]) rfl k) ?_
    show OEnds p.tables e below G (T1004.setTop (mkF m 33 #[.val (.ref a1), .val (.int (3 : Int32)), .val (.int p3), .val (.int ((p3.toUInt32 >>> ((7 : Int32) &&& 31).toUInt32).toInt32)), .val (.int (4 : Int32))] []))
    generalize hv_v1006 : ((p3.toUInt32 >>> ((7 : Int32) &&& 31).toUInt32).toInt32) = v1006
    show OEnds p.tables e below G (T1004.setTop (mkF m 33 #[.val (.ref a1), .val (.int (3 : Int32)), .val (.int p3), .val (.int v1006), .val (.int (4 : Int32))] []))
    refine OEnds.st (fun _ k => XS.goto X1004.here hx rfl (pc0 := 33) (pc' := 5) rfl (hb hby d1_33) (by decide) (by decide) k) ?_
    show OEnds p.tables e below G (T1004.setTop (mkF m 5 #[.val (.ref a1), .val (.int (3 : Int32)), .val (.int p3), .val (.int v1006), .val (.int (4 : Int32))] []))
    refine OEnds.st (fun _ k => XS.iloadN X1004.here hx rfl (hb hby d1_5) rfl k) ?_
    show OEnds p.tables e below G (T1004.setTop (mkF m 6 #[.val (.ref a1), .val (.int (3 : Int32)), .val (.int p3), .val (.int v1006), .val (.int (4 : Int32))] [(.int v1006)]))
    refine OEnds.st (fun _ k => XS.bipush X1004.here hx rfl (hb hby d1_6) k) ?_
    show OEnds p.tables e below G (T1004.setTop (mkF m 8 #[.val (.ref a1), .val (.int (3 : Int32)), .val (.int p3), .val (.int v1006), .val (.int (4 : Int32))] [(.int (-128 : Int32)), (.int v1006)]))
    refine OEnds.st (fun _ k => XS.iand X1004.here hx rfl (hb hby d1_8) rfl k) ?_
    show OEnds p.tables e below G (T1004.setTop (mkF m 9 #[.val (.ref a1), .val (.int (3 : Int32)), .val (.int p3), .val (.int v1006), .val (.int (4 : Int32))] [(.int (v1006 &&& (-128 : Int32)))]))
    by_cases hc9_1007 : (v1006 &&& (-128 : Int32)) = (0 : Int32)
    · -- pc 9: yes
      refine OEnds.st (fun _ k => XS.ifYes X1004.here hx rfl (pc0 := 9) (pc' := 36) rfl (hb hby d1_9) rfl ((if0 _ _).trans (teq hc9_1007).1) (by decide) (by decide) k) ?_
      show OEnds p.tables e below G (T1004.setTop (mkF m 36 #[.val (.ref a1), .val (.int (3 : Int32)), .val (.int p3), .val (.int v1006), .val (.int (4 : Int32))] []))
      refine OEnds.st (fun _ k => XS.aloadN X1004.here hx rfl (hb hby d1_36) rfl rfl k) ?_
      show OEnds p.tables e below G (T1004.setTop (mkF m 37 #[.val (.ref a1), .val (.int (3 : Int32)), .val (.int p3), .val (.int v1006), .val (.int (4 : Int32))] [(.ref a1)]))
      refine OEnds.st (fun _ k => XS.iload X1004.here hx rfl (hb hby d1_37) rfl k) ?_
      show OEnds p.tables e below G (T1004.setTop (mkF m 39 #[.val (.ref a1), .val (.int (3 : Int32)), .val (.int p3), .val (.int v1006), .val (.int (4 : Int32))] [(.int (4 : Int32)), (.ref a1)]))
      refine OEnds.st (fun _ k => XS.iloadN X1004.here hx rfl (hb hby d1_39) rfl k) ?_
      show OEnds p.tables e below G (T1004.setTop (mkF m 40 #[.val (.ref a1), .val (.int (3 : Int32)), .val (.int p3), .val (.int v1006), .val (.int (4 : Int32))] [(.int v1006), (.int (4 : Int32)), (.ref a1)]))
      refine OEnds.st (fun _ k => XS.i2b X1004.here hx rfl (hb hby d1_40) rfl k) ?_
      show OEnds p.tables e below G (T1004.setTop (mkF m 41 #[.val (.ref a1), .val (.int (3 : Int32)), .val (.int p3), .val (.int v1006), .val (.int (4 : Int32))] [(.int (v1006.toInt8.toInt32)), (.int (4 : Int32)), (.ref a1)]))
      obtain ⟨cl1008, Ar1008, q1008, S1008, N1008n, H1008, G1008⟩ := id f1005
      have hin1008 : ¬ ((4 : Int32) < 0 ∨ cl1008.slots.size ≤ ((4 : Int32)).toNatClampNeg) := inb_of S1008 ⟨by decide, by decide⟩
      obtain ⟨T1008, h1008, X1008, e1008, W1008, st1008⟩ := stB X1004 hx hZ e1004 Ar1008 (j := (4 : Int32)) hin1008 (g := (mkF m 41 #[.val (.ref a1), .val (.int (3 : Int32)), .val (.int p3), .val (.int v1006), .val (.int (4 : Int32))] [(.int (v1006.toInt8.toInt32)), (.int (4 : Int32)), (.ref a1)])) rfl rfl (hb hby d1_41)
      refine OEnds.st st1008 ?_
      rw [own_b8] at W1008
      have f1009 : Arv Z h1008 a1 k .byte (9 : Int32) [(.int f), (.int f), (.int f), (.int (((p3 &&& (127 : Int32)) ||| (128 : Int32)).toInt8.toInt32)), (.int (v1006.toInt8.toInt32)), (.int f), (.int f), (.int f), (.int f)] (.int (0 : Int32)) := Arv.set Ar1008 q1008 S1008 N1008n H1008 G1008 (fits_nar_byte _) W1008 4 rfl (Nat.le_of_ble_eq_true rfl)
      have N1008 := Fr.snoc X1008 N1004 g_a1
      have KK1008 : Keep h0 h1008 [a1] := KK1004.wr W1008 (Or.inl (List.mem_of_getElem? (i := 0) rfl))
      have Z1008 := Nat.le_trans Z1004 (Keep.of_wr W1008).1
      show OEnds p.tables e below G (T1008.setTop (mkF m 42 #[.val (.ref a1), .val (.int (3 : Int32)), .val (.int p3), .val (.int v1006), .val (.int (4 : Int32))] []))
      refine OEnds.st (fun _ k => XS.iload X1008.here hx rfl (hb hby d1_42) rfl k) ?_
      show OEnds p.tables e below G (T1008.setTop (mkF m 44 #[.val (.ref a1), .val (.int (3 : Int32)), .val (.int p3), .val (.int v1006), .val (.int (4 : Int32))] [(.int (4 : Int32))]))
      refine OEnds.st (fun _ k => XS.iconst X1008.here hx rfl (hb hby d1_44) k) ?_
      show OEnds p.tables e below G (T1008.setTop (mkF m 45 #[.val (.ref a1), .val (.int (3 : Int32)), .val (.int p3), .val (.int v1006), .val (.int (4 : Int32))] [(.int (1 : Int32)), (.int (4 : Int32))]))
      refine OEnds.st (fun _ k => XS.iadd X1008.here hx rfl (hb hby d1_45) rfl k) ?_
      show OEnds p.tables e below G (T1008.setTop (mkF m 46 #[.val (.ref a1), .val (.int (3 : Int32)), .val (.int p3), .val (.int v1006), .val (.int (4 : Int32))] [(.int ((4 : Int32) + (1 : Int32)))]))
      rw [← hG]
      subst hv_v1006
      have u0 : ¬ (p3 &&& (-128 : Int32)) = (0 : Int32) := hc9_1001
      have u1 : ((own_sh p3) &&& (-128 : Int32)) = (0 : Int32) := hc9_1007
      have hq : own_cnt p3 = (2 : Int32) := by simp [own_cnt, u0, u1]
      have hr : ((4 : Int32) + (1 : Int32)) = (3 : Int32) + own_cnt p3 := by first | (rw [hq]; done) | (rw [hq]; decide)
      have x0 : own_el 3 0 p3 f = f := by simp [own_el, own_byte, u0, u1]
      have x1 : own_el 3 1 p3 f = f := by simp [own_el, own_byte, u0, u1]
      have x2 : own_el 3 2 p3 f = f := by simp [own_el, own_byte, u0, u1]
      have x3 : own_el 3 3 p3 f = own_hi p3 := by simp [own_el, own_byte, u0, u1]
      have x4 : own_el 3 4 p3 f = own_lo (own_sh p3) := by simp [own_el, own_byte, u0, u1]
      have x5 : own_el 3 5 p3 f = f := by simp [own_el, own_byte, u0, u1]
      have x6 : own_el 3 6 p3 f = f := by simp [own_el, own_byte, u0, u1]
      have x7 : own_el 3 7 p3 f = f := by simp [own_el, own_byte, u0, u1]
      have x8 : own_el 3 8 p3 f = f := by simp [own_el, own_byte, u0, u1]
      refine OEnds.retI X1008 hx hlk Bd.returns (hb hby d1_46) (by decide) (by decide) ?_
      rw [e1008]
      refine ⟨congrArg (fun z => some (Value.int z)) hr, N1008, KK1008, ?_⟩
      unfold own_els
      rw [x0, x1, x2, x3, x4, x5, x6, x7, x8]
      exact f1009
    · -- pc 9: no
      refine OEnds.st (fun _ k => XS.ifNo X1004.here hx rfl (hb hby d1_9) rfl ((if0 _ _).trans (feq hc9_1007).1) k) ?_
      show OEnds p.tables e below G (T1004.setTop (mkF m 12 #[.val (.ref a1), .val (.int (3 : Int32)), .val (.int p3), .val (.int v1006), .val (.int (4 : Int32))] []))
      refine OEnds.st (fun _ k => XS.aloadN X1004.here hx rfl (hb hby d1_12) rfl rfl k) ?_
      show OEnds p.tables e below G (T1004.setTop (mkF m 13 #[.val (.ref a1), .val (.int (3 : Int32)), .val (.int p3), .val (.int v1006), .val (.int (4 : Int32))] [(.ref a1)]))
      refine OEnds.st (fun _ k => XS.iload X1004.here hx rfl (hb hby d1_13) rfl k) ?_
      show OEnds p.tables e below G (T1004.setTop (mkF m 15 #[.val (.ref a1), .val (.int (3 : Int32)), .val (.int p3), .val (.int v1006), .val (.int (4 : Int32))] [(.int (4 : Int32)), (.ref a1)]))
      refine OEnds.st (fun _ k => XS.iloadN X1004.here hx rfl (hb hby d1_15) rfl k) ?_
      show OEnds p.tables e below G (T1004.setTop (mkF m 16 #[.val (.ref a1), .val (.int (3 : Int32)), .val (.int p3), .val (.int v1006), .val (.int (4 : Int32))] [(.int v1006), (.int (4 : Int32)), (.ref a1)]))
      refine OEnds.st (fun _ k => XS.bipush X1004.here hx rfl (hb hby d1_16) k) ?_
      show OEnds p.tables e below G (T1004.setTop (mkF m 18 #[.val (.ref a1), .val (.int (3 : Int32)), .val (.int p3), .val (.int v1006), .val (.int (4 : Int32))] [(.int (127 : Int32)), (.int v1006), (.int (4 : Int32)), (.ref a1)]))
      refine OEnds.st (fun _ k => XS.iand X1004.here hx rfl (hb hby d1_18) rfl k) ?_
      show OEnds p.tables e below G (T1004.setTop (mkF m 19 #[.val (.ref a1), .val (.int (3 : Int32)), .val (.int p3), .val (.int v1006), .val (.int (4 : Int32))] [(.int (v1006 &&& (127 : Int32))), (.int (4 : Int32)), (.ref a1)]))
      refine OEnds.st (fun _ k => XS.sipush X1004.here hx rfl (hb hby d1_19) k) ?_
      show OEnds p.tables e below G (T1004.setTop (mkF m 22 #[.val (.ref a1), .val (.int (3 : Int32)), .val (.int p3), .val (.int v1006), .val (.int (4 : Int32))] [(.int (128 : Int32)), (.int (v1006 &&& (127 : Int32))), (.int (4 : Int32)), (.ref a1)]))
      refine OEnds.st (fun _ k => XS.ior X1004.here hx rfl (hb hby d1_22) rfl k) ?_
      show OEnds p.tables e below G (T1004.setTop (mkF m 23 #[.val (.ref a1), .val (.int (3 : Int32)), .val (.int p3), .val (.int v1006), .val (.int (4 : Int32))] [(.int ((v1006 &&& (127 : Int32)) ||| (128 : Int32))), (.int (4 : Int32)), (.ref a1)]))
      refine OEnds.st (fun _ k => XS.i2b X1004.here hx rfl (hb hby d1_23) rfl k) ?_
      show OEnds p.tables e below G (T1004.setTop (mkF m 24 #[.val (.ref a1), .val (.int (3 : Int32)), .val (.int p3), .val (.int v1006), .val (.int (4 : Int32))] [(.int (((v1006 &&& (127 : Int32)) ||| (128 : Int32)).toInt8.toInt32)), (.int (4 : Int32)), (.ref a1)]))
      obtain ⟨cl1010, Ar1010, q1010, S1010, N1010n, H1010, G1010⟩ := id f1005
      have hin1010 : ¬ ((4 : Int32) < 0 ∨ cl1010.slots.size ≤ ((4 : Int32)).toNatClampNeg) := inb_of S1010 ⟨by decide, by decide⟩
      obtain ⟨T1010, h1010, X1010, e1010, W1010, st1010⟩ := stB X1004 hx hZ e1004 Ar1010 (j := (4 : Int32)) hin1010 (g := (mkF m 24 #[.val (.ref a1), .val (.int (3 : Int32)), .val (.int p3), .val (.int v1006), .val (.int (4 : Int32))] [(.int (((v1006 &&& (127 : Int32)) ||| (128 : Int32)).toInt8.toInt32)), (.int (4 : Int32)), (.ref a1)])) rfl rfl (hb hby d1_24)
      refine OEnds.st st1010 ?_
      rw [own_b8] at W1010
      have f1011 : Arv Z h1010 a1 k .byte (9 : Int32) [(.int f), (.int f), (.int f), (.int (((p3 &&& (127 : Int32)) ||| (128 : Int32)).toInt8.toInt32)), (.int (((v1006 &&& (127 : Int32)) ||| (128 : Int32)).toInt8.toInt32)), (.int f), (.int f), (.int f), (.int f)] (.int (0 : Int32)) := Arv.set Ar1010 q1010 S1010 N1010n H1010 G1010 (fits_nar_byte _) W1010 4 rfl (Nat.le_of_ble_eq_true rfl)
      have N1010 := Fr.snoc X1010 N1004 g_a1
      have KK1010 : Keep h0 h1010 [a1] := KK1004.wr W1010 (Or.inl (List.mem_of_getElem? (i := 0) rfl))
      have Z1010 := Nat.le_trans Z1004 (Keep.of_wr W1010).1
      show OEnds p.tables e below G (T1010.setTop (mkF m 25 #[.val (.ref a1), .val (.int (3 : Int32)), .val (.int p3), .val (.int v1006), .val (.int (4 : Int32))] []))
      refine OEnds.st (fun _ k => XS.iinc X1010.here hx rfl (hb hby d1_25) rfl (l' := #[.val (.ref a1), .val (.int (3 : Int32)), .val (.int p3), .val (.int v1006), .val (.int ((4 : Int32) + (1 : Int32)))]) rfl k) ?_
      show OEnds p.tables e below G (T1010.setTop (mkF m 28 #[.val (.ref a1), .val (.int (3 : Int32)), .val (.int p3), .val (.int v1006), .val (.int ((4 : Int32) + (1 : Int32)))] []))
      rw [show ((4 : Int32) + (1 : Int32)) = (5 : Int32) from by decide]
      show OEnds p.tables e below G (T1010.setTop (mkF m 28 #[.val (.ref a1), .val (.int (3 : Int32)), .val (.int p3), .val (.int v1006), .val (.int (5 : Int32))] []))
      refine OEnds.st (fun _ k => XS.iloadN X1010.here hx rfl (hb hby d1_28) rfl k) ?_
      show OEnds p.tables e below G (T1010.setTop (mkF m 29 #[.val (.ref a1), .val (.int (3 : Int32)), .val (.int p3), .val (.int v1006), .val (.int (5 : Int32))] [(.int v1006)]))
      refine OEnds.st (fun _ k => XS.bipush X1010.here hx rfl (hb hby d1_29) k) ?_
      show OEnds p.tables e below G (T1010.setTop (mkF m 31 #[.val (.ref a1), .val (.int (3 : Int32)), .val (.int p3), .val (.int v1006), .val (.int (5 : Int32))] [(.int (7 : Int32)), (.int v1006)]))
      refine OEnds.st (fun _ k => XS.iushr X1010.here hx rfl (hb hby d1_31) rfl k) ?_
      show OEnds p.tables e below G (T1010.setTop (mkF m 32 #[.val (.ref a1), .val (.int (3 : Int32)), .val (.int p3), .val (.int v1006), .val (.int (5 : Int32))] [(.int ((v1006.toUInt32 >>> ((7 : Int32) &&& 31).toUInt32).toInt32))]))
      refine OEnds.st (fun _ k => XS.istoreN X1010.here hx rfl (hb hby d1_32) rfl (l' := #[.val (.ref a1), .val (.int (3 : Int32)), .val (.int p3), .val (.int ((v1006.toUInt32 >>> ((7 : Int32) &&& 31).toUInt32).toInt32)), .val (.int (5 : Int32))]) rfl k) ?_
      show OEnds p.tables e below G (T1010.setTop (mkF m 33 #[.val (.ref a1), .val (.int (3 : Int32)), .val (.int p3), .val (.int ((v1006.toUInt32 >>> ((7 : Int32) &&& 31).toUInt32).toInt32)), .val (.int (5 : Int32))] []))
      generalize hv_v1012 : ((v1006.toUInt32 >>> ((7 : Int32) &&& 31).toUInt32).toInt32) = v1012
      show OEnds p.tables e below G (T1010.setTop (mkF m 33 #[.val (.ref a1), .val (.int (3 : Int32)), .val (.int p3), .val (.int v1012), .val (.int (5 : Int32))] []))
      refine OEnds.st (fun _ k => XS.goto X1010.here hx rfl (pc0 := 33) (pc' := 5) rfl (hb hby d1_33) (by decide) (by decide) k) ?_
      show OEnds p.tables e below G (T1010.setTop (mkF m 5 #[.val (.ref a1), .val (.int (3 : Int32)), .val (.int p3), .val (.int v1012), .val (.int (5 : Int32))] []))
      refine OEnds.st (fun _ k => XS.iloadN X1010.here hx rfl (hb hby d1_5) rfl k) ?_
      show OEnds p.tables e below G (T1010.setTop (mkF m 6 #[.val (.ref a1), .val (.int (3 : Int32)), .val (.int p3), .val (.int v1012), .val (.int (5 : Int32))] [(.int v1012)]))
      refine OEnds.st (fun _ k => XS.bipush X1010.here hx rfl (hb hby d1_6) k) ?_
      show OEnds p.tables e below G (T1010.setTop (mkF m 8 #[.val (.ref a1), .val (.int (3 : Int32)), .val (.int p3), .val (.int v1012), .val (.int (5 : Int32))] [(.int (-128 : Int32)), (.int v1012)]))
      refine OEnds.st (fun _ k => XS.iand X1010.here hx rfl (hb hby d1_8) rfl k) ?_
      show OEnds p.tables e below G (T1010.setTop (mkF m 9 #[.val (.ref a1), .val (.int (3 : Int32)), .val (.int p3), .val (.int v1012), .val (.int (5 : Int32))] [(.int (v1012 &&& (-128 : Int32)))]))
      by_cases hc9_1013 : (v1012 &&& (-128 : Int32)) = (0 : Int32)
      · -- pc 9: yes
        refine OEnds.st (fun _ k => XS.ifYes X1010.here hx rfl (pc0 := 9) (pc' := 36) rfl (hb hby d1_9) rfl ((if0 _ _).trans (teq hc9_1013).1) (by decide) (by decide) k) ?_
        show OEnds p.tables e below G (T1010.setTop (mkF m 36 #[.val (.ref a1), .val (.int (3 : Int32)), .val (.int p3), .val (.int v1012), .val (.int (5 : Int32))] []))
        refine OEnds.st (fun _ k => XS.aloadN X1010.here hx rfl (hb hby d1_36) rfl rfl k) ?_
        show OEnds p.tables e below G (T1010.setTop (mkF m 37 #[.val (.ref a1), .val (.int (3 : Int32)), .val (.int p3), .val (.int v1012), .val (.int (5 : Int32))] [(.ref a1)]))
        refine OEnds.st (fun _ k => XS.iload X1010.here hx rfl (hb hby d1_37) rfl k) ?_
        show OEnds p.tables e below G (T1010.setTop (mkF m 39 #[.val (.ref a1), .val (.int (3 : Int32)), .val (.int p3), .val (.int v1012), .val (.int (5 : Int32))] [(.int (5 : Int32)), (.ref a1)]))
        refine OEnds.st (fun _ k => XS.iloadN X1010.here hx rfl (hb hby d1_39) rfl k) ?_
        show OEnds p.tables e below G (T1010.setTop (mkF m 40 #[.val (.ref a1), .val (.int (3 : Int32)), .val (.int p3), .val (.int v1012), .val (.int (5 : Int32))] [(.int v1012), (.int (5 : Int32)), (.ref a1)]))
        refine OEnds.st (fun _ k => XS.i2b X1010.here hx rfl (hb hby d1_40) rfl k) ?_
        show OEnds p.tables e below G (T1010.setTop (mkF m 41 #[.val (.ref a1), .val (.int (3 : Int32)), .val (.int p3), .val (.int v1012), .val (.int (5 : Int32))] [(.int (v1012.toInt8.toInt32)), (.int (5 : Int32)), (.ref a1)]))
        obtain ⟨cl1014, Ar1014, q1014, S1014, N1014n, H1014, G1014⟩ := id f1011
        have hin1014 : ¬ ((5 : Int32) < 0 ∨ cl1014.slots.size ≤ ((5 : Int32)).toNatClampNeg) := inb_of S1014 ⟨by decide, by decide⟩
        obtain ⟨T1014, h1014, X1014, e1014, W1014, st1014⟩ := stB X1010 hx hZ e1010 Ar1014 (j := (5 : Int32)) hin1014 (g := (mkF m 41 #[.val (.ref a1), .val (.int (3 : Int32)), .val (.int p3), .val (.int v1012), .val (.int (5 : Int32))] [(.int (v1012.toInt8.toInt32)), (.int (5 : Int32)), (.ref a1)])) rfl rfl (hb hby d1_41)
        refine OEnds.st st1014 ?_
        rw [own_b8] at W1014
        have f1015 : Arv Z h1014 a1 k .byte (9 : Int32) [(.int f), (.int f), (.int f), (.int (((p3 &&& (127 : Int32)) ||| (128 : Int32)).toInt8.toInt32)), (.int (((v1006 &&& (127 : Int32)) ||| (128 : Int32)).toInt8.toInt32)), (.int (v1012.toInt8.toInt32)), (.int f), (.int f), (.int f)] (.int (0 : Int32)) := Arv.set Ar1014 q1014 S1014 N1014n H1014 G1014 (fits_nar_byte _) W1014 5 rfl (Nat.le_of_ble_eq_true rfl)
        have N1014 := Fr.snoc X1014 N1010 g_a1
        have KK1014 : Keep h0 h1014 [a1] := KK1010.wr W1014 (Or.inl (List.mem_of_getElem? (i := 0) rfl))
        have Z1014 := Nat.le_trans Z1010 (Keep.of_wr W1014).1
        show OEnds p.tables e below G (T1014.setTop (mkF m 42 #[.val (.ref a1), .val (.int (3 : Int32)), .val (.int p3), .val (.int v1012), .val (.int (5 : Int32))] []))
        refine OEnds.st (fun _ k => XS.iload X1014.here hx rfl (hb hby d1_42) rfl k) ?_
        show OEnds p.tables e below G (T1014.setTop (mkF m 44 #[.val (.ref a1), .val (.int (3 : Int32)), .val (.int p3), .val (.int v1012), .val (.int (5 : Int32))] [(.int (5 : Int32))]))
        refine OEnds.st (fun _ k => XS.iconst X1014.here hx rfl (hb hby d1_44) k) ?_
        show OEnds p.tables e below G (T1014.setTop (mkF m 45 #[.val (.ref a1), .val (.int (3 : Int32)), .val (.int p3), .val (.int v1012), .val (.int (5 : Int32))] [(.int (1 : Int32)), (.int (5 : Int32))]))
        refine OEnds.st (fun _ k => XS.iadd X1014.here hx rfl (hb hby d1_45) rfl k) ?_
        show OEnds p.tables e below G (T1014.setTop (mkF m 46 #[.val (.ref a1), .val (.int (3 : Int32)), .val (.int p3), .val (.int v1012), .val (.int (5 : Int32))] [(.int ((5 : Int32) + (1 : Int32)))]))
        rw [← hG]
        subst hv_v1006 hv_v1012
        have u0 : ¬ (p3 &&& (-128 : Int32)) = (0 : Int32) := hc9_1001
        have u1 : ¬ ((own_sh p3) &&& (-128 : Int32)) = (0 : Int32) := hc9_1007
        have u2 : ((own_sh (own_sh p3)) &&& (-128 : Int32)) = (0 : Int32) := hc9_1013
        have hq : own_cnt p3 = (3 : Int32) := by simp [own_cnt, u0, u1, u2]
        have hr : ((5 : Int32) + (1 : Int32)) = (3 : Int32) + own_cnt p3 := by first | (rw [hq]; done) | (rw [hq]; decide)
        have x0 : own_el 3 0 p3 f = f := by simp [own_el, own_byte, u0, u1, u2]
        have x1 : own_el 3 1 p3 f = f := by simp [own_el, own_byte, u0, u1, u2]
        have x2 : own_el 3 2 p3 f = f := by simp [own_el, own_byte, u0, u1, u2]
        have x3 : own_el 3 3 p3 f = own_hi p3 := by simp [own_el, own_byte, u0, u1, u2]
        have x4 : own_el 3 4 p3 f = own_hi (own_sh p3) := by simp [own_el, own_byte, u0, u1, u2]
        have x5 : own_el 3 5 p3 f = own_lo (own_sh (own_sh p3)) := by simp [own_el, own_byte, u0, u1, u2]
        have x6 : own_el 3 6 p3 f = f := by simp [own_el, own_byte, u0, u1, u2]
        have x7 : own_el 3 7 p3 f = f := by simp [own_el, own_byte, u0, u1, u2]
        have x8 : own_el 3 8 p3 f = f := by simp [own_el, own_byte, u0, u1, u2]
        refine OEnds.retI X1014 hx hlk Bd.returns (hb hby d1_46) (by decide) (by decide) ?_
        rw [e1014]
        refine ⟨congrArg (fun z => some (Value.int z)) hr, N1014, KK1014, ?_⟩
        unfold own_els
        rw [x0, x1, x2, x3, x4, x5, x6, x7, x8]
        exact f1015
      · -- pc 9: no
        refine OEnds.st (fun _ k => XS.ifNo X1010.here hx rfl (hb hby d1_9) rfl ((if0 _ _).trans (feq hc9_1013).1) k) ?_
        show OEnds p.tables e below G (T1010.setTop (mkF m 12 #[.val (.ref a1), .val (.int (3 : Int32)), .val (.int p3), .val (.int v1012), .val (.int (5 : Int32))] []))
        refine OEnds.st (fun _ k => XS.aloadN X1010.here hx rfl (hb hby d1_12) rfl rfl k) ?_
        show OEnds p.tables e below G (T1010.setTop (mkF m 13 #[.val (.ref a1), .val (.int (3 : Int32)), .val (.int p3), .val (.int v1012), .val (.int (5 : Int32))] [(.ref a1)]))
        refine OEnds.st (fun _ k => XS.iload X1010.here hx rfl (hb hby d1_13) rfl k) ?_
        show OEnds p.tables e below G (T1010.setTop (mkF m 15 #[.val (.ref a1), .val (.int (3 : Int32)), .val (.int p3), .val (.int v1012), .val (.int (5 : Int32))] [(.int (5 : Int32)), (.ref a1)]))
        refine OEnds.st (fun _ k => XS.iloadN X1010.here hx rfl (hb hby d1_15) rfl k) ?_
        show OEnds p.tables e below G (T1010.setTop (mkF m 16 #[.val (.ref a1), .val (.int (3 : Int32)), .val (.int p3), .val (.int v1012), .val (.int (5 : Int32))] [(.int v1012), (.int (5 : Int32)), (.ref a1)]))
        refine OEnds.st (fun _ k => XS.bipush X1010.here hx rfl (hb hby d1_16) k) ?_
        show OEnds p.tables e below G (T1010.setTop (mkF m 18 #[.val (.ref a1), .val (.int (3 : Int32)), .val (.int p3), .val (.int v1012), .val (.int (5 : Int32))] [(.int (127 : Int32)), (.int v1012), (.int (5 : Int32)), (.ref a1)]))
        refine OEnds.st (fun _ k => XS.iand X1010.here hx rfl (hb hby d1_18) rfl k) ?_
        show OEnds p.tables e below G (T1010.setTop (mkF m 19 #[.val (.ref a1), .val (.int (3 : Int32)), .val (.int p3), .val (.int v1012), .val (.int (5 : Int32))] [(.int (v1012 &&& (127 : Int32))), (.int (5 : Int32)), (.ref a1)]))
        refine OEnds.st (fun _ k => XS.sipush X1010.here hx rfl (hb hby d1_19) k) ?_
        show OEnds p.tables e below G (T1010.setTop (mkF m 22 #[.val (.ref a1), .val (.int (3 : Int32)), .val (.int p3), .val (.int v1012), .val (.int (5 : Int32))] [(.int (128 : Int32)), (.int (v1012 &&& (127 : Int32))), (.int (5 : Int32)), (.ref a1)]))
        refine OEnds.st (fun _ k => XS.ior X1010.here hx rfl (hb hby d1_22) rfl k) ?_
        show OEnds p.tables e below G (T1010.setTop (mkF m 23 #[.val (.ref a1), .val (.int (3 : Int32)), .val (.int p3), .val (.int v1012), .val (.int (5 : Int32))] [(.int ((v1012 &&& (127 : Int32)) ||| (128 : Int32))), (.int (5 : Int32)), (.ref a1)]))
        refine OEnds.st (fun _ k => XS.i2b X1010.here hx rfl (hb hby d1_23) rfl k) ?_
        show OEnds p.tables e below G (T1010.setTop (mkF m 24 #[.val (.ref a1), .val (.int (3 : Int32)), .val (.int p3), .val (.int v1012), .val (.int (5 : Int32))] [(.int (((v1012 &&& (127 : Int32)) ||| (128 : Int32)).toInt8.toInt32)), (.int (5 : Int32)), (.ref a1)]))
        obtain ⟨cl1016, Ar1016, q1016, S1016, N1016n, H1016, G1016⟩ := id f1011
        have hin1016 : ¬ ((5 : Int32) < 0 ∨ cl1016.slots.size ≤ ((5 : Int32)).toNatClampNeg) := inb_of S1016 ⟨by decide, by decide⟩
        obtain ⟨T1016, h1016, X1016, e1016, W1016, st1016⟩ := stB X1010 hx hZ e1010 Ar1016 (j := (5 : Int32)) hin1016 (g := (mkF m 24 #[.val (.ref a1), .val (.int (3 : Int32)), .val (.int p3), .val (.int v1012), .val (.int (5 : Int32))] [(.int (((v1012 &&& (127 : Int32)) ||| (128 : Int32)).toInt8.toInt32)), (.int (5 : Int32)), (.ref a1)])) rfl rfl (hb hby d1_24)
        refine OEnds.st st1016 ?_
        rw [own_b8] at W1016
        have f1017 : Arv Z h1016 a1 k .byte (9 : Int32) [(.int f), (.int f), (.int f), (.int (((p3 &&& (127 : Int32)) ||| (128 : Int32)).toInt8.toInt32)), (.int (((v1006 &&& (127 : Int32)) ||| (128 : Int32)).toInt8.toInt32)), (.int (((v1012 &&& (127 : Int32)) ||| (128 : Int32)).toInt8.toInt32)), (.int f), (.int f), (.int f)] (.int (0 : Int32)) := Arv.set Ar1016 q1016 S1016 N1016n H1016 G1016 (fits_nar_byte _) W1016 5 rfl (Nat.le_of_ble_eq_true rfl)
        have N1016 := Fr.snoc X1016 N1010 g_a1
        have KK1016 : Keep h0 h1016 [a1] := KK1010.wr W1016 (Or.inl (List.mem_of_getElem? (i := 0) rfl))
        have Z1016 := Nat.le_trans Z1010 (Keep.of_wr W1016).1
        show OEnds p.tables e below G (T1016.setTop (mkF m 25 #[.val (.ref a1), .val (.int (3 : Int32)), .val (.int p3), .val (.int v1012), .val (.int (5 : Int32))] []))
        refine OEnds.st (fun _ k => XS.iinc X1016.here hx rfl (hb hby d1_25) rfl (l' := #[.val (.ref a1), .val (.int (3 : Int32)), .val (.int p3), .val (.int v1012), .val (.int ((5 : Int32) + (1 : Int32)))]) rfl k) ?_
        show OEnds p.tables e below G (T1016.setTop (mkF m 28 #[.val (.ref a1), .val (.int (3 : Int32)), .val (.int p3), .val (.int v1012), .val (.int ((5 : Int32) + (1 : Int32)))] []))
        rw [show ((5 : Int32) + (1 : Int32)) = (6 : Int32) from by decide]
        show OEnds p.tables e below G (T1016.setTop (mkF m 28 #[.val (.ref a1), .val (.int (3 : Int32)), .val (.int p3), .val (.int v1012), .val (.int (6 : Int32))] []))
        refine OEnds.st (fun _ k => XS.iloadN X1016.here hx rfl (hb hby d1_28) rfl k) ?_
        show OEnds p.tables e below G (T1016.setTop (mkF m 29 #[.val (.ref a1), .val (.int (3 : Int32)), .val (.int p3), .val (.int v1012), .val (.int (6 : Int32))] [(.int v1012)]))
        refine OEnds.st (fun _ k => XS.bipush X1016.here hx rfl (hb hby d1_29) k) ?_
        show OEnds p.tables e below G (T1016.setTop (mkF m 31 #[.val (.ref a1), .val (.int (3 : Int32)), .val (.int p3), .val (.int v1012), .val (.int (6 : Int32))] [(.int (7 : Int32)), (.int v1012)]))
        refine OEnds.st (fun _ k => XS.iushr X1016.here hx rfl (hb hby d1_31) rfl k) ?_
        show OEnds p.tables e below G (T1016.setTop (mkF m 32 #[.val (.ref a1), .val (.int (3 : Int32)), .val (.int p3), .val (.int v1012), .val (.int (6 : Int32))] [(.int ((v1012.toUInt32 >>> ((7 : Int32) &&& 31).toUInt32).toInt32))]))
        refine OEnds.st (fun _ k => XS.istoreN X1016.here hx rfl (hb hby d1_32) rfl (l' := #[.val (.ref a1), .val (.int (3 : Int32)), .val (.int p3), .val (.int ((v1012.toUInt32 >>> ((7 : Int32) &&& 31).toUInt32).toInt32)), .val (.int (6 : Int32))]) rfl k) ?_
        show OEnds p.tables e below G (T1016.setTop (mkF m 33 #[.val (.ref a1), .val (.int (3 : Int32)), .val (.int p3), .val (.int ((v1012.toUInt32 >>> ((7 : Int32) &&& 31).toUInt32).toInt32)), .val (.int (6 : Int32))] []))
        generalize hv_v1018 : ((v1012.toUInt32 >>> ((7 : Int32) &&& 31).toUInt32).toInt32) = v1018
        show OEnds p.tables e below G (T1016.setTop (mkF m 33 #[.val (.ref a1), .val (.int (3 : Int32)), .val (.int p3), .val (.int v1018), .val (.int (6 : Int32))] []))
        refine OEnds.st (fun _ k => XS.goto X1016.here hx rfl (pc0 := 33) (pc' := 5) rfl (hb hby d1_33) (by decide) (by decide) k) ?_
        show OEnds p.tables e below G (T1016.setTop (mkF m 5 #[.val (.ref a1), .val (.int (3 : Int32)), .val (.int p3), .val (.int v1018), .val (.int (6 : Int32))] []))
        refine OEnds.st (fun _ k => XS.iloadN X1016.here hx rfl (hb hby d1_5) rfl k) ?_
        show OEnds p.tables e below G (T1016.setTop (mkF m 6 #[.val (.ref a1), .val (.int (3 : Int32)), .val (.int p3), .val (.int v1018), .val (.int (6 : Int32))] [(.int v1018)]))
        refine OEnds.st (fun _ k => XS.bipush X1016.here hx rfl (hb hby d1_6) k) ?_
        show OEnds p.tables e below G (T1016.setTop (mkF m 8 #[.val (.ref a1), .val (.int (3 : Int32)), .val (.int p3), .val (.int v1018), .val (.int (6 : Int32))] [(.int (-128 : Int32)), (.int v1018)]))
        refine OEnds.st (fun _ k => XS.iand X1016.here hx rfl (hb hby d1_8) rfl k) ?_
        show OEnds p.tables e below G (T1016.setTop (mkF m 9 #[.val (.ref a1), .val (.int (3 : Int32)), .val (.int p3), .val (.int v1018), .val (.int (6 : Int32))] [(.int (v1018 &&& (-128 : Int32)))]))
        by_cases hc9_1019 : (v1018 &&& (-128 : Int32)) = (0 : Int32)
        · -- pc 9: yes
          refine OEnds.st (fun _ k => XS.ifYes X1016.here hx rfl (pc0 := 9) (pc' := 36) rfl (hb hby d1_9) rfl ((if0 _ _).trans (teq hc9_1019).1) (by decide) (by decide) k) ?_
          show OEnds p.tables e below G (T1016.setTop (mkF m 36 #[.val (.ref a1), .val (.int (3 : Int32)), .val (.int p3), .val (.int v1018), .val (.int (6 : Int32))] []))
          refine OEnds.st (fun _ k => XS.aloadN X1016.here hx rfl (hb hby d1_36) rfl rfl k) ?_
          show OEnds p.tables e below G (T1016.setTop (mkF m 37 #[.val (.ref a1), .val (.int (3 : Int32)), .val (.int p3), .val (.int v1018), .val (.int (6 : Int32))] [(.ref a1)]))
          refine OEnds.st (fun _ k => XS.iload X1016.here hx rfl (hb hby d1_37) rfl k) ?_
          show OEnds p.tables e below G (T1016.setTop (mkF m 39 #[.val (.ref a1), .val (.int (3 : Int32)), .val (.int p3), .val (.int v1018), .val (.int (6 : Int32))] [(.int (6 : Int32)), (.ref a1)]))
          refine OEnds.st (fun _ k => XS.iloadN X1016.here hx rfl (hb hby d1_39) rfl k) ?_
          show OEnds p.tables e below G (T1016.setTop (mkF m 40 #[.val (.ref a1), .val (.int (3 : Int32)), .val (.int p3), .val (.int v1018), .val (.int (6 : Int32))] [(.int v1018), (.int (6 : Int32)), (.ref a1)]))
          refine OEnds.st (fun _ k => XS.i2b X1016.here hx rfl (hb hby d1_40) rfl k) ?_
          show OEnds p.tables e below G (T1016.setTop (mkF m 41 #[.val (.ref a1), .val (.int (3 : Int32)), .val (.int p3), .val (.int v1018), .val (.int (6 : Int32))] [(.int (v1018.toInt8.toInt32)), (.int (6 : Int32)), (.ref a1)]))
          obtain ⟨cl1020, Ar1020, q1020, S1020, N1020n, H1020, G1020⟩ := id f1017
          have hin1020 : ¬ ((6 : Int32) < 0 ∨ cl1020.slots.size ≤ ((6 : Int32)).toNatClampNeg) := inb_of S1020 ⟨by decide, by decide⟩
          obtain ⟨T1020, h1020, X1020, e1020, W1020, st1020⟩ := stB X1016 hx hZ e1016 Ar1020 (j := (6 : Int32)) hin1020 (g := (mkF m 41 #[.val (.ref a1), .val (.int (3 : Int32)), .val (.int p3), .val (.int v1018), .val (.int (6 : Int32))] [(.int (v1018.toInt8.toInt32)), (.int (6 : Int32)), (.ref a1)])) rfl rfl (hb hby d1_41)
          refine OEnds.st st1020 ?_
          rw [own_b8] at W1020
          have f1021 : Arv Z h1020 a1 k .byte (9 : Int32) [(.int f), (.int f), (.int f), (.int (((p3 &&& (127 : Int32)) ||| (128 : Int32)).toInt8.toInt32)), (.int (((v1006 &&& (127 : Int32)) ||| (128 : Int32)).toInt8.toInt32)), (.int (((v1012 &&& (127 : Int32)) ||| (128 : Int32)).toInt8.toInt32)), (.int (v1018.toInt8.toInt32)), (.int f), (.int f)] (.int (0 : Int32)) := Arv.set Ar1020 q1020 S1020 N1020n H1020 G1020 (fits_nar_byte _) W1020 6 rfl (Nat.le_of_ble_eq_true rfl)
          have N1020 := Fr.snoc X1020 N1016 g_a1
          have KK1020 : Keep h0 h1020 [a1] := KK1016.wr W1020 (Or.inl (List.mem_of_getElem? (i := 0) rfl))
          have Z1020 := Nat.le_trans Z1016 (Keep.of_wr W1020).1
          show OEnds p.tables e below G (T1020.setTop (mkF m 42 #[.val (.ref a1), .val (.int (3 : Int32)), .val (.int p3), .val (.int v1018), .val (.int (6 : Int32))] []))
          refine OEnds.st (fun _ k => XS.iload X1020.here hx rfl (hb hby d1_42) rfl k) ?_
          show OEnds p.tables e below G (T1020.setTop (mkF m 44 #[.val (.ref a1), .val (.int (3 : Int32)), .val (.int p3), .val (.int v1018), .val (.int (6 : Int32))] [(.int (6 : Int32))]))
          refine OEnds.st (fun _ k => XS.iconst X1020.here hx rfl (hb hby d1_44) k) ?_
          show OEnds p.tables e below G (T1020.setTop (mkF m 45 #[.val (.ref a1), .val (.int (3 : Int32)), .val (.int p3), .val (.int v1018), .val (.int (6 : Int32))] [(.int (1 : Int32)), (.int (6 : Int32))]))
          refine OEnds.st (fun _ k => XS.iadd X1020.here hx rfl (hb hby d1_45) rfl k) ?_
          show OEnds p.tables e below G (T1020.setTop (mkF m 46 #[.val (.ref a1), .val (.int (3 : Int32)), .val (.int p3), .val (.int v1018), .val (.int (6 : Int32))] [(.int ((6 : Int32) + (1 : Int32)))]))
          rw [← hG]
          subst hv_v1006 hv_v1012 hv_v1018
          have u0 : ¬ (p3 &&& (-128 : Int32)) = (0 : Int32) := hc9_1001
          have u1 : ¬ ((own_sh p3) &&& (-128 : Int32)) = (0 : Int32) := hc9_1007
          have u2 : ¬ ((own_sh (own_sh p3)) &&& (-128 : Int32)) = (0 : Int32) := hc9_1013
          have u3 : ((own_sh (own_sh (own_sh p3))) &&& (-128 : Int32)) = (0 : Int32) := hc9_1019
          have hq : own_cnt p3 = (4 : Int32) := by simp [own_cnt, u0, u1, u2, u3]
          have hr : ((6 : Int32) + (1 : Int32)) = (3 : Int32) + own_cnt p3 := by first | (rw [hq]; done) | (rw [hq]; decide)
          have x0 : own_el 3 0 p3 f = f := by simp [own_el, own_byte, u0, u1, u2, u3]
          have x1 : own_el 3 1 p3 f = f := by simp [own_el, own_byte, u0, u1, u2, u3]
          have x2 : own_el 3 2 p3 f = f := by simp [own_el, own_byte, u0, u1, u2, u3]
          have x3 : own_el 3 3 p3 f = own_hi p3 := by simp [own_el, own_byte, u0, u1, u2, u3]
          have x4 : own_el 3 4 p3 f = own_hi (own_sh p3) := by simp [own_el, own_byte, u0, u1, u2, u3]
          have x5 : own_el 3 5 p3 f = own_hi (own_sh (own_sh p3)) := by simp [own_el, own_byte, u0, u1, u2, u3]
          have x6 : own_el 3 6 p3 f = own_lo (own_sh (own_sh (own_sh p3))) := by simp [own_el, own_byte, u0, u1, u2, u3]
          have x7 : own_el 3 7 p3 f = f := by simp [own_el, own_byte, u0, u1, u2, u3]
          have x8 : own_el 3 8 p3 f = f := by simp [own_el, own_byte, u0, u1, u2, u3]
          refine OEnds.retI X1020 hx hlk Bd.returns (hb hby d1_46) (by decide) (by decide) ?_
          rw [e1020]
          refine ⟨congrArg (fun z => some (Value.int z)) hr, N1020, KK1020, ?_⟩
          unfold own_els
          rw [x0, x1, x2, x3, x4, x5, x6, x7, x8]
          exact f1021
        · -- pc 9: no
          refine OEnds.st (fun _ k => XS.ifNo X1016.here hx rfl (hb hby d1_9) rfl ((if0 _ _).trans (feq hc9_1019).1) k) ?_
          show OEnds p.tables e below G (T1016.setTop (mkF m 12 #[.val (.ref a1), .val (.int (3 : Int32)), .val (.int p3), .val (.int v1018), .val (.int (6 : Int32))] []))
          refine OEnds.st (fun _ k => XS.aloadN X1016.here hx rfl (hb hby d1_12) rfl rfl k) ?_
          show OEnds p.tables e below G (T1016.setTop (mkF m 13 #[.val (.ref a1), .val (.int (3 : Int32)), .val (.int p3), .val (.int v1018), .val (.int (6 : Int32))] [(.ref a1)]))
          refine OEnds.st (fun _ k => XS.iload X1016.here hx rfl (hb hby d1_13) rfl k) ?_
          show OEnds p.tables e below G (T1016.setTop (mkF m 15 #[.val (.ref a1), .val (.int (3 : Int32)), .val (.int p3), .val (.int v1018), .val (.int (6 : Int32))] [(.int (6 : Int32)), (.ref a1)]))
          refine OEnds.st (fun _ k => XS.iloadN X1016.here hx rfl (hb hby d1_15) rfl k) ?_
          show OEnds p.tables e below G (T1016.setTop (mkF m 16 #[.val (.ref a1), .val (.int (3 : Int32)), .val (.int p3), .val (.int v1018), .val (.int (6 : Int32))] [(.int v1018), (.int (6 : Int32)), (.ref a1)]))
          refine OEnds.st (fun _ k => XS.bipush X1016.here hx rfl (hb hby d1_16) k) ?_
          show OEnds p.tables e below G (T1016.setTop (mkF m 18 #[.val (.ref a1), .val (.int (3 : Int32)), .val (.int p3), .val (.int v1018), .val (.int (6 : Int32))] [(.int (127 : Int32)), (.int v1018), (.int (6 : Int32)), (.ref a1)]))
          refine OEnds.st (fun _ k => XS.iand X1016.here hx rfl (hb hby d1_18) rfl k) ?_
          show OEnds p.tables e below G (T1016.setTop (mkF m 19 #[.val (.ref a1), .val (.int (3 : Int32)), .val (.int p3), .val (.int v1018), .val (.int (6 : Int32))] [(.int (v1018 &&& (127 : Int32))), (.int (6 : Int32)), (.ref a1)]))
          refine OEnds.st (fun _ k => XS.sipush X1016.here hx rfl (hb hby d1_19) k) ?_
          show OEnds p.tables e below G (T1016.setTop (mkF m 22 #[.val (.ref a1), .val (.int (3 : Int32)), .val (.int p3), .val (.int v1018), .val (.int (6 : Int32))] [(.int (128 : Int32)), (.int (v1018 &&& (127 : Int32))), (.int (6 : Int32)), (.ref a1)]))
          refine OEnds.st (fun _ k => XS.ior X1016.here hx rfl (hb hby d1_22) rfl k) ?_
          show OEnds p.tables e below G (T1016.setTop (mkF m 23 #[.val (.ref a1), .val (.int (3 : Int32)), .val (.int p3), .val (.int v1018), .val (.int (6 : Int32))] [(.int ((v1018 &&& (127 : Int32)) ||| (128 : Int32))), (.int (6 : Int32)), (.ref a1)]))
          refine OEnds.st (fun _ k => XS.i2b X1016.here hx rfl (hb hby d1_23) rfl k) ?_
          show OEnds p.tables e below G (T1016.setTop (mkF m 24 #[.val (.ref a1), .val (.int (3 : Int32)), .val (.int p3), .val (.int v1018), .val (.int (6 : Int32))] [(.int (((v1018 &&& (127 : Int32)) ||| (128 : Int32)).toInt8.toInt32)), (.int (6 : Int32)), (.ref a1)]))
          obtain ⟨cl1022, Ar1022, q1022, S1022, N1022n, H1022, G1022⟩ := id f1017
          have hin1022 : ¬ ((6 : Int32) < 0 ∨ cl1022.slots.size ≤ ((6 : Int32)).toNatClampNeg) := inb_of S1022 ⟨by decide, by decide⟩
          obtain ⟨T1022, h1022, X1022, e1022, W1022, st1022⟩ := stB X1016 hx hZ e1016 Ar1022 (j := (6 : Int32)) hin1022 (g := (mkF m 24 #[.val (.ref a1), .val (.int (3 : Int32)), .val (.int p3), .val (.int v1018), .val (.int (6 : Int32))] [(.int (((v1018 &&& (127 : Int32)) ||| (128 : Int32)).toInt8.toInt32)), (.int (6 : Int32)), (.ref a1)])) rfl rfl (hb hby d1_24)
          refine OEnds.st st1022 ?_
          rw [own_b8] at W1022
          have f1023 : Arv Z h1022 a1 k .byte (9 : Int32) [(.int f), (.int f), (.int f), (.int (((p3 &&& (127 : Int32)) ||| (128 : Int32)).toInt8.toInt32)), (.int (((v1006 &&& (127 : Int32)) ||| (128 : Int32)).toInt8.toInt32)), (.int (((v1012 &&& (127 : Int32)) ||| (128 : Int32)).toInt8.toInt32)), (.int (((v1018 &&& (127 : Int32)) ||| (128 : Int32)).toInt8.toInt32)), (.int f), (.int f)] (.int (0 : Int32)) := Arv.set Ar1022 q1022 S1022 N1022n H1022 G1022 (fits_nar_byte _) W1022 6 rfl (Nat.le_of_ble_eq_true rfl)
          have N1022 := Fr.snoc X1022 N1016 g_a1
          have KK1022 : Keep h0 h1022 [a1] := KK1016.wr W1022 (Or.inl (List.mem_of_getElem? (i := 0) rfl))
          have Z1022 := Nat.le_trans Z1016 (Keep.of_wr W1022).1
          show OEnds p.tables e below G (T1022.setTop (mkF m 25 #[.val (.ref a1), .val (.int (3 : Int32)), .val (.int p3), .val (.int v1018), .val (.int (6 : Int32))] []))
          refine OEnds.st (fun _ k => XS.iinc X1022.here hx rfl (hb hby d1_25) rfl (l' := #[.val (.ref a1), .val (.int (3 : Int32)), .val (.int p3), .val (.int v1018), .val (.int ((6 : Int32) + (1 : Int32)))]) rfl k) ?_
          show OEnds p.tables e below G (T1022.setTop (mkF m 28 #[.val (.ref a1), .val (.int (3 : Int32)), .val (.int p3), .val (.int v1018), .val (.int ((6 : Int32) + (1 : Int32)))] []))
          rw [show ((6 : Int32) + (1 : Int32)) = (7 : Int32) from by decide]
          show OEnds p.tables e below G (T1022.setTop (mkF m 28 #[.val (.ref a1), .val (.int (3 : Int32)), .val (.int p3), .val (.int v1018), .val (.int (7 : Int32))] []))
          refine OEnds.st (fun _ k => XS.iloadN X1022.here hx rfl (hb hby d1_28) rfl k) ?_
          show OEnds p.tables e below G (T1022.setTop (mkF m 29 #[.val (.ref a1), .val (.int (3 : Int32)), .val (.int p3), .val (.int v1018), .val (.int (7 : Int32))] [(.int v1018)]))
          refine OEnds.st (fun _ k => XS.bipush X1022.here hx rfl (hb hby d1_29) k) ?_
          show OEnds p.tables e below G (T1022.setTop (mkF m 31 #[.val (.ref a1), .val (.int (3 : Int32)), .val (.int p3), .val (.int v1018), .val (.int (7 : Int32))] [(.int (7 : Int32)), (.int v1018)]))
          refine OEnds.st (fun _ k => XS.iushr X1022.here hx rfl (hb hby d1_31) rfl k) ?_
          show OEnds p.tables e below G (T1022.setTop (mkF m 32 #[.val (.ref a1), .val (.int (3 : Int32)), .val (.int p3), .val (.int v1018), .val (.int (7 : Int32))] [(.int ((v1018.toUInt32 >>> ((7 : Int32) &&& 31).toUInt32).toInt32))]))
          refine OEnds.st (fun _ k => XS.istoreN X1022.here hx rfl (hb hby d1_32) rfl (l' := #[.val (.ref a1), .val (.int (3 : Int32)), .val (.int p3), .val (.int ((v1018.toUInt32 >>> ((7 : Int32) &&& 31).toUInt32).toInt32)), .val (.int (7 : Int32))]) rfl k) ?_
          show OEnds p.tables e below G (T1022.setTop (mkF m 33 #[.val (.ref a1), .val (.int (3 : Int32)), .val (.int p3), .val (.int ((v1018.toUInt32 >>> ((7 : Int32) &&& 31).toUInt32).toInt32)), .val (.int (7 : Int32))] []))
          generalize hv_v1024 : ((v1018.toUInt32 >>> ((7 : Int32) &&& 31).toUInt32).toInt32) = v1024
          show OEnds p.tables e below G (T1022.setTop (mkF m 33 #[.val (.ref a1), .val (.int (3 : Int32)), .val (.int p3), .val (.int v1024), .val (.int (7 : Int32))] []))
          refine OEnds.st (fun _ k => XS.goto X1022.here hx rfl (pc0 := 33) (pc' := 5) rfl (hb hby d1_33) (by decide) (by decide) k) ?_
          show OEnds p.tables e below G (T1022.setTop (mkF m 5 #[.val (.ref a1), .val (.int (3 : Int32)), .val (.int p3), .val (.int v1024), .val (.int (7 : Int32))] []))
          refine OEnds.st (fun _ k => XS.iloadN X1022.here hx rfl (hb hby d1_5) rfl k) ?_
          show OEnds p.tables e below G (T1022.setTop (mkF m 6 #[.val (.ref a1), .val (.int (3 : Int32)), .val (.int p3), .val (.int v1024), .val (.int (7 : Int32))] [(.int v1024)]))
          refine OEnds.st (fun _ k => XS.bipush X1022.here hx rfl (hb hby d1_6) k) ?_
          show OEnds p.tables e below G (T1022.setTop (mkF m 8 #[.val (.ref a1), .val (.int (3 : Int32)), .val (.int p3), .val (.int v1024), .val (.int (7 : Int32))] [(.int (-128 : Int32)), (.int v1024)]))
          refine OEnds.st (fun _ k => XS.iand X1022.here hx rfl (hb hby d1_8) rfl k) ?_
          show OEnds p.tables e below G (T1022.setTop (mkF m 9 #[.val (.ref a1), .val (.int (3 : Int32)), .val (.int p3), .val (.int v1024), .val (.int (7 : Int32))] [(.int (v1024 &&& (-128 : Int32)))]))
          have hc9_1025 : (v1024 &&& (-128 : Int32)) = (0 : Int32) := by subst hv_v1006 hv_v1012 hv_v1018 hv_v1024; exact own_five p3
          refine OEnds.st (fun _ k => XS.ifYes X1022.here hx rfl (pc0 := 9) (pc' := 36) rfl (hb hby d1_9) rfl ((if0 _ _).trans (teq hc9_1025).1) (by decide) (by decide) k) ?_
          show OEnds p.tables e below G (T1022.setTop (mkF m 36 #[.val (.ref a1), .val (.int (3 : Int32)), .val (.int p3), .val (.int v1024), .val (.int (7 : Int32))] []))
          refine OEnds.st (fun _ k => XS.aloadN X1022.here hx rfl (hb hby d1_36) rfl rfl k) ?_
          show OEnds p.tables e below G (T1022.setTop (mkF m 37 #[.val (.ref a1), .val (.int (3 : Int32)), .val (.int p3), .val (.int v1024), .val (.int (7 : Int32))] [(.ref a1)]))
          refine OEnds.st (fun _ k => XS.iload X1022.here hx rfl (hb hby d1_37) rfl k) ?_
          show OEnds p.tables e below G (T1022.setTop (mkF m 39 #[.val (.ref a1), .val (.int (3 : Int32)), .val (.int p3), .val (.int v1024), .val (.int (7 : Int32))] [(.int (7 : Int32)), (.ref a1)]))
          refine OEnds.st (fun _ k => XS.iloadN X1022.here hx rfl (hb hby d1_39) rfl k) ?_
          show OEnds p.tables e below G (T1022.setTop (mkF m 40 #[.val (.ref a1), .val (.int (3 : Int32)), .val (.int p3), .val (.int v1024), .val (.int (7 : Int32))] [(.int v1024), (.int (7 : Int32)), (.ref a1)]))
          refine OEnds.st (fun _ k => XS.i2b X1022.here hx rfl (hb hby d1_40) rfl k) ?_
          show OEnds p.tables e below G (T1022.setTop (mkF m 41 #[.val (.ref a1), .val (.int (3 : Int32)), .val (.int p3), .val (.int v1024), .val (.int (7 : Int32))] [(.int (v1024.toInt8.toInt32)), (.int (7 : Int32)), (.ref a1)]))
          obtain ⟨cl1026, Ar1026, q1026, S1026, N1026n, H1026, G1026⟩ := id f1023
          have hin1026 : ¬ ((7 : Int32) < 0 ∨ cl1026.slots.size ≤ ((7 : Int32)).toNatClampNeg) := inb_of S1026 ⟨by decide, by decide⟩
          obtain ⟨T1026, h1026, X1026, e1026, W1026, st1026⟩ := stB X1022 hx hZ e1022 Ar1026 (j := (7 : Int32)) hin1026 (g := (mkF m 41 #[.val (.ref a1), .val (.int (3 : Int32)), .val (.int p3), .val (.int v1024), .val (.int (7 : Int32))] [(.int (v1024.toInt8.toInt32)), (.int (7 : Int32)), (.ref a1)])) rfl rfl (hb hby d1_41)
          refine OEnds.st st1026 ?_
          rw [own_b8] at W1026
          have f1027 : Arv Z h1026 a1 k .byte (9 : Int32) [(.int f), (.int f), (.int f), (.int (((p3 &&& (127 : Int32)) ||| (128 : Int32)).toInt8.toInt32)), (.int (((v1006 &&& (127 : Int32)) ||| (128 : Int32)).toInt8.toInt32)), (.int (((v1012 &&& (127 : Int32)) ||| (128 : Int32)).toInt8.toInt32)), (.int (((v1018 &&& (127 : Int32)) ||| (128 : Int32)).toInt8.toInt32)), (.int (v1024.toInt8.toInt32)), (.int f)] (.int (0 : Int32)) := Arv.set Ar1026 q1026 S1026 N1026n H1026 G1026 (fits_nar_byte _) W1026 7 rfl (Nat.le_of_ble_eq_true rfl)
          have N1026 := Fr.snoc X1026 N1022 g_a1
          have KK1026 : Keep h0 h1026 [a1] := KK1022.wr W1026 (Or.inl (List.mem_of_getElem? (i := 0) rfl))
          have Z1026 := Nat.le_trans Z1022 (Keep.of_wr W1026).1
          show OEnds p.tables e below G (T1026.setTop (mkF m 42 #[.val (.ref a1), .val (.int (3 : Int32)), .val (.int p3), .val (.int v1024), .val (.int (7 : Int32))] []))
          refine OEnds.st (fun _ k => XS.iload X1026.here hx rfl (hb hby d1_42) rfl k) ?_
          show OEnds p.tables e below G (T1026.setTop (mkF m 44 #[.val (.ref a1), .val (.int (3 : Int32)), .val (.int p3), .val (.int v1024), .val (.int (7 : Int32))] [(.int (7 : Int32))]))
          refine OEnds.st (fun _ k => XS.iconst X1026.here hx rfl (hb hby d1_44) k) ?_
          show OEnds p.tables e below G (T1026.setTop (mkF m 45 #[.val (.ref a1), .val (.int (3 : Int32)), .val (.int p3), .val (.int v1024), .val (.int (7 : Int32))] [(.int (1 : Int32)), (.int (7 : Int32))]))
          refine OEnds.st (fun _ k => XS.iadd X1026.here hx rfl (hb hby d1_45) rfl k) ?_
          show OEnds p.tables e below G (T1026.setTop (mkF m 46 #[.val (.ref a1), .val (.int (3 : Int32)), .val (.int p3), .val (.int v1024), .val (.int (7 : Int32))] [(.int ((7 : Int32) + (1 : Int32)))]))
          rw [← hG]
          subst hv_v1006 hv_v1012 hv_v1018 hv_v1024
          have u0 : ¬ (p3 &&& (-128 : Int32)) = (0 : Int32) := hc9_1001
          have u1 : ¬ ((own_sh p3) &&& (-128 : Int32)) = (0 : Int32) := hc9_1007
          have u2 : ¬ ((own_sh (own_sh p3)) &&& (-128 : Int32)) = (0 : Int32) := hc9_1013
          have u3 : ¬ ((own_sh (own_sh (own_sh p3))) &&& (-128 : Int32)) = (0 : Int32) := hc9_1019
          have u4 : ((own_sh (own_sh (own_sh (own_sh p3)))) &&& (-128 : Int32)) = (0 : Int32) := hc9_1025
          have hq : own_cnt p3 = (5 : Int32) := by simp [own_cnt, u0, u1, u2, u3, u4]
          have hr : ((7 : Int32) + (1 : Int32)) = (3 : Int32) + own_cnt p3 := by first | (rw [hq]; done) | (rw [hq]; decide)
          have x0 : own_el 3 0 p3 f = f := by simp [own_el, own_byte, u0, u1, u2, u3, u4]
          have x1 : own_el 3 1 p3 f = f := by simp [own_el, own_byte, u0, u1, u2, u3, u4]
          have x2 : own_el 3 2 p3 f = f := by simp [own_el, own_byte, u0, u1, u2, u3, u4]
          have x3 : own_el 3 3 p3 f = own_hi p3 := by simp [own_el, own_byte, u0, u1, u2, u3, u4]
          have x4 : own_el 3 4 p3 f = own_hi (own_sh p3) := by simp [own_el, own_byte, u0, u1, u2, u3, u4]
          have x5 : own_el 3 5 p3 f = own_hi (own_sh (own_sh p3)) := by simp [own_el, own_byte, u0, u1, u2, u3, u4]
          have x6 : own_el 3 6 p3 f = own_hi (own_sh (own_sh (own_sh p3))) := by simp [own_el, own_byte, u0, u1, u2, u3, u4]
          have x7 : own_el 3 7 p3 f = own_lo (own_sh (own_sh (own_sh (own_sh p3)))) := by simp [own_el, own_byte, u0, u1, u2, u3, u4]
          have x8 : own_el 3 8 p3 f = f := by simp [own_el, own_byte, u0, u1, u2, u3, u4]
          refine OEnds.retI X1026 hx hlk Bd.returns (hb hby d1_46) (by decide) (by decide) ?_
          rw [e1026]
          refine ⟨congrArg (fun z => some (Value.int z)) hr, N1026, KK1026, ?_⟩
          unfold own_els
          rw [x0, x1, x2, x3, x4, x5, x6, x7, x8]
          exact f1027
theorem d2_0 : decode method_3_code 0 = .ok (.iload_n 0, 1) := by decide +kernel
theorem d2_1 : decode method_3_code 1 = .ok (.bipush (-128), 2) := by decide +kernel
theorem d2_3 : decode method_3_code 3 = .ok (.iand, 1) := by decide +kernel
theorem d2_4 : decode method_3_code 4 = .ok (.ifCond .ne 5, 3) := by decide +kernel
theorem d2_7 : decode method_3_code 7 = .ok (.iconst 1, 1) := by decide +kernel
theorem d2_8 : decode method_3_code 8 = .ok (.ireturn, 1) := by decide +kernel
theorem d2_9 : decode method_3_code 9 = .ok (.iload_n 0, 1) := by decide +kernel
theorem d2_10 : decode method_3_code 10 = .ok (.sipush (-16384), 3) := by decide +kernel
theorem d2_13 : decode method_3_code 13 = .ok (.iand, 1) := by decide +kernel
theorem d2_14 : decode method_3_code 14 = .ok (.ifCond .ne 5, 3) := by decide +kernel
theorem d2_17 : decode method_3_code 17 = .ok (.iconst 2, 1) := by decide +kernel
theorem d2_18 : decode method_3_code 18 = .ok (.ireturn, 1) := by decide +kernel
theorem d2_19 : decode method_3_code 19 = .ok (.iload_n 0, 1) := by decide +kernel
theorem d2_20 : decode method_3_code 20 = .ok (.ldc 23, 2) := by decide +kernel
theorem d2_22 : decode method_3_code 22 = .ok (.iand, 1) := by decide +kernel
theorem d2_23 : decode method_3_code 23 = .ok (.ifCond .ne 5, 3) := by decide +kernel
theorem d2_26 : decode method_3_code 26 = .ok (.iconst 3, 1) := by decide +kernel
theorem d2_27 : decode method_3_code 27 = .ok (.ireturn, 1) := by decide +kernel
theorem d2_28 : decode method_3_code 28 = .ok (.iload_n 0, 1) := by decide +kernel
theorem d2_29 : decode method_3_code 29 = .ok (.ldc 24, 2) := by decide +kernel
theorem d2_31 : decode method_3_code 31 = .ok (.iand, 1) := by decide +kernel
theorem d2_32 : decode method_3_code 32 = .ok (.ifCond .ne 5, 3) := by decide +kernel
theorem d2_35 : decode method_3_code 35 = .ok (.iconst 4, 1) := by decide +kernel
theorem d2_36 : decode method_3_code 36 = .ok (.ireturn, 1) := by decide +kernel
theorem d2_37 : decode method_3_code 37 = .ok (.iconst 5, 1) := by decide +kernel
theorem d2_38 : decode method_3_code 38 = .ok (.ireturn, 1) := by decide +kernel
theorem pn_1 : plainName "com/example/words_to_weights/wordstoweights/index/IndexFormatPutNumberPinLaw" = true := by first | (simp [plainName, overriddenIn]; done) | decide +kernel
theorem ef_2 (m : MethodId) (p1 : Int32) : entryFrame m #[(.int p1)] 1 = mkF m 0 #[.val (.int p1)] [] := by first | (simp [entryFrame, mkF, argsToLocals, Value.category]; done) | rfl
def Q2 (Z : State) (p1 : Int32) (h0 : Heap) (n0 : Nat) (v : Option Value) (h : Heap) (L : List Loc) : Prop := v = some (.int (own_len p1)) ∧ Fr n0 L ∧ h = h0
set_option maxRecDepth 65536 in
set_option maxHeartbeats 40000000 in
theorem rm2 (l : Launch) (Z : State) (a0 : Array Value) (hw : ∀ d ∈ tables_1, d.before a0 Z = true) (ws : List Jvm.Cond) (p1 : Int32) (h0 : Heap) (n0 : Nat) (Z0 : n0 ≤ h0.size) :
    MetFree l (⟨"com/example/words_to_weights/wordstoweights/index/IndexFormatPutNumberPinLaw", "length", "(I)I"⟩ : MethodName) (head1 (Jvm.Cond.code (⟨"com/example/words_to_weights/wordstoweights/index/IndexFormatPutNumberPinLaw", "length", "(I)I"⟩ : MethodName) method_3_code 1 (some .int) :: ws) ({ frames := 0, cells := 0, slots := 0, locals := 0 } : Room)) (fun a U => a = #[(.int p1)] ∧ Z.Warmed39 U.vm ∧ U.heap = h0) (fun _ _ _ _ _ => True) (fun _ U o U' => ∃ v L, o = .returned v ∧ Q2 Z p1 h0 n0 v U'.heap L ∧ FrameEnd U o U' L ({ frames := 0, cells := 0, slots := 0, locals := 0 } : Room).cells ({ frames := 0, cells := 0, slots := 0, locals := 0 } : Room).slots) := by
  refine MetFree.of_bodySF (plainFor_of_name pn_1) hisR ?_
  intro p e s m args below meth c s₁ Bd hml0 hP hK
  obtain ⟨rfl, hZ, hh⟩ := hP
  have hx := Bd.exec
  have hby := Bd.bytes
  have hml : c.maxLocals = 1 := hml0
  have hown : s.vm.findClass "com/example/words_to_weights/wordstoweights/index/IndexFormatPutNumberPinLaw" = some m.cls := findClass_of_methodNamed Bd.named
  have hnm := (name_of_methodNamed Bd.named Bd.method).1
  have hlk : meth.locks = false := BodyLoose.notSynchronized Bd
  have X0 : Stand p l e ({ frames := 0, cells := 0, slots := 0, locals := 0 } : Room) s m #[(.int p1)] below meth c s₁ [] 0 0 := Stand.of_body Bd
  have e0 : s₁.heap = h0 := by rw [← hh, Bd.state]; rfl
  have N0 := Fr.nil n0
  show OEnds p.tables e below (OGoal (Q2 Z p1 h0 n0) s 0 0) (s₁.setTop (entryFrame m #[(.int p1)] 1))
  refine OEnds.st (fun t k => castTop (ef_2 m p1) k) ?_
  generalize hG : OGoal (Q2 Z p1 h0 n0) s 0 0 = G
  have KK0 : Keep h0 h0 [] := Keep.refl h0 []
  show OEnds p.tables e below G (s₁.setTop (mkF m 0 #[.val (.int p1)] []))
  refine OEnds.st (fun _ k => XS.iloadN X0.here hx rfl (hb hby d2_0) rfl k) ?_
  show OEnds p.tables e below G (s₁.setTop (mkF m 1 #[.val (.int p1)] [(.int p1)]))
  refine OEnds.st (fun _ k => XS.bipush X0.here hx rfl (hb hby d2_1) k) ?_
  show OEnds p.tables e below G (s₁.setTop (mkF m 3 #[.val (.int p1)] [(.int (-128 : Int32)), (.int p1)]))
  refine OEnds.st (fun _ k => XS.iand X0.here hx rfl (hb hby d2_3) rfl k) ?_
  show OEnds p.tables e below G (s₁.setTop (mkF m 4 #[.val (.int p1)] [(.int (p1 &&& (-128 : Int32)))]))
  by_cases hc4_1001 : (p1 &&& (-128 : Int32)) = (0 : Int32)
  · -- pc 4: yes
    refine OEnds.st (fun _ k => XS.ifNo X0.here hx rfl (hb hby d2_4) rfl ((if0 _ _).trans (teq hc4_1001).2) k) ?_
    show OEnds p.tables e below G (s₁.setTop (mkF m 7 #[.val (.int p1)] []))
    refine OEnds.st (fun _ k => XS.iconst X0.here hx rfl (hb hby d2_7) k) ?_
    show OEnds p.tables e below G (s₁.setTop (mkF m 8 #[.val (.int p1)] [(.int (1 : Int32))]))
    rw [← hG]
    refine OEnds.retI X0 hx hlk Bd.returns (hb hby d2_8) (by decide) (by decide) ?_
    rw [e0]
    exact ⟨by simp [own_len, hc4_1001], N0, rfl⟩
  · -- pc 4: no
    refine OEnds.st (fun _ k => XS.ifYes X0.here hx rfl (pc0 := 4) (pc' := 9) rfl (hb hby d2_4) rfl ((if0 _ _).trans (feq hc4_1001).2) (by decide) (by decide) k) ?_
    show OEnds p.tables e below G (s₁.setTop (mkF m 9 #[.val (.int p1)] []))
    refine OEnds.st (fun _ k => XS.iloadN X0.here hx rfl (hb hby d2_9) rfl k) ?_
    show OEnds p.tables e below G (s₁.setTop (mkF m 10 #[.val (.int p1)] [(.int p1)]))
    refine OEnds.st (fun _ k => XS.sipush X0.here hx rfl (hb hby d2_10) k) ?_
    show OEnds p.tables e below G (s₁.setTop (mkF m 13 #[.val (.int p1)] [(.int (-16384 : Int32)), (.int p1)]))
    refine OEnds.st (fun _ k => XS.iand X0.here hx rfl (hb hby d2_13) rfl k) ?_
    show OEnds p.tables e below G (s₁.setTop (mkF m 14 #[.val (.int p1)] [(.int (p1 &&& (-16384 : Int32)))]))
    by_cases hc14_1002 : (p1 &&& (-16384 : Int32)) = (0 : Int32)
    · -- pc 14: yes
      refine OEnds.st (fun _ k => XS.ifNo X0.here hx rfl (hb hby d2_14) rfl ((if0 _ _).trans (teq hc14_1002).2) k) ?_
      show OEnds p.tables e below G (s₁.setTop (mkF m 17 #[.val (.int p1)] []))
      refine OEnds.st (fun _ k => XS.iconst X0.here hx rfl (hb hby d2_17) k) ?_
      show OEnds p.tables e below G (s₁.setTop (mkF m 18 #[.val (.int p1)] [(.int (2 : Int32))]))
      rw [← hG]
      refine OEnds.retI X0 hx hlk Bd.returns (hb hby d2_18) (by decide) (by decide) ?_
      rw [e0]
      exact ⟨by simp [own_len, hc4_1001, hc14_1002], N0, rfl⟩
    · -- pc 14: no
      refine OEnds.st (fun _ k => XS.ifYes X0.here hx rfl (pc0 := 14) (pc' := 19) rfl (hb hby d2_14) rfl ((if0 _ _).trans (feq hc14_1002).2) (by decide) (by decide) k) ?_
      show OEnds p.tables e below G (s₁.setTop (mkF m 19 #[.val (.int p1)] []))
      refine OEnds.st (fun _ k => XS.iloadN X0.here hx rfl (hb hby d2_19) rfl k) ?_
      show OEnds p.tables e below G (s₁.setTop (mkF m 20 #[.val (.int p1)] [(.int p1)]))
      refine OEnds.st (X0.ldcInt hx hown (mvT hZ (hw _ (List.mem_of_getElem? (i := 12) rfl))) (g := (mkF m 20 #[.val (.int p1)] [(.int p1)])) rfl (hb hby d2_20)) ?_
      show OEnds p.tables e below G (s₁.setTop (mkF m 22 #[.val (.int p1)] [(.int (-2097152 : Int32)), (.int p1)]))
      refine OEnds.st (fun _ k => XS.iand X0.here hx rfl (hb hby d2_22) rfl k) ?_
      show OEnds p.tables e below G (s₁.setTop (mkF m 23 #[.val (.int p1)] [(.int (p1 &&& (-2097152 : Int32)))]))
      by_cases hc23_1003 : (p1 &&& (-2097152 : Int32)) = (0 : Int32)
      · -- pc 23: yes
        refine OEnds.st (fun _ k => XS.ifNo X0.here hx rfl (hb hby d2_23) rfl ((if0 _ _).trans (teq hc23_1003).2) k) ?_
        show OEnds p.tables e below G (s₁.setTop (mkF m 26 #[.val (.int p1)] []))
        refine OEnds.st (fun _ k => XS.iconst X0.here hx rfl (hb hby d2_26) k) ?_
        show OEnds p.tables e below G (s₁.setTop (mkF m 27 #[.val (.int p1)] [(.int (3 : Int32))]))
        rw [← hG]
        refine OEnds.retI X0 hx hlk Bd.returns (hb hby d2_27) (by decide) (by decide) ?_
        rw [e0]
        exact ⟨by simp [own_len, hc4_1001, hc14_1002, hc23_1003], N0, rfl⟩
      · -- pc 23: no
        refine OEnds.st (fun _ k => XS.ifYes X0.here hx rfl (pc0 := 23) (pc' := 28) rfl (hb hby d2_23) rfl ((if0 _ _).trans (feq hc23_1003).2) (by decide) (by decide) k) ?_
        show OEnds p.tables e below G (s₁.setTop (mkF m 28 #[.val (.int p1)] []))
        refine OEnds.st (fun _ k => XS.iloadN X0.here hx rfl (hb hby d2_28) rfl k) ?_
        show OEnds p.tables e below G (s₁.setTop (mkF m 29 #[.val (.int p1)] [(.int p1)]))
        refine OEnds.st (X0.ldcInt hx hown (mvT hZ (hw _ (List.mem_of_getElem? (i := 13) rfl))) (g := (mkF m 29 #[.val (.int p1)] [(.int p1)])) rfl (hb hby d2_29)) ?_
        show OEnds p.tables e below G (s₁.setTop (mkF m 31 #[.val (.int p1)] [(.int (-268435456 : Int32)), (.int p1)]))
        refine OEnds.st (fun _ k => XS.iand X0.here hx rfl (hb hby d2_31) rfl k) ?_
        show OEnds p.tables e below G (s₁.setTop (mkF m 32 #[.val (.int p1)] [(.int (p1 &&& (-268435456 : Int32)))]))
        by_cases hc32_1004 : (p1 &&& (-268435456 : Int32)) = (0 : Int32)
        · -- pc 32: yes
          refine OEnds.st (fun _ k => XS.ifNo X0.here hx rfl (hb hby d2_32) rfl ((if0 _ _).trans (teq hc32_1004).2) k) ?_
          show OEnds p.tables e below G (s₁.setTop (mkF m 35 #[.val (.int p1)] []))
          refine OEnds.st (fun _ k => XS.iconst X0.here hx rfl (hb hby d2_35) k) ?_
          show OEnds p.tables e below G (s₁.setTop (mkF m 36 #[.val (.int p1)] [(.int (4 : Int32))]))
          rw [← hG]
          refine OEnds.retI X0 hx hlk Bd.returns (hb hby d2_36) (by decide) (by decide) ?_
          rw [e0]
          exact ⟨by simp [own_len, hc4_1001, hc14_1002, hc23_1003, hc32_1004], N0, rfl⟩
        · -- pc 32: no
          refine OEnds.st (fun _ k => XS.ifYes X0.here hx rfl (pc0 := 32) (pc' := 37) rfl (hb hby d2_32) rfl ((if0 _ _).trans (feq hc32_1004).2) (by decide) (by decide) k) ?_
          show OEnds p.tables e below G (s₁.setTop (mkF m 37 #[.val (.int p1)] []))
          refine OEnds.st (fun _ k => XS.iconst X0.here hx rfl (hb hby d2_37) k) ?_
          show OEnds p.tables e below G (s₁.setTop (mkF m 38 #[.val (.int p1)] [(.int (5 : Int32))]))
          rw [← hG]
          refine OEnds.retI X0 hx hlk Bd.returns (hb hby d2_38) (by decide) (by decide) ?_
          rw [e0]
          exact ⟨by simp [own_len, hc4_1001, hc14_1002, hc23_1003, hc32_1004], N0, rfl⟩
theorem d3_0 : decode method_4_code 0 = .ok (.iload_n 1, 1) := by decide +kernel
theorem d3_1 : decode method_4_code 1 = .ok (.iload_n 2, 1) := by decide +kernel
theorem d3_2 : decode method_4_code 2 = .ok (.isub, 1) := by decide +kernel
theorem d3_3 : decode method_4_code 3 = .ok (.istore 6, 2) := by decide +kernel
theorem d3_5 : decode method_4_code 5 = .ok (.iload 6, 2) := by decide +kernel
theorem d3_7 : decode method_4_code 7 = .ok (.ifCond .lt 9, 3) := by decide +kernel
theorem d3_10 : decode method_4_code 10 = .ok (.iload 6, 2) := by decide +kernel
theorem d3_12 : decode method_4_code 12 = .ok (.iload_n 3, 1) := by decide +kernel
theorem d3_13 : decode method_4_code 13 = .ok (.if_icmp .lt 17, 3) := by decide +kernel
theorem d3_16 : decode method_4_code 16 = .ok (.aload_n 0, 1) := by decide +kernel
theorem d3_17 : decode method_4_code 17 = .ok (.iload_n 1, 1) := by decide +kernel
theorem d3_18 : decode method_4_code 18 = .ok (.baload, 1) := by decide +kernel
theorem d3_19 : decode method_4_code 19 = .ok (.iload 5, 2) := by decide +kernel
theorem d3_21 : decode method_4_code 21 = .ok (.if_icmp .ne 7, 3) := by decide +kernel
theorem d3_24 : decode method_4_code 24 = .ok (.iconst 1, 1) := by decide +kernel
theorem d3_25 : decode method_4_code 25 = .ok (.goto 4, 3) := by decide +kernel
theorem d3_28 : decode method_4_code 28 = .ok (.iconst 0, 1) := by decide +kernel
theorem d3_29 : decode method_4_code 29 = .ok (.ireturn, 1) := by decide +kernel
theorem d3_30 : decode method_4_code 30 = .ok (.iload 6, 2) := by decide +kernel
theorem d3_32 : decode method_4_code 32 = .ok (.iload_n 3, 1) := by decide +kernel
theorem d3_33 : decode method_4_code 33 = .ok (.iconst 1, 1) := by decide +kernel
theorem d3_34 : decode method_4_code 34 = .ok (.isub, 1) := by decide +kernel
theorem d3_35 : decode method_4_code 35 = .ok (.if_icmp .ge 23, 3) := by decide +kernel
theorem d3_38 : decode method_4_code 38 = .ok (.iload 4, 2) := by decide +kernel
theorem d3_40 : decode method_4_code 40 = .ok (.bipush 7, 2) := by decide +kernel
theorem d3_42 : decode method_4_code 42 = .ok (.iload 6, 2) := by decide +kernel
theorem d3_44 : decode method_4_code 44 = .ok (.imul, 1) := by decide +kernel
theorem d3_45 : decode method_4_code 45 = .ok (.iushr, 1) := by decide +kernel
theorem d3_46 : decode method_4_code 46 = .ok (.bipush 127, 2) := by decide +kernel
theorem d3_48 : decode method_4_code 48 = .ok (.iand, 1) := by decide +kernel
theorem d3_49 : decode method_4_code 49 = .ok (.sipush 128, 3) := by decide +kernel
theorem d3_52 : decode method_4_code 52 = .ok (.ior, 1) := by decide +kernel
theorem d3_53 : decode method_4_code 53 = .ok (.istore 7, 2) := by decide +kernel
theorem d3_55 : decode method_4_code 55 = .ok (.goto 13, 3) := by decide +kernel
theorem d3_58 : decode method_4_code 58 = .ok (.iload 4, 2) := by decide +kernel
theorem d3_60 : decode method_4_code 60 = .ok (.bipush 7, 2) := by decide +kernel
theorem d3_62 : decode method_4_code 62 = .ok (.iload 6, 2) := by decide +kernel
theorem d3_64 : decode method_4_code 64 = .ok (.imul, 1) := by decide +kernel
theorem d3_65 : decode method_4_code 65 = .ok (.iushr, 1) := by decide +kernel
theorem d3_66 : decode method_4_code 66 = .ok (.istore 7, 2) := by decide +kernel
theorem d3_68 : decode method_4_code 68 = .ok (.aload_n 0, 1) := by decide +kernel
theorem d3_69 : decode method_4_code 69 = .ok (.iload_n 1, 1) := by decide +kernel
theorem d3_70 : decode method_4_code 70 = .ok (.baload, 1) := by decide +kernel
theorem d3_71 : decode method_4_code 71 = .ok (.iload 7, 2) := by decide +kernel
theorem d3_73 : decode method_4_code 73 = .ok (.i2b, 1) := by decide +kernel
theorem d3_74 : decode method_4_code 74 = .ok (.if_icmp .ne 7, 3) := by decide +kernel
theorem d3_77 : decode method_4_code 77 = .ok (.iconst 1, 1) := by decide +kernel
theorem d3_78 : decode method_4_code 78 = .ok (.goto 4, 3) := by decide +kernel
theorem d3_81 : decode method_4_code 81 = .ok (.iconst 0, 1) := by decide +kernel
theorem d3_82 : decode method_4_code 82 = .ok (.ireturn, 1) := by decide +kernel
theorem ef_3 (m : MethodId) (a1 : Addr) (p2 : Int32) (p3 : Int32) (p4 : Int32) (p5 : Int32) (p6 : Int32) : entryFrame m #[(.ref a1), (.int p2), (.int p3), (.int p4), (.int p5), (.int p6)] 8 = mkF m 0 #[.val (.ref a1), .val (.int p2), .val (.int p3), .val (.int p4), .val (.int p5), .val (.int p6), .unset, .unset] [] := by first | (simp [entryFrame, mkF, argsToLocals, Value.category]; done) | rfl
def Q3 (Z : State) (a1 : Addr) (p2 : Int32) (p3 : Int32) (p4 : Int32) (p5 : Int32) (p6 : Int32) (k : ClassId) (vs : List Value) (x : Int32) (h0 : Heap) (n0 : Nat) (v : Option Value) (h : Heap) (L : List Loc) : Prop := v = some (.int (own_at p2 p3 p4 p5 p6 x)) ∧ Fr n0 L ∧ h = h0
set_option maxRecDepth 65536 in
set_option maxHeartbeats 40000000 in
theorem rm3 (l : Launch) (Z : State) (a0 : Array Value) (hw : ∀ d ∈ tables_1, d.before a0 Z = true) (ws : List Jvm.Cond) (a1 : Addr) (p2 : Int32) (p3 : Int32) (p4 : Int32) (p5 : Int32) (p6 : Int32) (k : ClassId) (vs : List Value) (x : Int32) (h0 : Heap) (n0 : Nat) (Z0 : n0 ≤ h0.size) (V : Arv Z h0 a1 k .byte (9 : Int32) vs (.int (0 : Int32))) (hlo : ¬ (p2 < (0 : Int32))) (hhi : p2 < (9 : Int32)) (hat : vs.getD p2.toNatClampNeg (.int (0 : Int32)) = .int x) :
    MetFree l (⟨"com/example/words_to_weights/wordstoweights/index/IndexFormatPutNumberPinLaw", "at", "([BIIIIB)Z"⟩ : MethodName) (head1 (Jvm.Cond.code (⟨"com/example/words_to_weights/wordstoweights/index/IndexFormatPutNumberPinLaw", "at", "([BIIIIB)Z"⟩ : MethodName) method_4_code 8 (some .boolean) :: ws) ({ frames := 0, cells := 0, slots := 0, locals := 0 } : Room)) (fun a U => a = #[(.ref a1), (.int p2), (.int p3), (.int p4), (.int p5), (.int p6)] ∧ Z.Warmed39 U.vm ∧ U.heap = h0) (fun _ _ _ _ _ => True) (fun _ U o U' => ∃ v L, o = .returned v ∧ Q3 Z a1 p2 p3 p4 p5 p6 k vs x h0 n0 v U'.heap L ∧ FrameEnd U o U' L ({ frames := 0, cells := 0, slots := 0, locals := 0 } : Room).cells ({ frames := 0, cells := 0, slots := 0, locals := 0 } : Room).slots) := by
  refine MetFree.of_bodySF (plainFor_of_name pn_1) hisR ?_
  intro p e s m args below meth c s₁ Bd hml0 hP hK
  obtain ⟨rfl, hZ, hh⟩ := hP
  have hx := Bd.exec
  have hby := Bd.bytes
  have hml : c.maxLocals = 8 := hml0
  have hown : s.vm.findClass "com/example/words_to_weights/wordstoweights/index/IndexFormatPutNumberPinLaw" = some m.cls := findClass_of_methodNamed Bd.named
  have hnm := (name_of_methodNamed Bd.named Bd.method).1
  have hlk : meth.locks = false := BodyLoose.notSynchronized Bd
  have X0 : Stand p l e ({ frames := 0, cells := 0, slots := 0, locals := 0 } : Room) s m #[(.ref a1), (.int p2), (.int p3), (.int p4), (.int p5), (.int p6)] below meth c s₁ [] 0 0 := Stand.of_body Bd
  have e0 : s₁.heap = h0 := by rw [← hh, Bd.state]; rfl
  have N0 := Fr.nil n0
  show OEnds p.tables e below (OGoal (Q3 Z a1 p2 p3 p4 p5 p6 k vs x h0 n0) s 0 0) (s₁.setTop (entryFrame m #[(.ref a1), (.int p2), (.int p3), (.int p4), (.int p5), (.int p6)] 8))
  refine OEnds.st (fun t k => castTop (ef_3 m a1 p2 p3 p4 p5 p6) k) ?_
  generalize hG : OGoal (Q3 Z a1 p2 p3 p4 p5 p6 k vs x h0 n0) s 0 0 = G
  have KK0 : Keep h0 h0 [] := Keep.refl h0 []
  show OEnds p.tables e below G (s₁.setTop (mkF m 0 #[.val (.ref a1), .val (.int p2), .val (.int p3), .val (.int p4), .val (.int p5), .val (.int p6), .unset, .unset] []))
  refine OEnds.st (fun _ k => XS.iloadN X0.here hx rfl (hb hby d3_0) rfl k) ?_
  show OEnds p.tables e below G (s₁.setTop (mkF m 1 #[.val (.ref a1), .val (.int p2), .val (.int p3), .val (.int p4), .val (.int p5), .val (.int p6), .unset, .unset] [(.int p2)]))
  refine OEnds.st (fun _ k => XS.iloadN X0.here hx rfl (hb hby d3_1) rfl k) ?_
  show OEnds p.tables e below G (s₁.setTop (mkF m 2 #[.val (.ref a1), .val (.int p2), .val (.int p3), .val (.int p4), .val (.int p5), .val (.int p6), .unset, .unset] [(.int p3), (.int p2)]))
  refine OEnds.st (fun _ k => XS.isub X0.here hx rfl (hb hby d3_2) rfl k) ?_
  show OEnds p.tables e below G (s₁.setTop (mkF m 3 #[.val (.ref a1), .val (.int p2), .val (.int p3), .val (.int p4), .val (.int p5), .val (.int p6), .unset, .unset] [(.int (p2 - p3))]))
  refine OEnds.st (fun _ k => XS.istore X0.here hx rfl (hb hby d3_3) rfl (l' := #[.val (.ref a1), .val (.int p2), .val (.int p3), .val (.int p4), .val (.int p5), .val (.int p6), .val (.int (p2 - p3)), .unset]) rfl k) ?_
  show OEnds p.tables e below G (s₁.setTop (mkF m 5 #[.val (.ref a1), .val (.int p2), .val (.int p3), .val (.int p4), .val (.int p5), .val (.int p6), .val (.int (p2 - p3)), .unset] []))
  generalize hv_v1001 : (p2 - p3) = v1001
  show OEnds p.tables e below G (s₁.setTop (mkF m 5 #[.val (.ref a1), .val (.int p2), .val (.int p3), .val (.int p4), .val (.int p5), .val (.int p6), .val (.int v1001), .unset] []))
  refine OEnds.st (fun _ k => XS.iload X0.here hx rfl (hb hby d3_5) rfl k) ?_
  show OEnds p.tables e below G (s₁.setTop (mkF m 7 #[.val (.ref a1), .val (.int p2), .val (.int p3), .val (.int p4), .val (.int p5), .val (.int p6), .val (.int v1001), .unset] [(.int v1001)]))
  by_cases hc7_1002 : v1001 < (0 : Int32)
  · -- pc 7: yes
    refine OEnds.st (fun _ k => XS.ifYes X0.here hx rfl (pc0 := 7) (pc' := 16) rfl (hb hby d3_7) rfl ((if0 _ _).trans (tlt hc7_1002).1) (by decide) (by decide) k) ?_
    show OEnds p.tables e below G (s₁.setTop (mkF m 16 #[.val (.ref a1), .val (.int p2), .val (.int p3), .val (.int p4), .val (.int p5), .val (.int p6), .val (.int v1001), .unset] []))
    refine OEnds.st (fun _ k => XS.aloadN X0.here hx rfl (hb hby d3_16) rfl rfl k) ?_
    show OEnds p.tables e below G (s₁.setTop (mkF m 17 #[.val (.ref a1), .val (.int p2), .val (.int p3), .val (.int p4), .val (.int p5), .val (.int p6), .val (.int v1001), .unset] [(.ref a1)]))
    refine OEnds.st (fun _ k => XS.iloadN X0.here hx rfl (hb hby d3_17) rfl k) ?_
    show OEnds p.tables e below G (s₁.setTop (mkF m 18 #[.val (.ref a1), .val (.int p2), .val (.int p3), .val (.int p4), .val (.int p5), .val (.int p6), .val (.int v1001), .unset] [(.int p2), (.ref a1)]))
    obtain ⟨cl1003, Ar1003, q1003, S1003, N1003n, H1003, G1003⟩ := id V
    have hin1003 : ¬ (p2 < 0 ∨ cl1003.slots.size ≤ (p2).toNatClampNeg) := inb_of S1003 ⟨hlo, hhi⟩
    have hat1003 : cl1003.slots[(p2).toNatClampNeg]? = some (.int x) := H1003.at hin1003 hat
    refine OEnds.st (X0.baloadBytes hx (j := p2) (v := (.int x)) (by rw [e0]; exact Ar1003.1) (State.isArrayOf_alike hZ.alike Ar1003.2.1) Ar1003.2.2 hin1003 hat1003 (g := (mkF m 18 #[.val (.ref a1), .val (.int p2), .val (.int p3), .val (.int p4), .val (.int p5), .val (.int p6), .val (.int v1001), .unset] [(.int p2), (.ref a1)])) rfl rfl (hb hby d3_18)) ?_
    show OEnds p.tables e below G (s₁.setTop (mkF m 19 #[.val (.ref a1), .val (.int p2), .val (.int p3), .val (.int p4), .val (.int p5), .val (.int p6), .val (.int v1001), .unset] [(.int x)]))
    refine OEnds.st (fun _ k => XS.iload X0.here hx rfl (hb hby d3_19) rfl k) ?_
    show OEnds p.tables e below G (s₁.setTop (mkF m 21 #[.val (.ref a1), .val (.int p2), .val (.int p3), .val (.int p4), .val (.int p5), .val (.int p6), .val (.int v1001), .unset] [(.int p6), (.int x)]))
    by_cases hc21_1004 : x = p6
    · -- pc 21: yes
      refine OEnds.st (fun _ k => XS.icmpNo X0.here hx rfl (hb hby d3_21) rfl (teq hc21_1004).2 k) ?_
      show OEnds p.tables e below G (s₁.setTop (mkF m 24 #[.val (.ref a1), .val (.int p2), .val (.int p3), .val (.int p4), .val (.int p5), .val (.int p6), .val (.int v1001), .unset] []))
      refine OEnds.st (fun _ k => XS.iconst X0.here hx rfl (hb hby d3_24) k) ?_
      show OEnds p.tables e below G (s₁.setTop (mkF m 25 #[.val (.ref a1), .val (.int p2), .val (.int p3), .val (.int p4), .val (.int p5), .val (.int p6), .val (.int v1001), .unset] [(.int (1 : Int32))]))
      refine OEnds.st (fun _ k => XS.goto X0.here hx rfl (pc0 := 25) (pc' := 29) rfl (hb hby d3_25) (by decide) (by decide) k) ?_
      show OEnds p.tables e below G (s₁.setTop (mkF m 29 #[.val (.ref a1), .val (.int p2), .val (.int p3), .val (.int p4), .val (.int p5), .val (.int p6), .val (.int v1001), .unset] [(.int (1 : Int32))]))
      rw [← hG]
      refine OEnds.retZ X0 hx hlk Bd.returns rfl (hb hby d3_29) (by decide) (by decide) ?_
      rw [e0]
      subst hv_v1001
      exact ⟨congrArg (fun z => some (Value.int z)) (by simp only [own_at, own_b, own_hi, own_lo, own_us, hc7_1002, hc21_1004, if_true, if_false]), N0, rfl⟩
    · -- pc 21: no
      refine OEnds.st (fun _ k => XS.icmpYes X0.here hx rfl (pc0 := 21) (pc' := 28) rfl (hb hby d3_21) rfl (feq hc21_1004).2 (by decide) (by decide) k) ?_
      show OEnds p.tables e below G (s₁.setTop (mkF m 28 #[.val (.ref a1), .val (.int p2), .val (.int p3), .val (.int p4), .val (.int p5), .val (.int p6), .val (.int v1001), .unset] []))
      refine OEnds.st (fun _ k => XS.iconst X0.here hx rfl (hb hby d3_28) k) ?_
      show OEnds p.tables e below G (s₁.setTop (mkF m 29 #[.val (.ref a1), .val (.int p2), .val (.int p3), .val (.int p4), .val (.int p5), .val (.int p6), .val (.int v1001), .unset] [(.int (0 : Int32))]))
      rw [← hG]
      refine OEnds.retZ X0 hx hlk Bd.returns rfl (hb hby d3_29) (by decide) (by decide) ?_
      rw [e0]
      subst hv_v1001
      exact ⟨congrArg (fun z => some (Value.int z)) (by simp only [own_at, own_b, own_hi, own_lo, own_us, hc7_1002, hc21_1004, if_true, if_false]), N0, rfl⟩
  · -- pc 7: no
    refine OEnds.st (fun _ k => XS.ifNo X0.here hx rfl (hb hby d3_7) rfl ((if0 _ _).trans (flt hc7_1002).1) k) ?_
    show OEnds p.tables e below G (s₁.setTop (mkF m 10 #[.val (.ref a1), .val (.int p2), .val (.int p3), .val (.int p4), .val (.int p5), .val (.int p6), .val (.int v1001), .unset] []))
    refine OEnds.st (fun _ k => XS.iload X0.here hx rfl (hb hby d3_10) rfl k) ?_
    show OEnds p.tables e below G (s₁.setTop (mkF m 12 #[.val (.ref a1), .val (.int p2), .val (.int p3), .val (.int p4), .val (.int p5), .val (.int p6), .val (.int v1001), .unset] [(.int v1001)]))
    refine OEnds.st (fun _ k => XS.iloadN X0.here hx rfl (hb hby d3_12) rfl k) ?_
    show OEnds p.tables e below G (s₁.setTop (mkF m 13 #[.val (.ref a1), .val (.int p2), .val (.int p3), .val (.int p4), .val (.int p5), .val (.int p6), .val (.int v1001), .unset] [(.int p4), (.int v1001)]))
    by_cases hc13_1005 : v1001 < p4
    · -- pc 13: yes
      refine OEnds.st (fun _ k => XS.icmpYes X0.here hx rfl (pc0 := 13) (pc' := 30) rfl (hb hby d3_13) rfl (tlt hc13_1005).1 (by decide) (by decide) k) ?_
      show OEnds p.tables e below G (s₁.setTop (mkF m 30 #[.val (.ref a1), .val (.int p2), .val (.int p3), .val (.int p4), .val (.int p5), .val (.int p6), .val (.int v1001), .unset] []))
      refine OEnds.st (fun _ k => XS.iload X0.here hx rfl (hb hby d3_30) rfl k) ?_
      show OEnds p.tables e below G (s₁.setTop (mkF m 32 #[.val (.ref a1), .val (.int p2), .val (.int p3), .val (.int p4), .val (.int p5), .val (.int p6), .val (.int v1001), .unset] [(.int v1001)]))
      refine OEnds.st (fun _ k => XS.iloadN X0.here hx rfl (hb hby d3_32) rfl k) ?_
      show OEnds p.tables e below G (s₁.setTop (mkF m 33 #[.val (.ref a1), .val (.int p2), .val (.int p3), .val (.int p4), .val (.int p5), .val (.int p6), .val (.int v1001), .unset] [(.int p4), (.int v1001)]))
      refine OEnds.st (fun _ k => XS.iconst X0.here hx rfl (hb hby d3_33) k) ?_
      show OEnds p.tables e below G (s₁.setTop (mkF m 34 #[.val (.ref a1), .val (.int p2), .val (.int p3), .val (.int p4), .val (.int p5), .val (.int p6), .val (.int v1001), .unset] [(.int (1 : Int32)), (.int p4), (.int v1001)]))
      refine OEnds.st (fun _ k => XS.isub X0.here hx rfl (hb hby d3_34) rfl k) ?_
      show OEnds p.tables e below G (s₁.setTop (mkF m 35 #[.val (.ref a1), .val (.int p2), .val (.int p3), .val (.int p4), .val (.int p5), .val (.int p6), .val (.int v1001), .unset] [(.int (p4 - (1 : Int32))), (.int v1001)]))
      by_cases hc35_1006 : v1001 < (p4 - (1 : Int32))
      · -- pc 35: yes
        refine OEnds.st (fun _ k => XS.icmpNo X0.here hx rfl (hb hby d3_35) rfl (tlt hc35_1006).2.1 k) ?_
        show OEnds p.tables e below G (s₁.setTop (mkF m 38 #[.val (.ref a1), .val (.int p2), .val (.int p3), .val (.int p4), .val (.int p5), .val (.int p6), .val (.int v1001), .unset] []))
        refine OEnds.st (fun _ k => XS.iload X0.here hx rfl (hb hby d3_38) rfl k) ?_
        show OEnds p.tables e below G (s₁.setTop (mkF m 40 #[.val (.ref a1), .val (.int p2), .val (.int p3), .val (.int p4), .val (.int p5), .val (.int p6), .val (.int v1001), .unset] [(.int p5)]))
        refine OEnds.st (fun _ k => XS.bipush X0.here hx rfl (hb hby d3_40) k) ?_
        show OEnds p.tables e below G (s₁.setTop (mkF m 42 #[.val (.ref a1), .val (.int p2), .val (.int p3), .val (.int p4), .val (.int p5), .val (.int p6), .val (.int v1001), .unset] [(.int (7 : Int32)), (.int p5)]))
        refine OEnds.st (fun _ k => XS.iload X0.here hx rfl (hb hby d3_42) rfl k) ?_
        show OEnds p.tables e below G (s₁.setTop (mkF m 44 #[.val (.ref a1), .val (.int p2), .val (.int p3), .val (.int p4), .val (.int p5), .val (.int p6), .val (.int v1001), .unset] [(.int v1001), (.int (7 : Int32)), (.int p5)]))
        refine OEnds.st (fun _ k => XS.imul X0.here hx rfl (hb hby d3_44) rfl k) ?_
        show OEnds p.tables e below G (s₁.setTop (mkF m 45 #[.val (.ref a1), .val (.int p2), .val (.int p3), .val (.int p4), .val (.int p5), .val (.int p6), .val (.int v1001), .unset] [(.int ((7 : Int32) * v1001)), (.int p5)]))
        refine OEnds.st (fun _ k => XS.iushr X0.here hx rfl (hb hby d3_45) rfl k) ?_
        show OEnds p.tables e below G (s₁.setTop (mkF m 46 #[.val (.ref a1), .val (.int p2), .val (.int p3), .val (.int p4), .val (.int p5), .val (.int p6), .val (.int v1001), .unset] [(.int ((p5.toUInt32 >>> (((7 : Int32) * v1001) &&& 31).toUInt32).toInt32))]))
        refine OEnds.st (fun _ k => XS.bipush X0.here hx rfl (hb hby d3_46) k) ?_
        show OEnds p.tables e below G (s₁.setTop (mkF m 48 #[.val (.ref a1), .val (.int p2), .val (.int p3), .val (.int p4), .val (.int p5), .val (.int p6), .val (.int v1001), .unset] [(.int (127 : Int32)), (.int ((p5.toUInt32 >>> (((7 : Int32) * v1001) &&& 31).toUInt32).toInt32))]))
        refine OEnds.st (fun _ k => XS.iand X0.here hx rfl (hb hby d3_48) rfl k) ?_
        show OEnds p.tables e below G (s₁.setTop (mkF m 49 #[.val (.ref a1), .val (.int p2), .val (.int p3), .val (.int p4), .val (.int p5), .val (.int p6), .val (.int v1001), .unset] [(.int (((p5.toUInt32 >>> (((7 : Int32) * v1001) &&& 31).toUInt32).toInt32) &&& (127 : Int32)))]))
        refine OEnds.st (fun _ k => XS.sipush X0.here hx rfl (hb hby d3_49) k) ?_
        show OEnds p.tables e below G (s₁.setTop (mkF m 52 #[.val (.ref a1), .val (.int p2), .val (.int p3), .val (.int p4), .val (.int p5), .val (.int p6), .val (.int v1001), .unset] [(.int (128 : Int32)), (.int (((p5.toUInt32 >>> (((7 : Int32) * v1001) &&& 31).toUInt32).toInt32) &&& (127 : Int32)))]))
        refine OEnds.st (fun _ k => XS.ior X0.here hx rfl (hb hby d3_52) rfl k) ?_
        show OEnds p.tables e below G (s₁.setTop (mkF m 53 #[.val (.ref a1), .val (.int p2), .val (.int p3), .val (.int p4), .val (.int p5), .val (.int p6), .val (.int v1001), .unset] [(.int ((((p5.toUInt32 >>> (((7 : Int32) * v1001) &&& 31).toUInt32).toInt32) &&& (127 : Int32)) ||| (128 : Int32)))]))
        refine OEnds.st (fun _ k => XS.istore X0.here hx rfl (hb hby d3_53) rfl (l' := #[.val (.ref a1), .val (.int p2), .val (.int p3), .val (.int p4), .val (.int p5), .val (.int p6), .val (.int v1001), .val (.int ((((p5.toUInt32 >>> (((7 : Int32) * v1001) &&& 31).toUInt32).toInt32) &&& (127 : Int32)) ||| (128 : Int32)))]) rfl k) ?_
        show OEnds p.tables e below G (s₁.setTop (mkF m 55 #[.val (.ref a1), .val (.int p2), .val (.int p3), .val (.int p4), .val (.int p5), .val (.int p6), .val (.int v1001), .val (.int ((((p5.toUInt32 >>> (((7 : Int32) * v1001) &&& 31).toUInt32).toInt32) &&& (127 : Int32)) ||| (128 : Int32)))] []))
        generalize hv_v1007 : ((((p5.toUInt32 >>> (((7 : Int32) * v1001) &&& 31).toUInt32).toInt32) &&& (127 : Int32)) ||| (128 : Int32)) = v1007
        show OEnds p.tables e below G (s₁.setTop (mkF m 55 #[.val (.ref a1), .val (.int p2), .val (.int p3), .val (.int p4), .val (.int p5), .val (.int p6), .val (.int v1001), .val (.int v1007)] []))
        refine OEnds.st (fun _ k => XS.goto X0.here hx rfl (pc0 := 55) (pc' := 68) rfl (hb hby d3_55) (by decide) (by decide) k) ?_
        show OEnds p.tables e below G (s₁.setTop (mkF m 68 #[.val (.ref a1), .val (.int p2), .val (.int p3), .val (.int p4), .val (.int p5), .val (.int p6), .val (.int v1001), .val (.int v1007)] []))
        refine OEnds.st (fun _ k => XS.aloadN X0.here hx rfl (hb hby d3_68) rfl rfl k) ?_
        show OEnds p.tables e below G (s₁.setTop (mkF m 69 #[.val (.ref a1), .val (.int p2), .val (.int p3), .val (.int p4), .val (.int p5), .val (.int p6), .val (.int v1001), .val (.int v1007)] [(.ref a1)]))
        refine OEnds.st (fun _ k => XS.iloadN X0.here hx rfl (hb hby d3_69) rfl k) ?_
        show OEnds p.tables e below G (s₁.setTop (mkF m 70 #[.val (.ref a1), .val (.int p2), .val (.int p3), .val (.int p4), .val (.int p5), .val (.int p6), .val (.int v1001), .val (.int v1007)] [(.int p2), (.ref a1)]))
        obtain ⟨cl1008, Ar1008, q1008, S1008, N1008n, H1008, G1008⟩ := id V
        have hin1008 : ¬ (p2 < 0 ∨ cl1008.slots.size ≤ (p2).toNatClampNeg) := inb_of S1008 ⟨hlo, hhi⟩
        have hat1008 : cl1008.slots[(p2).toNatClampNeg]? = some (.int x) := H1008.at hin1008 hat
        refine OEnds.st (X0.baloadBytes hx (j := p2) (v := (.int x)) (by rw [e0]; exact Ar1008.1) (State.isArrayOf_alike hZ.alike Ar1008.2.1) Ar1008.2.2 hin1008 hat1008 (g := (mkF m 70 #[.val (.ref a1), .val (.int p2), .val (.int p3), .val (.int p4), .val (.int p5), .val (.int p6), .val (.int v1001), .val (.int v1007)] [(.int p2), (.ref a1)])) rfl rfl (hb hby d3_70)) ?_
        show OEnds p.tables e below G (s₁.setTop (mkF m 71 #[.val (.ref a1), .val (.int p2), .val (.int p3), .val (.int p4), .val (.int p5), .val (.int p6), .val (.int v1001), .val (.int v1007)] [(.int x)]))
        refine OEnds.st (fun _ k => XS.iload X0.here hx rfl (hb hby d3_71) rfl k) ?_
        show OEnds p.tables e below G (s₁.setTop (mkF m 73 #[.val (.ref a1), .val (.int p2), .val (.int p3), .val (.int p4), .val (.int p5), .val (.int p6), .val (.int v1001), .val (.int v1007)] [(.int v1007), (.int x)]))
        refine OEnds.st (fun _ k => XS.i2b X0.here hx rfl (hb hby d3_73) rfl k) ?_
        show OEnds p.tables e below G (s₁.setTop (mkF m 74 #[.val (.ref a1), .val (.int p2), .val (.int p3), .val (.int p4), .val (.int p5), .val (.int p6), .val (.int v1001), .val (.int v1007)] [(.int (v1007.toInt8.toInt32)), (.int x)]))
        by_cases hc74_1009 : x = (v1007.toInt8.toInt32)
        · -- pc 74: yes
          refine OEnds.st (fun _ k => XS.icmpNo X0.here hx rfl (hb hby d3_74) rfl (teq hc74_1009).2 k) ?_
          show OEnds p.tables e below G (s₁.setTop (mkF m 77 #[.val (.ref a1), .val (.int p2), .val (.int p3), .val (.int p4), .val (.int p5), .val (.int p6), .val (.int v1001), .val (.int v1007)] []))
          refine OEnds.st (fun _ k => XS.iconst X0.here hx rfl (hb hby d3_77) k) ?_
          show OEnds p.tables e below G (s₁.setTop (mkF m 78 #[.val (.ref a1), .val (.int p2), .val (.int p3), .val (.int p4), .val (.int p5), .val (.int p6), .val (.int v1001), .val (.int v1007)] [(.int (1 : Int32))]))
          refine OEnds.st (fun _ k => XS.goto X0.here hx rfl (pc0 := 78) (pc' := 82) rfl (hb hby d3_78) (by decide) (by decide) k) ?_
          show OEnds p.tables e below G (s₁.setTop (mkF m 82 #[.val (.ref a1), .val (.int p2), .val (.int p3), .val (.int p4), .val (.int p5), .val (.int p6), .val (.int v1001), .val (.int v1007)] [(.int (1 : Int32))]))
          rw [← hG]
          refine OEnds.retZ X0 hx hlk Bd.returns rfl (hb hby d3_82) (by decide) (by decide) ?_
          rw [e0]
          subst hv_v1001 hv_v1007
          exact ⟨congrArg (fun z => some (Value.int z)) (by simp only [own_at, own_b, own_hi, own_lo, own_us, hc7_1002, hc13_1005, hc35_1006, hc74_1009, if_true, if_false]), N0, rfl⟩
        · -- pc 74: no
          refine OEnds.st (fun _ k => XS.icmpYes X0.here hx rfl (pc0 := 74) (pc' := 81) rfl (hb hby d3_74) rfl (feq hc74_1009).2 (by decide) (by decide) k) ?_
          show OEnds p.tables e below G (s₁.setTop (mkF m 81 #[.val (.ref a1), .val (.int p2), .val (.int p3), .val (.int p4), .val (.int p5), .val (.int p6), .val (.int v1001), .val (.int v1007)] []))
          refine OEnds.st (fun _ k => XS.iconst X0.here hx rfl (hb hby d3_81) k) ?_
          show OEnds p.tables e below G (s₁.setTop (mkF m 82 #[.val (.ref a1), .val (.int p2), .val (.int p3), .val (.int p4), .val (.int p5), .val (.int p6), .val (.int v1001), .val (.int v1007)] [(.int (0 : Int32))]))
          rw [← hG]
          refine OEnds.retZ X0 hx hlk Bd.returns rfl (hb hby d3_82) (by decide) (by decide) ?_
          rw [e0]
          subst hv_v1001 hv_v1007
          exact ⟨congrArg (fun z => some (Value.int z)) (by simp only [own_at, own_b, own_hi, own_lo, own_us, hc7_1002, hc13_1005, hc35_1006, hc74_1009, if_true, if_false]), N0, rfl⟩
      · -- pc 35: no
        refine OEnds.st (fun _ k => XS.icmpYes X0.here hx rfl (pc0 := 35) (pc' := 58) rfl (hb hby d3_35) rfl (flt hc35_1006).2.1 (by decide) (by decide) k) ?_
        show OEnds p.tables e below G (s₁.setTop (mkF m 58 #[.val (.ref a1), .val (.int p2), .val (.int p3), .val (.int p4), .val (.int p5), .val (.int p6), .val (.int v1001), .unset] []))
        refine OEnds.st (fun _ k => XS.iload X0.here hx rfl (hb hby d3_58) rfl k) ?_
        show OEnds p.tables e below G (s₁.setTop (mkF m 60 #[.val (.ref a1), .val (.int p2), .val (.int p3), .val (.int p4), .val (.int p5), .val (.int p6), .val (.int v1001), .unset] [(.int p5)]))
        refine OEnds.st (fun _ k => XS.bipush X0.here hx rfl (hb hby d3_60) k) ?_
        show OEnds p.tables e below G (s₁.setTop (mkF m 62 #[.val (.ref a1), .val (.int p2), .val (.int p3), .val (.int p4), .val (.int p5), .val (.int p6), .val (.int v1001), .unset] [(.int (7 : Int32)), (.int p5)]))
        refine OEnds.st (fun _ k => XS.iload X0.here hx rfl (hb hby d3_62) rfl k) ?_
        show OEnds p.tables e below G (s₁.setTop (mkF m 64 #[.val (.ref a1), .val (.int p2), .val (.int p3), .val (.int p4), .val (.int p5), .val (.int p6), .val (.int v1001), .unset] [(.int v1001), (.int (7 : Int32)), (.int p5)]))
        refine OEnds.st (fun _ k => XS.imul X0.here hx rfl (hb hby d3_64) rfl k) ?_
        show OEnds p.tables e below G (s₁.setTop (mkF m 65 #[.val (.ref a1), .val (.int p2), .val (.int p3), .val (.int p4), .val (.int p5), .val (.int p6), .val (.int v1001), .unset] [(.int ((7 : Int32) * v1001)), (.int p5)]))
        refine OEnds.st (fun _ k => XS.iushr X0.here hx rfl (hb hby d3_65) rfl k) ?_
        show OEnds p.tables e below G (s₁.setTop (mkF m 66 #[.val (.ref a1), .val (.int p2), .val (.int p3), .val (.int p4), .val (.int p5), .val (.int p6), .val (.int v1001), .unset] [(.int ((p5.toUInt32 >>> (((7 : Int32) * v1001) &&& 31).toUInt32).toInt32))]))
        refine OEnds.st (fun _ k => XS.istore X0.here hx rfl (hb hby d3_66) rfl (l' := #[.val (.ref a1), .val (.int p2), .val (.int p3), .val (.int p4), .val (.int p5), .val (.int p6), .val (.int v1001), .val (.int ((p5.toUInt32 >>> (((7 : Int32) * v1001) &&& 31).toUInt32).toInt32))]) rfl k) ?_
        show OEnds p.tables e below G (s₁.setTop (mkF m 68 #[.val (.ref a1), .val (.int p2), .val (.int p3), .val (.int p4), .val (.int p5), .val (.int p6), .val (.int v1001), .val (.int ((p5.toUInt32 >>> (((7 : Int32) * v1001) &&& 31).toUInt32).toInt32))] []))
        generalize hv_v1010 : ((p5.toUInt32 >>> (((7 : Int32) * v1001) &&& 31).toUInt32).toInt32) = v1010
        show OEnds p.tables e below G (s₁.setTop (mkF m 68 #[.val (.ref a1), .val (.int p2), .val (.int p3), .val (.int p4), .val (.int p5), .val (.int p6), .val (.int v1001), .val (.int v1010)] []))
        refine OEnds.st (fun _ k => XS.aloadN X0.here hx rfl (hb hby d3_68) rfl rfl k) ?_
        show OEnds p.tables e below G (s₁.setTop (mkF m 69 #[.val (.ref a1), .val (.int p2), .val (.int p3), .val (.int p4), .val (.int p5), .val (.int p6), .val (.int v1001), .val (.int v1010)] [(.ref a1)]))
        refine OEnds.st (fun _ k => XS.iloadN X0.here hx rfl (hb hby d3_69) rfl k) ?_
        show OEnds p.tables e below G (s₁.setTop (mkF m 70 #[.val (.ref a1), .val (.int p2), .val (.int p3), .val (.int p4), .val (.int p5), .val (.int p6), .val (.int v1001), .val (.int v1010)] [(.int p2), (.ref a1)]))
        obtain ⟨cl1011, Ar1011, q1011, S1011, N1011n, H1011, G1011⟩ := id V
        have hin1011 : ¬ (p2 < 0 ∨ cl1011.slots.size ≤ (p2).toNatClampNeg) := inb_of S1011 ⟨hlo, hhi⟩
        have hat1011 : cl1011.slots[(p2).toNatClampNeg]? = some (.int x) := H1011.at hin1011 hat
        refine OEnds.st (X0.baloadBytes hx (j := p2) (v := (.int x)) (by rw [e0]; exact Ar1011.1) (State.isArrayOf_alike hZ.alike Ar1011.2.1) Ar1011.2.2 hin1011 hat1011 (g := (mkF m 70 #[.val (.ref a1), .val (.int p2), .val (.int p3), .val (.int p4), .val (.int p5), .val (.int p6), .val (.int v1001), .val (.int v1010)] [(.int p2), (.ref a1)])) rfl rfl (hb hby d3_70)) ?_
        show OEnds p.tables e below G (s₁.setTop (mkF m 71 #[.val (.ref a1), .val (.int p2), .val (.int p3), .val (.int p4), .val (.int p5), .val (.int p6), .val (.int v1001), .val (.int v1010)] [(.int x)]))
        refine OEnds.st (fun _ k => XS.iload X0.here hx rfl (hb hby d3_71) rfl k) ?_
        show OEnds p.tables e below G (s₁.setTop (mkF m 73 #[.val (.ref a1), .val (.int p2), .val (.int p3), .val (.int p4), .val (.int p5), .val (.int p6), .val (.int v1001), .val (.int v1010)] [(.int v1010), (.int x)]))
        refine OEnds.st (fun _ k => XS.i2b X0.here hx rfl (hb hby d3_73) rfl k) ?_
        show OEnds p.tables e below G (s₁.setTop (mkF m 74 #[.val (.ref a1), .val (.int p2), .val (.int p3), .val (.int p4), .val (.int p5), .val (.int p6), .val (.int v1001), .val (.int v1010)] [(.int (v1010.toInt8.toInt32)), (.int x)]))
        by_cases hc74_1012 : x = (v1010.toInt8.toInt32)
        · -- pc 74: yes
          refine OEnds.st (fun _ k => XS.icmpNo X0.here hx rfl (hb hby d3_74) rfl (teq hc74_1012).2 k) ?_
          show OEnds p.tables e below G (s₁.setTop (mkF m 77 #[.val (.ref a1), .val (.int p2), .val (.int p3), .val (.int p4), .val (.int p5), .val (.int p6), .val (.int v1001), .val (.int v1010)] []))
          refine OEnds.st (fun _ k => XS.iconst X0.here hx rfl (hb hby d3_77) k) ?_
          show OEnds p.tables e below G (s₁.setTop (mkF m 78 #[.val (.ref a1), .val (.int p2), .val (.int p3), .val (.int p4), .val (.int p5), .val (.int p6), .val (.int v1001), .val (.int v1010)] [(.int (1 : Int32))]))
          refine OEnds.st (fun _ k => XS.goto X0.here hx rfl (pc0 := 78) (pc' := 82) rfl (hb hby d3_78) (by decide) (by decide) k) ?_
          show OEnds p.tables e below G (s₁.setTop (mkF m 82 #[.val (.ref a1), .val (.int p2), .val (.int p3), .val (.int p4), .val (.int p5), .val (.int p6), .val (.int v1001), .val (.int v1010)] [(.int (1 : Int32))]))
          rw [← hG]
          refine OEnds.retZ X0 hx hlk Bd.returns rfl (hb hby d3_82) (by decide) (by decide) ?_
          rw [e0]
          subst hv_v1001 hv_v1010
          exact ⟨congrArg (fun z => some (Value.int z)) (by simp only [own_at, own_b, own_hi, own_lo, own_us, hc7_1002, hc13_1005, hc35_1006, hc74_1012, if_true, if_false]), N0, rfl⟩
        · -- pc 74: no
          refine OEnds.st (fun _ k => XS.icmpYes X0.here hx rfl (pc0 := 74) (pc' := 81) rfl (hb hby d3_74) rfl (feq hc74_1012).2 (by decide) (by decide) k) ?_
          show OEnds p.tables e below G (s₁.setTop (mkF m 81 #[.val (.ref a1), .val (.int p2), .val (.int p3), .val (.int p4), .val (.int p5), .val (.int p6), .val (.int v1001), .val (.int v1010)] []))
          refine OEnds.st (fun _ k => XS.iconst X0.here hx rfl (hb hby d3_81) k) ?_
          show OEnds p.tables e below G (s₁.setTop (mkF m 82 #[.val (.ref a1), .val (.int p2), .val (.int p3), .val (.int p4), .val (.int p5), .val (.int p6), .val (.int v1001), .val (.int v1010)] [(.int (0 : Int32))]))
          rw [← hG]
          refine OEnds.retZ X0 hx hlk Bd.returns rfl (hb hby d3_82) (by decide) (by decide) ?_
          rw [e0]
          subst hv_v1001 hv_v1010
          exact ⟨congrArg (fun z => some (Value.int z)) (by simp only [own_at, own_b, own_hi, own_lo, own_us, hc7_1002, hc13_1005, hc35_1006, hc74_1012, if_true, if_false]), N0, rfl⟩
    · -- pc 13: no
      refine OEnds.st (fun _ k => XS.icmpNo X0.here hx rfl (hb hby d3_13) rfl (flt hc13_1005).1 k) ?_
      show OEnds p.tables e below G (s₁.setTop (mkF m 16 #[.val (.ref a1), .val (.int p2), .val (.int p3), .val (.int p4), .val (.int p5), .val (.int p6), .val (.int v1001), .unset] []))
      refine OEnds.st (fun _ k => XS.aloadN X0.here hx rfl (hb hby d3_16) rfl rfl k) ?_
      show OEnds p.tables e below G (s₁.setTop (mkF m 17 #[.val (.ref a1), .val (.int p2), .val (.int p3), .val (.int p4), .val (.int p5), .val (.int p6), .val (.int v1001), .unset] [(.ref a1)]))
      refine OEnds.st (fun _ k => XS.iloadN X0.here hx rfl (hb hby d3_17) rfl k) ?_
      show OEnds p.tables e below G (s₁.setTop (mkF m 18 #[.val (.ref a1), .val (.int p2), .val (.int p3), .val (.int p4), .val (.int p5), .val (.int p6), .val (.int v1001), .unset] [(.int p2), (.ref a1)]))
      obtain ⟨cl1013, Ar1013, q1013, S1013, N1013n, H1013, G1013⟩ := id V
      have hin1013 : ¬ (p2 < 0 ∨ cl1013.slots.size ≤ (p2).toNatClampNeg) := inb_of S1013 ⟨hlo, hhi⟩
      have hat1013 : cl1013.slots[(p2).toNatClampNeg]? = some (.int x) := H1013.at hin1013 hat
      refine OEnds.st (X0.baloadBytes hx (j := p2) (v := (.int x)) (by rw [e0]; exact Ar1013.1) (State.isArrayOf_alike hZ.alike Ar1013.2.1) Ar1013.2.2 hin1013 hat1013 (g := (mkF m 18 #[.val (.ref a1), .val (.int p2), .val (.int p3), .val (.int p4), .val (.int p5), .val (.int p6), .val (.int v1001), .unset] [(.int p2), (.ref a1)])) rfl rfl (hb hby d3_18)) ?_
      show OEnds p.tables e below G (s₁.setTop (mkF m 19 #[.val (.ref a1), .val (.int p2), .val (.int p3), .val (.int p4), .val (.int p5), .val (.int p6), .val (.int v1001), .unset] [(.int x)]))
      refine OEnds.st (fun _ k => XS.iload X0.here hx rfl (hb hby d3_19) rfl k) ?_
      show OEnds p.tables e below G (s₁.setTop (mkF m 21 #[.val (.ref a1), .val (.int p2), .val (.int p3), .val (.int p4), .val (.int p5), .val (.int p6), .val (.int v1001), .unset] [(.int p6), (.int x)]))
      by_cases hc21_1014 : x = p6
      · -- pc 21: yes
        refine OEnds.st (fun _ k => XS.icmpNo X0.here hx rfl (hb hby d3_21) rfl (teq hc21_1014).2 k) ?_
        show OEnds p.tables e below G (s₁.setTop (mkF m 24 #[.val (.ref a1), .val (.int p2), .val (.int p3), .val (.int p4), .val (.int p5), .val (.int p6), .val (.int v1001), .unset] []))
        refine OEnds.st (fun _ k => XS.iconst X0.here hx rfl (hb hby d3_24) k) ?_
        show OEnds p.tables e below G (s₁.setTop (mkF m 25 #[.val (.ref a1), .val (.int p2), .val (.int p3), .val (.int p4), .val (.int p5), .val (.int p6), .val (.int v1001), .unset] [(.int (1 : Int32))]))
        refine OEnds.st (fun _ k => XS.goto X0.here hx rfl (pc0 := 25) (pc' := 29) rfl (hb hby d3_25) (by decide) (by decide) k) ?_
        show OEnds p.tables e below G (s₁.setTop (mkF m 29 #[.val (.ref a1), .val (.int p2), .val (.int p3), .val (.int p4), .val (.int p5), .val (.int p6), .val (.int v1001), .unset] [(.int (1 : Int32))]))
        rw [← hG]
        refine OEnds.retZ X0 hx hlk Bd.returns rfl (hb hby d3_29) (by decide) (by decide) ?_
        rw [e0]
        subst hv_v1001
        exact ⟨congrArg (fun z => some (Value.int z)) (by simp only [own_at, own_b, own_hi, own_lo, own_us, hc7_1002, hc13_1005, hc21_1014, if_true, if_false]), N0, rfl⟩
      · -- pc 21: no
        refine OEnds.st (fun _ k => XS.icmpYes X0.here hx rfl (pc0 := 21) (pc' := 28) rfl (hb hby d3_21) rfl (feq hc21_1014).2 (by decide) (by decide) k) ?_
        show OEnds p.tables e below G (s₁.setTop (mkF m 28 #[.val (.ref a1), .val (.int p2), .val (.int p3), .val (.int p4), .val (.int p5), .val (.int p6), .val (.int v1001), .unset] []))
        refine OEnds.st (fun _ k => XS.iconst X0.here hx rfl (hb hby d3_28) k) ?_
        show OEnds p.tables e below G (s₁.setTop (mkF m 29 #[.val (.ref a1), .val (.int p2), .val (.int p3), .val (.int p4), .val (.int p5), .val (.int p6), .val (.int v1001), .unset] [(.int (0 : Int32))]))
        rw [← hG]
        refine OEnds.retZ X0 hx hlk Bd.returns rfl (hb hby d3_29) (by decide) (by decide) ?_
        rw [e0]
        subst hv_v1001
        exact ⟨congrArg (fun z => some (Value.int z)) (by simp only [own_at, own_b, own_hi, own_lo, own_us, hc7_1002, hc13_1005, hc21_1014, if_true, if_false]), N0, rfl⟩
theorem ef_0 (m : MethodId) (p1 : Int32) (p2 : Int32) (p3 : Int32) : entryFrame m #[(.int p1), (.int p2), (.int p3)] maxLocals = mkF m 0 #[.val (.int p1), .val (.int p2), .val (.int p3), .unset, .unset, .unset, .unset, .unset] [] := by first | (simp [entryFrame, mkF, argsToLocals, Value.category, maxLocals]; done) | rfl
def Q0 (Z : State) (p1 : Int32) (p2 : Int32) (p3 : Int32) (h0 : Heap) (n0 : Nat) (v : Option Value) (h : Heap) (L : List Loc) : Prop := v = some (.int (1 : Int32)) ∧ Fr n0 L
theorem pd_0 : parseMethodDescriptor "([BII)I" = some ⟨[(.array .byte), .int, .int], some .int⟩ := by decide +kernel
theorem pd_1 : parseMethodDescriptor "(I)I" = some ⟨[.int], some .int⟩ := by decide +kernel
theorem pd_2 : parseMethodDescriptor "([BIIIIB)Z" = some ⟨[(.array .byte), .int, .int, .int, .int, .byte], some .boolean⟩ := by decide +kernel
set_option maxRecDepth 65536 in
set_option maxHeartbeats 40000000 in
theorem rm0 (l : Launch) (Z : State) (a0 : Array Value) (hw : ∀ d ∈ tables_1, d.before a0 Z = true) (ws : List Jvm.Cond) (p1 : Int32) (p2 : Int32) (p3 : Int32) (h0 : Heap) (n0 : Nat) (Z0 : n0 ≤ h0.size) :
    MetFree l x (head1 (Jvm.Cond.code x code maxLocals ret :: ws) room_1) (fun a U => a = #[(.int p1), (.int p2), (.int p3)] ∧ Z.Warmed39 U.vm ∧ U.heap = h0) (fun _ _ _ _ _ => True) (fun _ U o U' => ∃ v L, o = .returned v ∧ Q0 Z p1 p2 p3 h0 n0 v U'.heap L ∧ FrameEnd U o U' L room_1.cells room_1.slots) := by
  refine MetFree.of_bodySF (plainFor_of_name pn_1) hisR ?_
  intro p e s m args below meth c s₁ Bd hml0 hP hK
  obtain ⟨rfl, hZ, hh⟩ := hP
  have hx := Bd.exec
  have hby := Bd.bytes
  have hml : c.maxLocals = 8 := hml0
  have hown : s.vm.findClass "com/example/words_to_weights/wordstoweights/index/IndexFormatPutNumberPinLaw" = some m.cls := findClass_of_methodNamed Bd.named
  have hnm := (name_of_methodNamed Bd.named Bd.method).1
  have hlk : meth.locks = false := BodyLoose.notSynchronized Bd
  have X0 : Stand p l e room_1 s m #[(.int p1), (.int p2), (.int p3)] below meth c s₁ [] 0 0 := Stand.of_body Bd
  have e0 : s₁.heap = h0 := by rw [← hh, Bd.state]; rfl
  have N0 := Fr.nil n0
  show OEnds p.tables e below (OGoal (Q0 Z p1 p2 p3 h0 n0) s 16 128) (s₁.setTop (entryFrame m #[(.int p1), (.int p2), (.int p3)] maxLocals))
  refine OEnds.st (fun t k => castTop (ef_0 m p1 p2 p3) k) ?_
  generalize hG : OGoal (Q0 Z p1 p2 p3 h0 n0) s 16 128 = G
  have KK0 : Keep h0 h0 [] := Keep.refl h0 []
  show OEnds p.tables e below G (s₁.setTop (mkF m 0 #[.val (.int p1), .val (.int p2), .val (.int p3), .unset, .unset, .unset, .unset, .unset] []))
  refine OEnds.st (fun _ k => XS.iloadN X0.here hx rfl (hb hby at_0) rfl k) ?_
  show OEnds p.tables e below G (s₁.setTop (mkF m 1 #[.val (.int p1), .val (.int p2), .val (.int p3), .unset, .unset, .unset, .unset, .unset] [(.int p2)]))
  refine OEnds.st (fun _ k => XS.iconst X0.here hx rfl (hb hby at_1) k) ?_
  show OEnds p.tables e below G (s₁.setTop (mkF m 2 #[.val (.int p1), .val (.int p2), .val (.int p3), .unset, .unset, .unset, .unset, .unset] [(.int (3 : Int32)), (.int p2)]))
  refine OEnds.st (fun _ k => XS.iand X0.here hx rfl (hb hby at_2) rfl k) ?_
  show OEnds p.tables e below G (s₁.setTop (mkF m 3 #[.val (.int p1), .val (.int p2), .val (.int p3), .unset, .unset, .unset, .unset, .unset] [(.int (p2 &&& (3 : Int32)))]))
  refine OEnds.st (fun _ k => XS.istoreN X0.here hx rfl (hb hby at_3) rfl (l' := #[.val (.int p1), .val (.int p2), .val (.int p3), .val (.int (p2 &&& (3 : Int32))), .unset, .unset, .unset, .unset]) rfl k) ?_
  show OEnds p.tables e below G (s₁.setTop (mkF m 4 #[.val (.int p1), .val (.int p2), .val (.int p3), .val (.int (p2 &&& (3 : Int32))), .unset, .unset, .unset, .unset] []))
  generalize hv_v1001 : (p2 &&& (3 : Int32)) = v1001
  have hq : v1001 = (0 : Int32) ∨ v1001 = (1 : Int32) ∨ v1001 = (2 : Int32) ∨ v1001 = (3 : Int32) := by rw [← hv_v1001]; exact own_four p2
  rcases hq with hi | hi | hi | hi
  · -- 0
    rw [hi]
    show OEnds p.tables e below G (s₁.setTop (mkF m 4 #[.val (.int p1), .val (.int p2), .val (.int p3), .val (.int (0 : Int32)), .unset, .unset, .unset, .unset] []))
    refine OEnds.st (fun _ k => XS.iloadN X0.here hx rfl (hb hby at_4) rfl k) ?_
    show OEnds p.tables e below G (s₁.setTop (mkF m 5 #[.val (.int p1), .val (.int p2), .val (.int p3), .val (.int (0 : Int32)), .unset, .unset, .unset, .unset] [(.int p3)]))
    refine OEnds.st (fun _ k => XS.i2b X0.here hx rfl (hb hby at_5) rfl k) ?_
    show OEnds p.tables e below G (s₁.setTop (mkF m 6 #[.val (.int p1), .val (.int p2), .val (.int p3), .val (.int (0 : Int32)), .unset, .unset, .unset, .unset] [(.int (p3.toInt8.toInt32))]))
    refine OEnds.st (fun _ k => XS.istore X0.here hx rfl (hb hby at_6) rfl (l' := #[.val (.int p1), .val (.int p2), .val (.int p3), .val (.int (0 : Int32)), .val (.int (p3.toInt8.toInt32)), .unset, .unset, .unset]) rfl k) ?_
    show OEnds p.tables e below G (s₁.setTop (mkF m 8 #[.val (.int p1), .val (.int p2), .val (.int p3), .val (.int (0 : Int32)), .val (.int (p3.toInt8.toInt32)), .unset, .unset, .unset] []))
    generalize hv_v1002 : (p3.toInt8.toInt32) = v1002
    have hf8 : nar .byte v1002 = v1002 := by rw [← hv_v1002]; exact own_b8 p3
    show OEnds p.tables e below G (s₁.setTop (mkF m 8 #[.val (.int p1), .val (.int p2), .val (.int p3), .val (.int (0 : Int32)), .val (.int v1002), .unset, .unset, .unset] []))
    refine OEnds.st (fun _ k => XS.bipush X0.here hx rfl (hb hby at_8) k) ?_
    show OEnds p.tables e below G (s₁.setTop (mkF m 10 #[.val (.int p1), .val (.int p2), .val (.int p3), .val (.int (0 : Int32)), .val (.int v1002), .unset, .unset, .unset] [(.int (9 : Int32))]))
    obtain ⟨T1003, h1003, k1003, X1003, e1003, E1003, A1003, st1003⟩ := newP X0 hx hZ (hw _ (List.mem_of_getElem? (i := 0) rfl)) e0 (g := (mkF m 10 #[.val (.int p1), .val (.int p2), .val (.int p3), .val (.int (0 : Int32)), .val (.int v1002), .unset, .unset, .unset] [(.int (9 : Int32))])) rfl (hb hby at_10) rfl (by decide) (cap := 9) (by decide) (by decide) (by decide) (by decide)
    obtain ⟨b1003, g1003⟩ : ∃ z, z = h0.size := ⟨_, rfl⟩
    rw [← g1003] at A1003 st1003
    refine OEnds.st st1003 ?_
    have ge_b1003 : n0 ≤ b1003 := Nat.le_trans Z0 (Nat.le_of_eq g1003.symm)
    have sz_b1003 : h0.size ≤ b1003 := Nat.le_trans KK0.1 (Nat.le_of_eq g1003.symm)
    have KK1003 : Keep h0 h1003 [] := KK0.ext E1003
    have Z1003 := Nat.le_trans Z0 E1003.1
    have f1004 : Arv Z h1003 b1003 k1003 .byte (9 : Int32) [(.int (0 : Int32)), (.int (0 : Int32)), (.int (0 : Int32)), (.int (0 : Int32)), (.int (0 : Int32)), (.int (0 : Int32)), (.int (0 : Int32)), (.int (0 : Int32)), (.int (0 : Int32))] (.int (0 : Int32)) := (Arv.new A1003 (by decide)).pad (pad_rep [] (.int (0 : Int32)) 9)
    show OEnds p.tables e below G (T1003.setTop (mkF m 12 #[.val (.int p1), .val (.int p2), .val (.int p3), .val (.int (0 : Int32)), .val (.int v1002), .unset, .unset, .unset] [(.ref b1003)]))
    refine OEnds.st (fun _ k => XS.astore X1003.here hx rfl (hb hby at_12) rfl rfl (l' := #[.val (.int p1), .val (.int p2), .val (.int p3), .val (.int (0 : Int32)), .val (.int v1002), .val (.ref b1003), .unset, .unset]) rfl k) ?_
    show OEnds p.tables e below G (T1003.setTop (mkF m 14 #[.val (.int p1), .val (.int p2), .val (.int p3), .val (.int (0 : Int32)), .val (.int v1002), .val (.ref b1003), .unset, .unset] []))
    refine OEnds.st (fun _ k => XS.aload X1003.here hx rfl (hb hby at_14) rfl rfl k) ?_
    show OEnds p.tables e below G (T1003.setTop (mkF m 16 #[.val (.int p1), .val (.int p2), .val (.int p3), .val (.int (0 : Int32)), .val (.int v1002), .val (.ref b1003), .unset, .unset] [(.ref b1003)]))
    refine OEnds.st (fun _ k => XS.iconst X1003.here hx rfl (hb hby at_16) k) ?_
    show OEnds p.tables e below G (T1003.setTop (mkF m 17 #[.val (.int p1), .val (.int p2), .val (.int p3), .val (.int (0 : Int32)), .val (.int v1002), .val (.ref b1003), .unset, .unset] [(.int (0 : Int32)), (.ref b1003)]))
    refine OEnds.st (fun _ k => XS.iload X1003.here hx rfl (hb hby at_17) rfl k) ?_
    show OEnds p.tables e below G (T1003.setTop (mkF m 19 #[.val (.int p1), .val (.int p2), .val (.int p3), .val (.int (0 : Int32)), .val (.int v1002), .val (.ref b1003), .unset, .unset] [(.int v1002), (.int (0 : Int32)), (.ref b1003)]))
    obtain ⟨cl1005, Ar1005, q1005, S1005, N1005n, H1005, G1005⟩ := id f1004
    have hin1005 : ¬ ((0 : Int32) < 0 ∨ cl1005.slots.size ≤ ((0 : Int32)).toNatClampNeg) := inb_of S1005 ⟨by decide, by decide⟩
    obtain ⟨T1005, h1005, X1005, e1005, W1005, st1005⟩ := stB X1003 hx hZ e1003 Ar1005 (j := (0 : Int32)) hin1005 (g := (mkF m 19 #[.val (.int p1), .val (.int p2), .val (.int p3), .val (.int (0 : Int32)), .val (.int v1002), .val (.ref b1003), .unset, .unset] [(.int v1002), (.int (0 : Int32)), (.ref b1003)])) rfl rfl (hb hby at_19)
    refine OEnds.st st1005 ?_
    rw [hf8] at W1005
    have f1006 : Arv Z h1005 b1003 k1003 .byte (9 : Int32) [(.int v1002), (.int (0 : Int32)), (.int (0 : Int32)), (.int (0 : Int32)), (.int (0 : Int32)), (.int (0 : Int32)), (.int (0 : Int32)), (.int (0 : Int32)), (.int (0 : Int32))] (.int (0 : Int32)) := Arv.set Ar1005 q1005 S1005 N1005n H1005 G1005 (by rw [← hf8]; exact fits_nar_byte _) W1005 0 rfl (Nat.le_of_ble_eq_true rfl)
    have N1005 := Fr.snoc X1005 N0 ge_b1003
    have KK1005 : Keep h0 h1005 [] := KK1003.wr W1005 (Or.inr sz_b1003)
    have Z1005 := Nat.le_trans Z1003 (Keep.of_wr W1005).1
    show OEnds p.tables e below G (T1005.setTop (mkF m 20 #[.val (.int p1), .val (.int p2), .val (.int p3), .val (.int (0 : Int32)), .val (.int v1002), .val (.ref b1003), .unset, .unset] []))
    refine OEnds.st (fun _ k => XS.aload X1005.here hx rfl (hb hby at_20) rfl rfl k) ?_
    show OEnds p.tables e below G (T1005.setTop (mkF m 22 #[.val (.int p1), .val (.int p2), .val (.int p3), .val (.int (0 : Int32)), .val (.int v1002), .val (.ref b1003), .unset, .unset] [(.ref b1003)]))
    refine OEnds.st (fun _ k => XS.iconst X1005.here hx rfl (hb hby at_22) k) ?_
    show OEnds p.tables e below G (T1005.setTop (mkF m 23 #[.val (.int p1), .val (.int p2), .val (.int p3), .val (.int (0 : Int32)), .val (.int v1002), .val (.ref b1003), .unset, .unset] [(.int (1 : Int32)), (.ref b1003)]))
    refine OEnds.st (fun _ k => XS.iload X1005.here hx rfl (hb hby at_23) rfl k) ?_
    show OEnds p.tables e below G (T1005.setTop (mkF m 25 #[.val (.int p1), .val (.int p2), .val (.int p3), .val (.int (0 : Int32)), .val (.int v1002), .val (.ref b1003), .unset, .unset] [(.int v1002), (.int (1 : Int32)), (.ref b1003)]))
    obtain ⟨cl1007, Ar1007, q1007, S1007, N1007n, H1007, G1007⟩ := id f1006
    have hin1007 : ¬ ((1 : Int32) < 0 ∨ cl1007.slots.size ≤ ((1 : Int32)).toNatClampNeg) := inb_of S1007 ⟨by decide, by decide⟩
    obtain ⟨T1007, h1007, X1007, e1007, W1007, st1007⟩ := stB X1005 hx hZ e1005 Ar1007 (j := (1 : Int32)) hin1007 (g := (mkF m 25 #[.val (.int p1), .val (.int p2), .val (.int p3), .val (.int (0 : Int32)), .val (.int v1002), .val (.ref b1003), .unset, .unset] [(.int v1002), (.int (1 : Int32)), (.ref b1003)])) rfl rfl (hb hby at_25)
    refine OEnds.st st1007 ?_
    rw [hf8] at W1007
    have f1008 : Arv Z h1007 b1003 k1003 .byte (9 : Int32) [(.int v1002), (.int v1002), (.int (0 : Int32)), (.int (0 : Int32)), (.int (0 : Int32)), (.int (0 : Int32)), (.int (0 : Int32)), (.int (0 : Int32)), (.int (0 : Int32))] (.int (0 : Int32)) := Arv.set Ar1007 q1007 S1007 N1007n H1007 G1007 (by rw [← hf8]; exact fits_nar_byte _) W1007 1 rfl (Nat.le_of_ble_eq_true rfl)
    have N1007 := Fr.snoc X1007 N1005 ge_b1003
    have KK1007 : Keep h0 h1007 [] := KK1005.wr W1007 (Or.inr sz_b1003)
    have Z1007 := Nat.le_trans Z1005 (Keep.of_wr W1007).1
    show OEnds p.tables e below G (T1007.setTop (mkF m 26 #[.val (.int p1), .val (.int p2), .val (.int p3), .val (.int (0 : Int32)), .val (.int v1002), .val (.ref b1003), .unset, .unset] []))
    refine OEnds.st (fun _ k => XS.aload X1007.here hx rfl (hb hby at_26) rfl rfl k) ?_
    show OEnds p.tables e below G (T1007.setTop (mkF m 28 #[.val (.int p1), .val (.int p2), .val (.int p3), .val (.int (0 : Int32)), .val (.int v1002), .val (.ref b1003), .unset, .unset] [(.ref b1003)]))
    refine OEnds.st (fun _ k => XS.iconst X1007.here hx rfl (hb hby at_28) k) ?_
    show OEnds p.tables e below G (T1007.setTop (mkF m 29 #[.val (.int p1), .val (.int p2), .val (.int p3), .val (.int (0 : Int32)), .val (.int v1002), .val (.ref b1003), .unset, .unset] [(.int (2 : Int32)), (.ref b1003)]))
    refine OEnds.st (fun _ k => XS.iload X1007.here hx rfl (hb hby at_29) rfl k) ?_
    show OEnds p.tables e below G (T1007.setTop (mkF m 31 #[.val (.int p1), .val (.int p2), .val (.int p3), .val (.int (0 : Int32)), .val (.int v1002), .val (.ref b1003), .unset, .unset] [(.int v1002), (.int (2 : Int32)), (.ref b1003)]))
    obtain ⟨cl1009, Ar1009, q1009, S1009, N1009n, H1009, G1009⟩ := id f1008
    have hin1009 : ¬ ((2 : Int32) < 0 ∨ cl1009.slots.size ≤ ((2 : Int32)).toNatClampNeg) := inb_of S1009 ⟨by decide, by decide⟩
    obtain ⟨T1009, h1009, X1009, e1009, W1009, st1009⟩ := stB X1007 hx hZ e1007 Ar1009 (j := (2 : Int32)) hin1009 (g := (mkF m 31 #[.val (.int p1), .val (.int p2), .val (.int p3), .val (.int (0 : Int32)), .val (.int v1002), .val (.ref b1003), .unset, .unset] [(.int v1002), (.int (2 : Int32)), (.ref b1003)])) rfl rfl (hb hby at_31)
    refine OEnds.st st1009 ?_
    rw [hf8] at W1009
    have f1010 : Arv Z h1009 b1003 k1003 .byte (9 : Int32) [(.int v1002), (.int v1002), (.int v1002), (.int (0 : Int32)), (.int (0 : Int32)), (.int (0 : Int32)), (.int (0 : Int32)), (.int (0 : Int32)), (.int (0 : Int32))] (.int (0 : Int32)) := Arv.set Ar1009 q1009 S1009 N1009n H1009 G1009 (by rw [← hf8]; exact fits_nar_byte _) W1009 2 rfl (Nat.le_of_ble_eq_true rfl)
    have N1009 := Fr.snoc X1009 N1007 ge_b1003
    have KK1009 : Keep h0 h1009 [] := KK1007.wr W1009 (Or.inr sz_b1003)
    have Z1009 := Nat.le_trans Z1007 (Keep.of_wr W1009).1
    show OEnds p.tables e below G (T1009.setTop (mkF m 32 #[.val (.int p1), .val (.int p2), .val (.int p3), .val (.int (0 : Int32)), .val (.int v1002), .val (.ref b1003), .unset, .unset] []))
    refine OEnds.st (fun _ k => XS.aload X1009.here hx rfl (hb hby at_32) rfl rfl k) ?_
    show OEnds p.tables e below G (T1009.setTop (mkF m 34 #[.val (.int p1), .val (.int p2), .val (.int p3), .val (.int (0 : Int32)), .val (.int v1002), .val (.ref b1003), .unset, .unset] [(.ref b1003)]))
    refine OEnds.st (fun _ k => XS.iconst X1009.here hx rfl (hb hby at_34) k) ?_
    show OEnds p.tables e below G (T1009.setTop (mkF m 35 #[.val (.int p1), .val (.int p2), .val (.int p3), .val (.int (0 : Int32)), .val (.int v1002), .val (.ref b1003), .unset, .unset] [(.int (3 : Int32)), (.ref b1003)]))
    refine OEnds.st (fun _ k => XS.iload X1009.here hx rfl (hb hby at_35) rfl k) ?_
    show OEnds p.tables e below G (T1009.setTop (mkF m 37 #[.val (.int p1), .val (.int p2), .val (.int p3), .val (.int (0 : Int32)), .val (.int v1002), .val (.ref b1003), .unset, .unset] [(.int v1002), (.int (3 : Int32)), (.ref b1003)]))
    obtain ⟨cl1011, Ar1011, q1011, S1011, N1011n, H1011, G1011⟩ := id f1010
    have hin1011 : ¬ ((3 : Int32) < 0 ∨ cl1011.slots.size ≤ ((3 : Int32)).toNatClampNeg) := inb_of S1011 ⟨by decide, by decide⟩
    obtain ⟨T1011, h1011, X1011, e1011, W1011, st1011⟩ := stB X1009 hx hZ e1009 Ar1011 (j := (3 : Int32)) hin1011 (g := (mkF m 37 #[.val (.int p1), .val (.int p2), .val (.int p3), .val (.int (0 : Int32)), .val (.int v1002), .val (.ref b1003), .unset, .unset] [(.int v1002), (.int (3 : Int32)), (.ref b1003)])) rfl rfl (hb hby at_37)
    refine OEnds.st st1011 ?_
    rw [hf8] at W1011
    have f1012 : Arv Z h1011 b1003 k1003 .byte (9 : Int32) [(.int v1002), (.int v1002), (.int v1002), (.int v1002), (.int (0 : Int32)), (.int (0 : Int32)), (.int (0 : Int32)), (.int (0 : Int32)), (.int (0 : Int32))] (.int (0 : Int32)) := Arv.set Ar1011 q1011 S1011 N1011n H1011 G1011 (by rw [← hf8]; exact fits_nar_byte _) W1011 3 rfl (Nat.le_of_ble_eq_true rfl)
    have N1011 := Fr.snoc X1011 N1009 ge_b1003
    have KK1011 : Keep h0 h1011 [] := KK1009.wr W1011 (Or.inr sz_b1003)
    have Z1011 := Nat.le_trans Z1009 (Keep.of_wr W1011).1
    show OEnds p.tables e below G (T1011.setTop (mkF m 38 #[.val (.int p1), .val (.int p2), .val (.int p3), .val (.int (0 : Int32)), .val (.int v1002), .val (.ref b1003), .unset, .unset] []))
    refine OEnds.st (fun _ k => XS.aload X1011.here hx rfl (hb hby at_38) rfl rfl k) ?_
    show OEnds p.tables e below G (T1011.setTop (mkF m 40 #[.val (.int p1), .val (.int p2), .val (.int p3), .val (.int (0 : Int32)), .val (.int v1002), .val (.ref b1003), .unset, .unset] [(.ref b1003)]))
    refine OEnds.st (fun _ k => XS.iconst X1011.here hx rfl (hb hby at_40) k) ?_
    show OEnds p.tables e below G (T1011.setTop (mkF m 41 #[.val (.int p1), .val (.int p2), .val (.int p3), .val (.int (0 : Int32)), .val (.int v1002), .val (.ref b1003), .unset, .unset] [(.int (4 : Int32)), (.ref b1003)]))
    refine OEnds.st (fun _ k => XS.iload X1011.here hx rfl (hb hby at_41) rfl k) ?_
    show OEnds p.tables e below G (T1011.setTop (mkF m 43 #[.val (.int p1), .val (.int p2), .val (.int p3), .val (.int (0 : Int32)), .val (.int v1002), .val (.ref b1003), .unset, .unset] [(.int v1002), (.int (4 : Int32)), (.ref b1003)]))
    obtain ⟨cl1013, Ar1013, q1013, S1013, N1013n, H1013, G1013⟩ := id f1012
    have hin1013 : ¬ ((4 : Int32) < 0 ∨ cl1013.slots.size ≤ ((4 : Int32)).toNatClampNeg) := inb_of S1013 ⟨by decide, by decide⟩
    obtain ⟨T1013, h1013, X1013, e1013, W1013, st1013⟩ := stB X1011 hx hZ e1011 Ar1013 (j := (4 : Int32)) hin1013 (g := (mkF m 43 #[.val (.int p1), .val (.int p2), .val (.int p3), .val (.int (0 : Int32)), .val (.int v1002), .val (.ref b1003), .unset, .unset] [(.int v1002), (.int (4 : Int32)), (.ref b1003)])) rfl rfl (hb hby at_43)
    refine OEnds.st st1013 ?_
    rw [hf8] at W1013
    have f1014 : Arv Z h1013 b1003 k1003 .byte (9 : Int32) [(.int v1002), (.int v1002), (.int v1002), (.int v1002), (.int v1002), (.int (0 : Int32)), (.int (0 : Int32)), (.int (0 : Int32)), (.int (0 : Int32))] (.int (0 : Int32)) := Arv.set Ar1013 q1013 S1013 N1013n H1013 G1013 (by rw [← hf8]; exact fits_nar_byte _) W1013 4 rfl (Nat.le_of_ble_eq_true rfl)
    have N1013 := Fr.snoc X1013 N1011 ge_b1003
    have KK1013 : Keep h0 h1013 [] := KK1011.wr W1013 (Or.inr sz_b1003)
    have Z1013 := Nat.le_trans Z1011 (Keep.of_wr W1013).1
    show OEnds p.tables e below G (T1013.setTop (mkF m 44 #[.val (.int p1), .val (.int p2), .val (.int p3), .val (.int (0 : Int32)), .val (.int v1002), .val (.ref b1003), .unset, .unset] []))
    refine OEnds.st (fun _ k => XS.aload X1013.here hx rfl (hb hby at_44) rfl rfl k) ?_
    show OEnds p.tables e below G (T1013.setTop (mkF m 46 #[.val (.int p1), .val (.int p2), .val (.int p3), .val (.int (0 : Int32)), .val (.int v1002), .val (.ref b1003), .unset, .unset] [(.ref b1003)]))
    refine OEnds.st (fun _ k => XS.iconst X1013.here hx rfl (hb hby at_46) k) ?_
    show OEnds p.tables e below G (T1013.setTop (mkF m 47 #[.val (.int p1), .val (.int p2), .val (.int p3), .val (.int (0 : Int32)), .val (.int v1002), .val (.ref b1003), .unset, .unset] [(.int (5 : Int32)), (.ref b1003)]))
    refine OEnds.st (fun _ k => XS.iload X1013.here hx rfl (hb hby at_47) rfl k) ?_
    show OEnds p.tables e below G (T1013.setTop (mkF m 49 #[.val (.int p1), .val (.int p2), .val (.int p3), .val (.int (0 : Int32)), .val (.int v1002), .val (.ref b1003), .unset, .unset] [(.int v1002), (.int (5 : Int32)), (.ref b1003)]))
    obtain ⟨cl1015, Ar1015, q1015, S1015, N1015n, H1015, G1015⟩ := id f1014
    have hin1015 : ¬ ((5 : Int32) < 0 ∨ cl1015.slots.size ≤ ((5 : Int32)).toNatClampNeg) := inb_of S1015 ⟨by decide, by decide⟩
    obtain ⟨T1015, h1015, X1015, e1015, W1015, st1015⟩ := stB X1013 hx hZ e1013 Ar1015 (j := (5 : Int32)) hin1015 (g := (mkF m 49 #[.val (.int p1), .val (.int p2), .val (.int p3), .val (.int (0 : Int32)), .val (.int v1002), .val (.ref b1003), .unset, .unset] [(.int v1002), (.int (5 : Int32)), (.ref b1003)])) rfl rfl (hb hby at_49)
    refine OEnds.st st1015 ?_
    rw [hf8] at W1015
    have f1016 : Arv Z h1015 b1003 k1003 .byte (9 : Int32) [(.int v1002), (.int v1002), (.int v1002), (.int v1002), (.int v1002), (.int v1002), (.int (0 : Int32)), (.int (0 : Int32)), (.int (0 : Int32))] (.int (0 : Int32)) := Arv.set Ar1015 q1015 S1015 N1015n H1015 G1015 (by rw [← hf8]; exact fits_nar_byte _) W1015 5 rfl (Nat.le_of_ble_eq_true rfl)
    have N1015 := Fr.snoc X1015 N1013 ge_b1003
    have KK1015 : Keep h0 h1015 [] := KK1013.wr W1015 (Or.inr sz_b1003)
    have Z1015 := Nat.le_trans Z1013 (Keep.of_wr W1015).1
    show OEnds p.tables e below G (T1015.setTop (mkF m 50 #[.val (.int p1), .val (.int p2), .val (.int p3), .val (.int (0 : Int32)), .val (.int v1002), .val (.ref b1003), .unset, .unset] []))
    refine OEnds.st (fun _ k => XS.aload X1015.here hx rfl (hb hby at_50) rfl rfl k) ?_
    show OEnds p.tables e below G (T1015.setTop (mkF m 52 #[.val (.int p1), .val (.int p2), .val (.int p3), .val (.int (0 : Int32)), .val (.int v1002), .val (.ref b1003), .unset, .unset] [(.ref b1003)]))
    refine OEnds.st (fun _ k => XS.bipush X1015.here hx rfl (hb hby at_52) k) ?_
    show OEnds p.tables e below G (T1015.setTop (mkF m 54 #[.val (.int p1), .val (.int p2), .val (.int p3), .val (.int (0 : Int32)), .val (.int v1002), .val (.ref b1003), .unset, .unset] [(.int (6 : Int32)), (.ref b1003)]))
    refine OEnds.st (fun _ k => XS.iload X1015.here hx rfl (hb hby at_54) rfl k) ?_
    show OEnds p.tables e below G (T1015.setTop (mkF m 56 #[.val (.int p1), .val (.int p2), .val (.int p3), .val (.int (0 : Int32)), .val (.int v1002), .val (.ref b1003), .unset, .unset] [(.int v1002), (.int (6 : Int32)), (.ref b1003)]))
    obtain ⟨cl1017, Ar1017, q1017, S1017, N1017n, H1017, G1017⟩ := id f1016
    have hin1017 : ¬ ((6 : Int32) < 0 ∨ cl1017.slots.size ≤ ((6 : Int32)).toNatClampNeg) := inb_of S1017 ⟨by decide, by decide⟩
    obtain ⟨T1017, h1017, X1017, e1017, W1017, st1017⟩ := stB X1015 hx hZ e1015 Ar1017 (j := (6 : Int32)) hin1017 (g := (mkF m 56 #[.val (.int p1), .val (.int p2), .val (.int p3), .val (.int (0 : Int32)), .val (.int v1002), .val (.ref b1003), .unset, .unset] [(.int v1002), (.int (6 : Int32)), (.ref b1003)])) rfl rfl (hb hby at_56)
    refine OEnds.st st1017 ?_
    rw [hf8] at W1017
    have f1018 : Arv Z h1017 b1003 k1003 .byte (9 : Int32) [(.int v1002), (.int v1002), (.int v1002), (.int v1002), (.int v1002), (.int v1002), (.int v1002), (.int (0 : Int32)), (.int (0 : Int32))] (.int (0 : Int32)) := Arv.set Ar1017 q1017 S1017 N1017n H1017 G1017 (by rw [← hf8]; exact fits_nar_byte _) W1017 6 rfl (Nat.le_of_ble_eq_true rfl)
    have N1017 := Fr.snoc X1017 N1015 ge_b1003
    have KK1017 : Keep h0 h1017 [] := KK1015.wr W1017 (Or.inr sz_b1003)
    have Z1017 := Nat.le_trans Z1015 (Keep.of_wr W1017).1
    show OEnds p.tables e below G (T1017.setTop (mkF m 57 #[.val (.int p1), .val (.int p2), .val (.int p3), .val (.int (0 : Int32)), .val (.int v1002), .val (.ref b1003), .unset, .unset] []))
    refine OEnds.st (fun _ k => XS.aload X1017.here hx rfl (hb hby at_57) rfl rfl k) ?_
    show OEnds p.tables e below G (T1017.setTop (mkF m 59 #[.val (.int p1), .val (.int p2), .val (.int p3), .val (.int (0 : Int32)), .val (.int v1002), .val (.ref b1003), .unset, .unset] [(.ref b1003)]))
    refine OEnds.st (fun _ k => XS.bipush X1017.here hx rfl (hb hby at_59) k) ?_
    show OEnds p.tables e below G (T1017.setTop (mkF m 61 #[.val (.int p1), .val (.int p2), .val (.int p3), .val (.int (0 : Int32)), .val (.int v1002), .val (.ref b1003), .unset, .unset] [(.int (7 : Int32)), (.ref b1003)]))
    refine OEnds.st (fun _ k => XS.iload X1017.here hx rfl (hb hby at_61) rfl k) ?_
    show OEnds p.tables e below G (T1017.setTop (mkF m 63 #[.val (.int p1), .val (.int p2), .val (.int p3), .val (.int (0 : Int32)), .val (.int v1002), .val (.ref b1003), .unset, .unset] [(.int v1002), (.int (7 : Int32)), (.ref b1003)]))
    obtain ⟨cl1019, Ar1019, q1019, S1019, N1019n, H1019, G1019⟩ := id f1018
    have hin1019 : ¬ ((7 : Int32) < 0 ∨ cl1019.slots.size ≤ ((7 : Int32)).toNatClampNeg) := inb_of S1019 ⟨by decide, by decide⟩
    obtain ⟨T1019, h1019, X1019, e1019, W1019, st1019⟩ := stB X1017 hx hZ e1017 Ar1019 (j := (7 : Int32)) hin1019 (g := (mkF m 63 #[.val (.int p1), .val (.int p2), .val (.int p3), .val (.int (0 : Int32)), .val (.int v1002), .val (.ref b1003), .unset, .unset] [(.int v1002), (.int (7 : Int32)), (.ref b1003)])) rfl rfl (hb hby at_63)
    refine OEnds.st st1019 ?_
    rw [hf8] at W1019
    have f1020 : Arv Z h1019 b1003 k1003 .byte (9 : Int32) [(.int v1002), (.int v1002), (.int v1002), (.int v1002), (.int v1002), (.int v1002), (.int v1002), (.int v1002), (.int (0 : Int32))] (.int (0 : Int32)) := Arv.set Ar1019 q1019 S1019 N1019n H1019 G1019 (by rw [← hf8]; exact fits_nar_byte _) W1019 7 rfl (Nat.le_of_ble_eq_true rfl)
    have N1019 := Fr.snoc X1019 N1017 ge_b1003
    have KK1019 : Keep h0 h1019 [] := KK1017.wr W1019 (Or.inr sz_b1003)
    have Z1019 := Nat.le_trans Z1017 (Keep.of_wr W1019).1
    show OEnds p.tables e below G (T1019.setTop (mkF m 64 #[.val (.int p1), .val (.int p2), .val (.int p3), .val (.int (0 : Int32)), .val (.int v1002), .val (.ref b1003), .unset, .unset] []))
    refine OEnds.st (fun _ k => XS.aload X1019.here hx rfl (hb hby at_64) rfl rfl k) ?_
    show OEnds p.tables e below G (T1019.setTop (mkF m 66 #[.val (.int p1), .val (.int p2), .val (.int p3), .val (.int (0 : Int32)), .val (.int v1002), .val (.ref b1003), .unset, .unset] [(.ref b1003)]))
    refine OEnds.st (fun _ k => XS.bipush X1019.here hx rfl (hb hby at_66) k) ?_
    show OEnds p.tables e below G (T1019.setTop (mkF m 68 #[.val (.int p1), .val (.int p2), .val (.int p3), .val (.int (0 : Int32)), .val (.int v1002), .val (.ref b1003), .unset, .unset] [(.int (8 : Int32)), (.ref b1003)]))
    refine OEnds.st (fun _ k => XS.iload X1019.here hx rfl (hb hby at_68) rfl k) ?_
    show OEnds p.tables e below G (T1019.setTop (mkF m 70 #[.val (.int p1), .val (.int p2), .val (.int p3), .val (.int (0 : Int32)), .val (.int v1002), .val (.ref b1003), .unset, .unset] [(.int v1002), (.int (8 : Int32)), (.ref b1003)]))
    obtain ⟨cl1021, Ar1021, q1021, S1021, N1021n, H1021, G1021⟩ := id f1020
    have hin1021 : ¬ ((8 : Int32) < 0 ∨ cl1021.slots.size ≤ ((8 : Int32)).toNatClampNeg) := inb_of S1021 ⟨by decide, by decide⟩
    obtain ⟨T1021, h1021, X1021, e1021, W1021, st1021⟩ := stB X1019 hx hZ e1019 Ar1021 (j := (8 : Int32)) hin1021 (g := (mkF m 70 #[.val (.int p1), .val (.int p2), .val (.int p3), .val (.int (0 : Int32)), .val (.int v1002), .val (.ref b1003), .unset, .unset] [(.int v1002), (.int (8 : Int32)), (.ref b1003)])) rfl rfl (hb hby at_70)
    refine OEnds.st st1021 ?_
    rw [hf8] at W1021
    have f1022 : Arv Z h1021 b1003 k1003 .byte (9 : Int32) [(.int v1002), (.int v1002), (.int v1002), (.int v1002), (.int v1002), (.int v1002), (.int v1002), (.int v1002), (.int v1002)] (.int (0 : Int32)) := Arv.set Ar1021 q1021 S1021 N1021n H1021 G1021 (by rw [← hf8]; exact fits_nar_byte _) W1021 8 rfl (Nat.le_of_ble_eq_true rfl)
    have N1021 := Fr.snoc X1021 N1019 ge_b1003
    have KK1021 : Keep h0 h1021 [] := KK1019.wr W1021 (Or.inr sz_b1003)
    have Z1021 := Nat.le_trans Z1019 (Keep.of_wr W1021).1
    show OEnds p.tables e below G (T1021.setTop (mkF m 71 #[.val (.int p1), .val (.int p2), .val (.int p3), .val (.int (0 : Int32)), .val (.int v1002), .val (.ref b1003), .unset, .unset] []))
    refine OEnds.st (fun _ k => XS.aload X1021.here hx rfl (hb hby at_71) rfl rfl k) ?_
    show OEnds p.tables e below G (T1021.setTop (mkF m 73 #[.val (.int p1), .val (.int p2), .val (.int p3), .val (.int (0 : Int32)), .val (.int v1002), .val (.ref b1003), .unset, .unset] [(.ref b1003)]))
    refine OEnds.st (fun _ k => XS.iloadN X1021.here hx rfl (hb hby at_73) rfl k) ?_
    show OEnds p.tables e below G (T1021.setTop (mkF m 74 #[.val (.int p1), .val (.int p2), .val (.int p3), .val (.int (0 : Int32)), .val (.int v1002), .val (.ref b1003), .unset, .unset] [(.int (0 : Int32)), (.ref b1003)]))
    refine OEnds.st (fun _ k => XS.iloadN X1021.here hx rfl (hb hby at_74) rfl k) ?_
    show OEnds p.tables e below G (T1021.setTop (mkF m 75 #[.val (.int p1), .val (.int p2), .val (.int p3), .val (.int (0 : Int32)), .val (.int v1002), .val (.ref b1003), .unset, .unset] [(.int p1), (.int (0 : Int32)), (.ref b1003)]))
    obtain ⟨_, _, ⟨T1023, L1023, k1023c, n1023c⟩, -, X1023, ⟨Lc1023, hQ1023, l1023, y1023, z1023⟩, st1023⟩ := Jvm.LawKit.callS X1021 hx (y := (⟨"com/example/words_to_weights/wordstoweights/index/IndexFormat", "putNumber", "([BII)I"⟩ : MethodName)) hown (mvT hZ (hw _ (List.mem_of_getElem? (i := 1) rfl))) (mvT hZ (hw _ (List.mem_of_getElem? (i := 2) rfl))) (mvT hZ (hw _ (List.mem_of_getElem? (i := 3) rfl))) (mvT hZ (hw _ (List.mem_of_getElem? (i := 4) rfl))) (by decide) (backOf (W := 0) (rmput0 l Z a0 hw [] b1003 p1 k1003 v1002 h1021 n0 Z1021 f1022 ge_b1003 hf8) hZ (hw _ (List.mem_of_getElem? (i := 4) rfl)) (hw _ (List.mem_of_getElem? (i := 3) rfl)) (by decide) (by decide)) (g := (mkF m 75 #[.val (.int p1), .val (.int p2), .val (.int p3), .val (.int (0 : Int32)), .val (.int v1002), .val (.ref b1003), .unset, .unset] [(.int p1), (.int (0 : Int32)), (.ref b1003)])) rfl (by rw [hml]; rfl) (argsL := [(.ref b1003), (.int (0 : Int32)), (.int p1)]) (rest := []) (lenOf pd_0 rfl) rfl (by show 2 * 0 + _ ≤ _; exact Nat.le_of_eq rfl) (hb hby at_75) (fun _ _ => ⟨rfl, e1021, (by decide : 0 + 1 + 0 ≤ _), (by decide : 0 + 9 + 0 ≤ _)⟩)
    dsimp only [Pt.U, Pt.locs, Pt.cells, Pt.slots] at X1023 l1023 y1023 z1023 st1023 hQ1023
    subst l1023 y1023 z1023
    obtain ⟨rfl, N1023q, p1024, p1025⟩ := hQ1023
    have N1023 := Fr.app N1021 N1023q
    refine OEnds.st st1023 ?_
    have KK1023 : Keep h0 T1023.heap [] := KK1021.trans p1024 (fun x hx => by cases List.mem_singleton.mp hx; exact Or.inr sz_b1003)
    have Z1023 := Nat.le_trans Z1021 p1024.1
    show OEnds p.tables e below G (T1023.setTop (mkF m 78 #[.val (.int p1), .val (.int p2), .val (.int p3), .val (.int (0 : Int32)), .val (.int v1002), .val (.ref b1003), .unset, .unset] [(.int ((0 : Int32) + own_cnt p1))]))
    refine OEnds.st (fun _ k => XS.istore X1023.here hx rfl (hb hby at_78) rfl (l' := #[.val (.int p1), .val (.int p2), .val (.int p3), .val (.int (0 : Int32)), .val (.int v1002), .val (.ref b1003), .val (.int ((0 : Int32) + own_cnt p1)), .unset]) rfl k) ?_
    show OEnds p.tables e below G (T1023.setTop (mkF m 80 #[.val (.int p1), .val (.int p2), .val (.int p3), .val (.int (0 : Int32)), .val (.int v1002), .val (.ref b1003), .val (.int ((0 : Int32) + own_cnt p1)), .unset] []))
    generalize hv_v1027 : ((0 : Int32) + own_cnt p1) = v1027
    show OEnds p.tables e below G (T1023.setTop (mkF m 80 #[.val (.int p1), .val (.int p2), .val (.int p3), .val (.int (0 : Int32)), .val (.int v1002), .val (.ref b1003), .val (.int v1027), .unset] []))
    refine OEnds.st (fun _ k => XS.iloadN X1023.here hx rfl (hb hby at_80) rfl k) ?_
    show OEnds p.tables e below G (T1023.setTop (mkF m 81 #[.val (.int p1), .val (.int p2), .val (.int p3), .val (.int (0 : Int32)), .val (.int v1002), .val (.ref b1003), .val (.int v1027), .unset] [(.int p1)]))
    obtain ⟨_, _, ⟨T1028, L1028, k1028c, n1028c⟩, -, X1028, ⟨Lc1028, hQ1028, l1028, y1028, z1028⟩, st1028⟩ := Jvm.LawKit.callS X1023 hx (y := (⟨"com/example/words_to_weights/wordstoweights/index/IndexFormatPutNumberPinLaw", "length", "(I)I"⟩ : MethodName)) hown (mvT hZ (hw _ (List.mem_of_getElem? (i := 5) rfl))) (mvT hZ (hw _ (List.mem_of_getElem? (i := 6) rfl))) (mvT hZ (hw _ (List.mem_of_getElem? (i := 7) rfl))) (mvT hZ (hw _ (List.mem_of_getElem? (i := 8) rfl))) (by decide) (backOf (W := 0) (rm2 l Z a0 hw [] p1 T1023.heap n0 Z1023 ) hZ (hw _ (List.mem_of_getElem? (i := 8) rfl)) (hw _ (List.mem_of_getElem? (i := 7) rfl)) (by decide) (by decide)) (g := (mkF m 81 #[.val (.int p1), .val (.int p2), .val (.int p3), .val (.int (0 : Int32)), .val (.int v1002), .val (.ref b1003), .val (.int v1027), .unset] [(.int p1)])) rfl (by rw [hml]; rfl) (argsL := [(.int p1)]) (rest := []) (lenOf pd_1 rfl) rfl (by show 2 * 0 + _ ≤ _; exact Nat.le_of_eq rfl) (hb hby at_81) (fun _ _ => ⟨rfl, rfl, (by decide : 0 + 1 + 0 + 0 ≤ _), (by decide : 0 + 9 + 0 + 0 ≤ _)⟩)
    dsimp only [Pt.U, Pt.locs, Pt.cells, Pt.slots] at X1028 l1028 y1028 z1028 st1028 hQ1028
    subst l1028 y1028 z1028
    obtain ⟨rfl, N1028q, e1028⟩ := hQ1028
    have N1028 := Fr.app N1023 N1028q
    refine OEnds.st st1028 ?_
    show OEnds p.tables e below G (T1028.setTop (mkF m 84 #[.val (.int p1), .val (.int p2), .val (.int p3), .val (.int (0 : Int32)), .val (.int v1002), .val (.ref b1003), .val (.int v1027), .unset] [(.int (own_len p1))]))
    refine OEnds.st (fun _ k => XS.istore X1028.here hx rfl (hb hby at_84) rfl (l' := #[.val (.int p1), .val (.int p2), .val (.int p3), .val (.int (0 : Int32)), .val (.int v1002), .val (.ref b1003), .val (.int v1027), .val (.int (own_len p1))]) rfl k) ?_
    show OEnds p.tables e below G (T1028.setTop (mkF m 86 #[.val (.int p1), .val (.int p2), .val (.int p3), .val (.int (0 : Int32)), .val (.int v1002), .val (.ref b1003), .val (.int v1027), .val (.int (own_len p1))] []))
    generalize hv_v1029 : (own_len p1) = v1029
    show OEnds p.tables e below G (T1028.setTop (mkF m 86 #[.val (.int p1), .val (.int p2), .val (.int p3), .val (.int (0 : Int32)), .val (.int v1002), .val (.ref b1003), .val (.int v1027), .val (.int v1029)] []))
    refine OEnds.st (fun _ k => XS.iload X1028.here hx rfl (hb hby at_86) rfl k) ?_
    show OEnds p.tables e below G (T1028.setTop (mkF m 88 #[.val (.int p1), .val (.int p2), .val (.int p3), .val (.int (0 : Int32)), .val (.int v1002), .val (.ref b1003), .val (.int v1027), .val (.int v1029)] [(.int v1027)]))
    refine OEnds.st (fun _ k => XS.iloadN X1028.here hx rfl (hb hby at_88) rfl k) ?_
    show OEnds p.tables e below G (T1028.setTop (mkF m 89 #[.val (.int p1), .val (.int p2), .val (.int p3), .val (.int (0 : Int32)), .val (.int v1002), .val (.ref b1003), .val (.int v1027), .val (.int v1029)] [(.int (0 : Int32)), (.int v1027)]))
    refine OEnds.st (fun _ k => XS.iload X1028.here hx rfl (hb hby at_89) rfl k) ?_
    show OEnds p.tables e below G (T1028.setTop (mkF m 91 #[.val (.int p1), .val (.int p2), .val (.int p3), .val (.int (0 : Int32)), .val (.int v1002), .val (.ref b1003), .val (.int v1027), .val (.int v1029)] [(.int v1029), (.int (0 : Int32)), (.int v1027)]))
    refine OEnds.st (fun _ k => XS.iadd X1028.here hx rfl (hb hby at_91) rfl k) ?_
    show OEnds p.tables e below G (T1028.setTop (mkF m 92 #[.val (.int p1), .val (.int p2), .val (.int p3), .val (.int (0 : Int32)), .val (.int v1002), .val (.ref b1003), .val (.int v1027), .val (.int v1029)] [(.int ((0 : Int32) + v1029)), (.int v1027)]))
    have hc92_1030 : v1027 = ((0 : Int32) + v1029) := by rw [← hv_v1027, ← hv_v1029, own_cnt_len]
    refine OEnds.st (fun _ k => XS.icmpYes X1028.here hx rfl (pc0 := 92) (pc' := 97) rfl (hb hby at_92) rfl (teq hc92_1030).1 (by decide) (by decide) k) ?_
    show OEnds p.tables e below G (T1028.setTop (mkF m 97 #[.val (.int p1), .val (.int p2), .val (.int p3), .val (.int (0 : Int32)), .val (.int v1002), .val (.ref b1003), .val (.int v1027), .val (.int v1029)] []))
    refine OEnds.st (fun _ k => XS.aload X1028.here hx rfl (hb hby at_97) rfl rfl k) ?_
    show OEnds p.tables e below G (T1028.setTop (mkF m 99 #[.val (.int p1), .val (.int p2), .val (.int p3), .val (.int (0 : Int32)), .val (.int v1002), .val (.ref b1003), .val (.int v1027), .val (.int v1029)] [(.ref b1003)]))
    refine OEnds.st (fun _ k => XS.iconst X1028.here hx rfl (hb hby at_99) k) ?_
    show OEnds p.tables e below G (T1028.setTop (mkF m 100 #[.val (.int p1), .val (.int p2), .val (.int p3), .val (.int (0 : Int32)), .val (.int v1002), .val (.ref b1003), .val (.int v1027), .val (.int v1029)] [(.int (0 : Int32)), (.ref b1003)]))
    refine OEnds.st (fun _ k => XS.iloadN X1028.here hx rfl (hb hby at_100) rfl k) ?_
    show OEnds p.tables e below G (T1028.setTop (mkF m 101 #[.val (.int p1), .val (.int p2), .val (.int p3), .val (.int (0 : Int32)), .val (.int v1002), .val (.ref b1003), .val (.int v1027), .val (.int v1029)] [(.int (0 : Int32)), (.int (0 : Int32)), (.ref b1003)]))
    refine OEnds.st (fun _ k => XS.iload X1028.here hx rfl (hb hby at_101) rfl k) ?_
    show OEnds p.tables e below G (T1028.setTop (mkF m 103 #[.val (.int p1), .val (.int p2), .val (.int p3), .val (.int (0 : Int32)), .val (.int v1002), .val (.ref b1003), .val (.int v1027), .val (.int v1029)] [(.int v1029), (.int (0 : Int32)), (.int (0 : Int32)), (.ref b1003)]))
    refine OEnds.st (fun _ k => XS.iloadN X1028.here hx rfl (hb hby at_103) rfl k) ?_
    show OEnds p.tables e below G (T1028.setTop (mkF m 104 #[.val (.int p1), .val (.int p2), .val (.int p3), .val (.int (0 : Int32)), .val (.int v1002), .val (.ref b1003), .val (.int v1027), .val (.int v1029)] [(.int p1), (.int v1029), (.int (0 : Int32)), (.int (0 : Int32)), (.ref b1003)]))
    refine OEnds.st (fun _ k => XS.iload X1028.here hx rfl (hb hby at_104) rfl k) ?_
    show OEnds p.tables e below G (T1028.setTop (mkF m 106 #[.val (.int p1), .val (.int p2), .val (.int p3), .val (.int (0 : Int32)), .val (.int v1002), .val (.ref b1003), .val (.int v1027), .val (.int v1029)] [(.int v1002), (.int p1), (.int v1029), (.int (0 : Int32)), (.int (0 : Int32)), (.ref b1003)]))
    obtain ⟨_, _, ⟨T1031, L1031, k1031c, n1031c⟩, -, X1031, ⟨Lc1031, hQ1031, l1031, y1031, z1031⟩, st1031⟩ := Jvm.LawKit.callS X1028 hx (y := (⟨"com/example/words_to_weights/wordstoweights/index/IndexFormatPutNumberPinLaw", "at", "([BIIIIB)Z"⟩ : MethodName)) hown (mvT hZ (hw _ (List.mem_of_getElem? (i := 9) rfl))) (mvT hZ (hw _ (List.mem_of_getElem? (i := 10) rfl))) (mvT hZ (hw _ (List.mem_of_getElem? (i := 7) rfl))) (mvT hZ (hw _ (List.mem_of_getElem? (i := 11) rfl))) (by decide) (backOf (W := 0) (rm3 l Z a0 hw [] b1003 (0 : Int32) (0 : Int32) v1029 p1 v1002 k1003 (own_els 0 p1 v1002) (own_el 0 0 p1 v1002) T1023.heap n0 Z1023 p1025 (by decide) (by decide) rfl) hZ (hw _ (List.mem_of_getElem? (i := 11) rfl)) (hw _ (List.mem_of_getElem? (i := 7) rfl)) (by decide) (by decide)) (g := (mkF m 106 #[.val (.int p1), .val (.int p2), .val (.int p3), .val (.int (0 : Int32)), .val (.int v1002), .val (.ref b1003), .val (.int v1027), .val (.int v1029)] [(.int v1002), (.int p1), (.int v1029), (.int (0 : Int32)), (.int (0 : Int32)), (.ref b1003)])) rfl (by rw [hml]; rfl) (argsL := [(.ref b1003), (.int (0 : Int32)), (.int (0 : Int32)), (.int v1029), (.int p1), (.int v1002)]) (rest := []) (lenOf pd_2 rfl) rfl (by show 2 * 0 + _ ≤ _; exact Nat.le_of_eq rfl) (hb hby at_106) (fun _ _ => ⟨rfl, e1028, (by decide : 0 + 1 + 0 + 0 + 0 ≤ _), (by decide : 0 + 9 + 0 + 0 + 0 ≤ _)⟩)
    dsimp only [Pt.U, Pt.locs, Pt.cells, Pt.slots] at X1031 l1031 y1031 z1031 st1031 hQ1031
    subst l1031 y1031 z1031
    obtain ⟨rfl, N1031q, e1031⟩ := hQ1031
    have N1031 := Fr.app N1028 N1031q
    refine OEnds.st st1031 ?_
    show OEnds p.tables e below G (T1031.setTop (mkF m 109 #[.val (.int p1), .val (.int p2), .val (.int p3), .val (.int (0 : Int32)), .val (.int v1002), .val (.ref b1003), .val (.int v1027), .val (.int v1029)] [(.int (own_at (0 : Int32) (0 : Int32) v1029 p1 v1002 (own_el 0 0 p1 v1002)))]))
    have hc109_1032 : ¬ ((own_at (0 : Int32) (0 : Int32) v1029 p1 v1002 (own_el 0 0 p1 v1002)) = (0 : Int32)) := by rw [← hv_v1029, own_ok_0_0 p1 v1002]; decide
    refine OEnds.st (fun _ k => XS.ifNo X1031.here hx rfl (hb hby at_109) rfl ((if0 _ _).trans (feq hc109_1032).1) k) ?_
    show OEnds p.tables e below G (T1031.setTop (mkF m 112 #[.val (.int p1), .val (.int p2), .val (.int p3), .val (.int (0 : Int32)), .val (.int v1002), .val (.ref b1003), .val (.int v1027), .val (.int v1029)] []))
    refine OEnds.st (fun _ k => XS.aload X1031.here hx rfl (hb hby at_112) rfl rfl k) ?_
    show OEnds p.tables e below G (T1031.setTop (mkF m 114 #[.val (.int p1), .val (.int p2), .val (.int p3), .val (.int (0 : Int32)), .val (.int v1002), .val (.ref b1003), .val (.int v1027), .val (.int v1029)] [(.ref b1003)]))
    refine OEnds.st (fun _ k => XS.iconst X1031.here hx rfl (hb hby at_114) k) ?_
    show OEnds p.tables e below G (T1031.setTop (mkF m 115 #[.val (.int p1), .val (.int p2), .val (.int p3), .val (.int (0 : Int32)), .val (.int v1002), .val (.ref b1003), .val (.int v1027), .val (.int v1029)] [(.int (1 : Int32)), (.ref b1003)]))
    refine OEnds.st (fun _ k => XS.iloadN X1031.here hx rfl (hb hby at_115) rfl k) ?_
    show OEnds p.tables e below G (T1031.setTop (mkF m 116 #[.val (.int p1), .val (.int p2), .val (.int p3), .val (.int (0 : Int32)), .val (.int v1002), .val (.ref b1003), .val (.int v1027), .val (.int v1029)] [(.int (0 : Int32)), (.int (1 : Int32)), (.ref b1003)]))
    refine OEnds.st (fun _ k => XS.iload X1031.here hx rfl (hb hby at_116) rfl k) ?_
    show OEnds p.tables e below G (T1031.setTop (mkF m 118 #[.val (.int p1), .val (.int p2), .val (.int p3), .val (.int (0 : Int32)), .val (.int v1002), .val (.ref b1003), .val (.int v1027), .val (.int v1029)] [(.int v1029), (.int (0 : Int32)), (.int (1 : Int32)), (.ref b1003)]))
    refine OEnds.st (fun _ k => XS.iloadN X1031.here hx rfl (hb hby at_118) rfl k) ?_
    show OEnds p.tables e below G (T1031.setTop (mkF m 119 #[.val (.int p1), .val (.int p2), .val (.int p3), .val (.int (0 : Int32)), .val (.int v1002), .val (.ref b1003), .val (.int v1027), .val (.int v1029)] [(.int p1), (.int v1029), (.int (0 : Int32)), (.int (1 : Int32)), (.ref b1003)]))
    refine OEnds.st (fun _ k => XS.iload X1031.here hx rfl (hb hby at_119) rfl k) ?_
    show OEnds p.tables e below G (T1031.setTop (mkF m 121 #[.val (.int p1), .val (.int p2), .val (.int p3), .val (.int (0 : Int32)), .val (.int v1002), .val (.ref b1003), .val (.int v1027), .val (.int v1029)] [(.int v1002), (.int p1), (.int v1029), (.int (0 : Int32)), (.int (1 : Int32)), (.ref b1003)]))
    obtain ⟨_, _, ⟨T1033, L1033, k1033c, n1033c⟩, -, X1033, ⟨Lc1033, hQ1033, l1033, y1033, z1033⟩, st1033⟩ := Jvm.LawKit.callS X1031 hx (y := (⟨"com/example/words_to_weights/wordstoweights/index/IndexFormatPutNumberPinLaw", "at", "([BIIIIB)Z"⟩ : MethodName)) hown (mvT hZ (hw _ (List.mem_of_getElem? (i := 9) rfl))) (mvT hZ (hw _ (List.mem_of_getElem? (i := 10) rfl))) (mvT hZ (hw _ (List.mem_of_getElem? (i := 7) rfl))) (mvT hZ (hw _ (List.mem_of_getElem? (i := 11) rfl))) (by decide) (backOf (W := 0) (rm3 l Z a0 hw [] b1003 (1 : Int32) (0 : Int32) v1029 p1 v1002 k1003 (own_els 0 p1 v1002) (own_el 0 1 p1 v1002) T1023.heap n0 Z1023 p1025 (by decide) (by decide) rfl) hZ (hw _ (List.mem_of_getElem? (i := 11) rfl)) (hw _ (List.mem_of_getElem? (i := 7) rfl)) (by decide) (by decide)) (g := (mkF m 121 #[.val (.int p1), .val (.int p2), .val (.int p3), .val (.int (0 : Int32)), .val (.int v1002), .val (.ref b1003), .val (.int v1027), .val (.int v1029)] [(.int v1002), (.int p1), (.int v1029), (.int (0 : Int32)), (.int (1 : Int32)), (.ref b1003)])) rfl (by rw [hml]; rfl) (argsL := [(.ref b1003), (.int (1 : Int32)), (.int (0 : Int32)), (.int v1029), (.int p1), (.int v1002)]) (rest := []) (lenOf pd_2 rfl) rfl (by show 2 * 0 + _ ≤ _; exact Nat.le_of_eq rfl) (hb hby at_121) (fun _ _ => ⟨rfl, e1031, (by decide : 0 + 1 + 0 + 0 + 0 + 0 ≤ _), (by decide : 0 + 9 + 0 + 0 + 0 + 0 ≤ _)⟩)
    dsimp only [Pt.U, Pt.locs, Pt.cells, Pt.slots] at X1033 l1033 y1033 z1033 st1033 hQ1033
    subst l1033 y1033 z1033
    obtain ⟨rfl, N1033q, e1033⟩ := hQ1033
    have N1033 := Fr.app N1031 N1033q
    refine OEnds.st st1033 ?_
    show OEnds p.tables e below G (T1033.setTop (mkF m 124 #[.val (.int p1), .val (.int p2), .val (.int p3), .val (.int (0 : Int32)), .val (.int v1002), .val (.ref b1003), .val (.int v1027), .val (.int v1029)] [(.int (own_at (1 : Int32) (0 : Int32) v1029 p1 v1002 (own_el 0 1 p1 v1002)))]))
    have hc124_1034 : ¬ ((own_at (1 : Int32) (0 : Int32) v1029 p1 v1002 (own_el 0 1 p1 v1002)) = (0 : Int32)) := by rw [← hv_v1029, own_ok_0_1 p1 v1002]; decide
    refine OEnds.st (fun _ k => XS.ifNo X1033.here hx rfl (hb hby at_124) rfl ((if0 _ _).trans (feq hc124_1034).1) k) ?_
    show OEnds p.tables e below G (T1033.setTop (mkF m 127 #[.val (.int p1), .val (.int p2), .val (.int p3), .val (.int (0 : Int32)), .val (.int v1002), .val (.ref b1003), .val (.int v1027), .val (.int v1029)] []))
    refine OEnds.st (fun _ k => XS.aload X1033.here hx rfl (hb hby at_127) rfl rfl k) ?_
    show OEnds p.tables e below G (T1033.setTop (mkF m 129 #[.val (.int p1), .val (.int p2), .val (.int p3), .val (.int (0 : Int32)), .val (.int v1002), .val (.ref b1003), .val (.int v1027), .val (.int v1029)] [(.ref b1003)]))
    refine OEnds.st (fun _ k => XS.iconst X1033.here hx rfl (hb hby at_129) k) ?_
    show OEnds p.tables e below G (T1033.setTop (mkF m 130 #[.val (.int p1), .val (.int p2), .val (.int p3), .val (.int (0 : Int32)), .val (.int v1002), .val (.ref b1003), .val (.int v1027), .val (.int v1029)] [(.int (2 : Int32)), (.ref b1003)]))
    refine OEnds.st (fun _ k => XS.iloadN X1033.here hx rfl (hb hby at_130) rfl k) ?_
    show OEnds p.tables e below G (T1033.setTop (mkF m 131 #[.val (.int p1), .val (.int p2), .val (.int p3), .val (.int (0 : Int32)), .val (.int v1002), .val (.ref b1003), .val (.int v1027), .val (.int v1029)] [(.int (0 : Int32)), (.int (2 : Int32)), (.ref b1003)]))
    refine OEnds.st (fun _ k => XS.iload X1033.here hx rfl (hb hby at_131) rfl k) ?_
    show OEnds p.tables e below G (T1033.setTop (mkF m 133 #[.val (.int p1), .val (.int p2), .val (.int p3), .val (.int (0 : Int32)), .val (.int v1002), .val (.ref b1003), .val (.int v1027), .val (.int v1029)] [(.int v1029), (.int (0 : Int32)), (.int (2 : Int32)), (.ref b1003)]))
    refine OEnds.st (fun _ k => XS.iloadN X1033.here hx rfl (hb hby at_133) rfl k) ?_
    show OEnds p.tables e below G (T1033.setTop (mkF m 134 #[.val (.int p1), .val (.int p2), .val (.int p3), .val (.int (0 : Int32)), .val (.int v1002), .val (.ref b1003), .val (.int v1027), .val (.int v1029)] [(.int p1), (.int v1029), (.int (0 : Int32)), (.int (2 : Int32)), (.ref b1003)]))
    refine OEnds.st (fun _ k => XS.iload X1033.here hx rfl (hb hby at_134) rfl k) ?_
    show OEnds p.tables e below G (T1033.setTop (mkF m 136 #[.val (.int p1), .val (.int p2), .val (.int p3), .val (.int (0 : Int32)), .val (.int v1002), .val (.ref b1003), .val (.int v1027), .val (.int v1029)] [(.int v1002), (.int p1), (.int v1029), (.int (0 : Int32)), (.int (2 : Int32)), (.ref b1003)]))
    obtain ⟨_, _, ⟨T1035, L1035, k1035c, n1035c⟩, -, X1035, ⟨Lc1035, hQ1035, l1035, y1035, z1035⟩, st1035⟩ := Jvm.LawKit.callS X1033 hx (y := (⟨"com/example/words_to_weights/wordstoweights/index/IndexFormatPutNumberPinLaw", "at", "([BIIIIB)Z"⟩ : MethodName)) hown (mvT hZ (hw _ (List.mem_of_getElem? (i := 9) rfl))) (mvT hZ (hw _ (List.mem_of_getElem? (i := 10) rfl))) (mvT hZ (hw _ (List.mem_of_getElem? (i := 7) rfl))) (mvT hZ (hw _ (List.mem_of_getElem? (i := 11) rfl))) (by decide) (backOf (W := 0) (rm3 l Z a0 hw [] b1003 (2 : Int32) (0 : Int32) v1029 p1 v1002 k1003 (own_els 0 p1 v1002) (own_el 0 2 p1 v1002) T1023.heap n0 Z1023 p1025 (by decide) (by decide) rfl) hZ (hw _ (List.mem_of_getElem? (i := 11) rfl)) (hw _ (List.mem_of_getElem? (i := 7) rfl)) (by decide) (by decide)) (g := (mkF m 136 #[.val (.int p1), .val (.int p2), .val (.int p3), .val (.int (0 : Int32)), .val (.int v1002), .val (.ref b1003), .val (.int v1027), .val (.int v1029)] [(.int v1002), (.int p1), (.int v1029), (.int (0 : Int32)), (.int (2 : Int32)), (.ref b1003)])) rfl (by rw [hml]; rfl) (argsL := [(.ref b1003), (.int (2 : Int32)), (.int (0 : Int32)), (.int v1029), (.int p1), (.int v1002)]) (rest := []) (lenOf pd_2 rfl) rfl (by show 2 * 0 + _ ≤ _; exact Nat.le_of_eq rfl) (hb hby at_136) (fun _ _ => ⟨rfl, e1033, (by decide : 0 + 1 + 0 + 0 + 0 + 0 + 0 ≤ _), (by decide : 0 + 9 + 0 + 0 + 0 + 0 + 0 ≤ _)⟩)
    dsimp only [Pt.U, Pt.locs, Pt.cells, Pt.slots] at X1035 l1035 y1035 z1035 st1035 hQ1035
    subst l1035 y1035 z1035
    obtain ⟨rfl, N1035q, e1035⟩ := hQ1035
    have N1035 := Fr.app N1033 N1035q
    refine OEnds.st st1035 ?_
    show OEnds p.tables e below G (T1035.setTop (mkF m 139 #[.val (.int p1), .val (.int p2), .val (.int p3), .val (.int (0 : Int32)), .val (.int v1002), .val (.ref b1003), .val (.int v1027), .val (.int v1029)] [(.int (own_at (2 : Int32) (0 : Int32) v1029 p1 v1002 (own_el 0 2 p1 v1002)))]))
    have hc139_1036 : ¬ ((own_at (2 : Int32) (0 : Int32) v1029 p1 v1002 (own_el 0 2 p1 v1002)) = (0 : Int32)) := by rw [← hv_v1029, own_ok_0_2 p1 v1002]; decide
    refine OEnds.st (fun _ k => XS.ifNo X1035.here hx rfl (hb hby at_139) rfl ((if0 _ _).trans (feq hc139_1036).1) k) ?_
    show OEnds p.tables e below G (T1035.setTop (mkF m 142 #[.val (.int p1), .val (.int p2), .val (.int p3), .val (.int (0 : Int32)), .val (.int v1002), .val (.ref b1003), .val (.int v1027), .val (.int v1029)] []))
    refine OEnds.st (fun _ k => XS.aload X1035.here hx rfl (hb hby at_142) rfl rfl k) ?_
    show OEnds p.tables e below G (T1035.setTop (mkF m 144 #[.val (.int p1), .val (.int p2), .val (.int p3), .val (.int (0 : Int32)), .val (.int v1002), .val (.ref b1003), .val (.int v1027), .val (.int v1029)] [(.ref b1003)]))
    refine OEnds.st (fun _ k => XS.iconst X1035.here hx rfl (hb hby at_144) k) ?_
    show OEnds p.tables e below G (T1035.setTop (mkF m 145 #[.val (.int p1), .val (.int p2), .val (.int p3), .val (.int (0 : Int32)), .val (.int v1002), .val (.ref b1003), .val (.int v1027), .val (.int v1029)] [(.int (3 : Int32)), (.ref b1003)]))
    refine OEnds.st (fun _ k => XS.iloadN X1035.here hx rfl (hb hby at_145) rfl k) ?_
    show OEnds p.tables e below G (T1035.setTop (mkF m 146 #[.val (.int p1), .val (.int p2), .val (.int p3), .val (.int (0 : Int32)), .val (.int v1002), .val (.ref b1003), .val (.int v1027), .val (.int v1029)] [(.int (0 : Int32)), (.int (3 : Int32)), (.ref b1003)]))
    refine OEnds.st (fun _ k => XS.iload X1035.here hx rfl (hb hby at_146) rfl k) ?_
    show OEnds p.tables e below G (T1035.setTop (mkF m 148 #[.val (.int p1), .val (.int p2), .val (.int p3), .val (.int (0 : Int32)), .val (.int v1002), .val (.ref b1003), .val (.int v1027), .val (.int v1029)] [(.int v1029), (.int (0 : Int32)), (.int (3 : Int32)), (.ref b1003)]))
    refine OEnds.st (fun _ k => XS.iloadN X1035.here hx rfl (hb hby at_148) rfl k) ?_
    show OEnds p.tables e below G (T1035.setTop (mkF m 149 #[.val (.int p1), .val (.int p2), .val (.int p3), .val (.int (0 : Int32)), .val (.int v1002), .val (.ref b1003), .val (.int v1027), .val (.int v1029)] [(.int p1), (.int v1029), (.int (0 : Int32)), (.int (3 : Int32)), (.ref b1003)]))
    refine OEnds.st (fun _ k => XS.iload X1035.here hx rfl (hb hby at_149) rfl k) ?_
    show OEnds p.tables e below G (T1035.setTop (mkF m 151 #[.val (.int p1), .val (.int p2), .val (.int p3), .val (.int (0 : Int32)), .val (.int v1002), .val (.ref b1003), .val (.int v1027), .val (.int v1029)] [(.int v1002), (.int p1), (.int v1029), (.int (0 : Int32)), (.int (3 : Int32)), (.ref b1003)]))
    obtain ⟨_, _, ⟨T1037, L1037, k1037c, n1037c⟩, -, X1037, ⟨Lc1037, hQ1037, l1037, y1037, z1037⟩, st1037⟩ := Jvm.LawKit.callS X1035 hx (y := (⟨"com/example/words_to_weights/wordstoweights/index/IndexFormatPutNumberPinLaw", "at", "([BIIIIB)Z"⟩ : MethodName)) hown (mvT hZ (hw _ (List.mem_of_getElem? (i := 9) rfl))) (mvT hZ (hw _ (List.mem_of_getElem? (i := 10) rfl))) (mvT hZ (hw _ (List.mem_of_getElem? (i := 7) rfl))) (mvT hZ (hw _ (List.mem_of_getElem? (i := 11) rfl))) (by decide) (backOf (W := 0) (rm3 l Z a0 hw [] b1003 (3 : Int32) (0 : Int32) v1029 p1 v1002 k1003 (own_els 0 p1 v1002) (own_el 0 3 p1 v1002) T1023.heap n0 Z1023 p1025 (by decide) (by decide) rfl) hZ (hw _ (List.mem_of_getElem? (i := 11) rfl)) (hw _ (List.mem_of_getElem? (i := 7) rfl)) (by decide) (by decide)) (g := (mkF m 151 #[.val (.int p1), .val (.int p2), .val (.int p3), .val (.int (0 : Int32)), .val (.int v1002), .val (.ref b1003), .val (.int v1027), .val (.int v1029)] [(.int v1002), (.int p1), (.int v1029), (.int (0 : Int32)), (.int (3 : Int32)), (.ref b1003)])) rfl (by rw [hml]; rfl) (argsL := [(.ref b1003), (.int (3 : Int32)), (.int (0 : Int32)), (.int v1029), (.int p1), (.int v1002)]) (rest := []) (lenOf pd_2 rfl) rfl (by show 2 * 0 + _ ≤ _; exact Nat.le_of_eq rfl) (hb hby at_151) (fun _ _ => ⟨rfl, e1035, (by decide : 0 + 1 + 0 + 0 + 0 + 0 + 0 + 0 ≤ _), (by decide : 0 + 9 + 0 + 0 + 0 + 0 + 0 + 0 ≤ _)⟩)
    dsimp only [Pt.U, Pt.locs, Pt.cells, Pt.slots] at X1037 l1037 y1037 z1037 st1037 hQ1037
    subst l1037 y1037 z1037
    obtain ⟨rfl, N1037q, e1037⟩ := hQ1037
    have N1037 := Fr.app N1035 N1037q
    refine OEnds.st st1037 ?_
    show OEnds p.tables e below G (T1037.setTop (mkF m 154 #[.val (.int p1), .val (.int p2), .val (.int p3), .val (.int (0 : Int32)), .val (.int v1002), .val (.ref b1003), .val (.int v1027), .val (.int v1029)] [(.int (own_at (3 : Int32) (0 : Int32) v1029 p1 v1002 (own_el 0 3 p1 v1002)))]))
    have hc154_1038 : ¬ ((own_at (3 : Int32) (0 : Int32) v1029 p1 v1002 (own_el 0 3 p1 v1002)) = (0 : Int32)) := by rw [← hv_v1029, own_ok_0_3 p1 v1002]; decide
    refine OEnds.st (fun _ k => XS.ifNo X1037.here hx rfl (hb hby at_154) rfl ((if0 _ _).trans (feq hc154_1038).1) k) ?_
    show OEnds p.tables e below G (T1037.setTop (mkF m 157 #[.val (.int p1), .val (.int p2), .val (.int p3), .val (.int (0 : Int32)), .val (.int v1002), .val (.ref b1003), .val (.int v1027), .val (.int v1029)] []))
    refine OEnds.st (fun _ k => XS.aload X1037.here hx rfl (hb hby at_157) rfl rfl k) ?_
    show OEnds p.tables e below G (T1037.setTop (mkF m 159 #[.val (.int p1), .val (.int p2), .val (.int p3), .val (.int (0 : Int32)), .val (.int v1002), .val (.ref b1003), .val (.int v1027), .val (.int v1029)] [(.ref b1003)]))
    refine OEnds.st (fun _ k => XS.iconst X1037.here hx rfl (hb hby at_159) k) ?_
    show OEnds p.tables e below G (T1037.setTop (mkF m 160 #[.val (.int p1), .val (.int p2), .val (.int p3), .val (.int (0 : Int32)), .val (.int v1002), .val (.ref b1003), .val (.int v1027), .val (.int v1029)] [(.int (4 : Int32)), (.ref b1003)]))
    refine OEnds.st (fun _ k => XS.iloadN X1037.here hx rfl (hb hby at_160) rfl k) ?_
    show OEnds p.tables e below G (T1037.setTop (mkF m 161 #[.val (.int p1), .val (.int p2), .val (.int p3), .val (.int (0 : Int32)), .val (.int v1002), .val (.ref b1003), .val (.int v1027), .val (.int v1029)] [(.int (0 : Int32)), (.int (4 : Int32)), (.ref b1003)]))
    refine OEnds.st (fun _ k => XS.iload X1037.here hx rfl (hb hby at_161) rfl k) ?_
    show OEnds p.tables e below G (T1037.setTop (mkF m 163 #[.val (.int p1), .val (.int p2), .val (.int p3), .val (.int (0 : Int32)), .val (.int v1002), .val (.ref b1003), .val (.int v1027), .val (.int v1029)] [(.int v1029), (.int (0 : Int32)), (.int (4 : Int32)), (.ref b1003)]))
    refine OEnds.st (fun _ k => XS.iloadN X1037.here hx rfl (hb hby at_163) rfl k) ?_
    show OEnds p.tables e below G (T1037.setTop (mkF m 164 #[.val (.int p1), .val (.int p2), .val (.int p3), .val (.int (0 : Int32)), .val (.int v1002), .val (.ref b1003), .val (.int v1027), .val (.int v1029)] [(.int p1), (.int v1029), (.int (0 : Int32)), (.int (4 : Int32)), (.ref b1003)]))
    refine OEnds.st (fun _ k => XS.iload X1037.here hx rfl (hb hby at_164) rfl k) ?_
    show OEnds p.tables e below G (T1037.setTop (mkF m 166 #[.val (.int p1), .val (.int p2), .val (.int p3), .val (.int (0 : Int32)), .val (.int v1002), .val (.ref b1003), .val (.int v1027), .val (.int v1029)] [(.int v1002), (.int p1), (.int v1029), (.int (0 : Int32)), (.int (4 : Int32)), (.ref b1003)]))
    obtain ⟨_, _, ⟨T1039, L1039, k1039c, n1039c⟩, -, X1039, ⟨Lc1039, hQ1039, l1039, y1039, z1039⟩, st1039⟩ := Jvm.LawKit.callS X1037 hx (y := (⟨"com/example/words_to_weights/wordstoweights/index/IndexFormatPutNumberPinLaw", "at", "([BIIIIB)Z"⟩ : MethodName)) hown (mvT hZ (hw _ (List.mem_of_getElem? (i := 9) rfl))) (mvT hZ (hw _ (List.mem_of_getElem? (i := 10) rfl))) (mvT hZ (hw _ (List.mem_of_getElem? (i := 7) rfl))) (mvT hZ (hw _ (List.mem_of_getElem? (i := 11) rfl))) (by decide) (backOf (W := 0) (rm3 l Z a0 hw [] b1003 (4 : Int32) (0 : Int32) v1029 p1 v1002 k1003 (own_els 0 p1 v1002) (own_el 0 4 p1 v1002) T1023.heap n0 Z1023 p1025 (by decide) (by decide) rfl) hZ (hw _ (List.mem_of_getElem? (i := 11) rfl)) (hw _ (List.mem_of_getElem? (i := 7) rfl)) (by decide) (by decide)) (g := (mkF m 166 #[.val (.int p1), .val (.int p2), .val (.int p3), .val (.int (0 : Int32)), .val (.int v1002), .val (.ref b1003), .val (.int v1027), .val (.int v1029)] [(.int v1002), (.int p1), (.int v1029), (.int (0 : Int32)), (.int (4 : Int32)), (.ref b1003)])) rfl (by rw [hml]; rfl) (argsL := [(.ref b1003), (.int (4 : Int32)), (.int (0 : Int32)), (.int v1029), (.int p1), (.int v1002)]) (rest := []) (lenOf pd_2 rfl) rfl (by show 2 * 0 + _ ≤ _; exact Nat.le_of_eq rfl) (hb hby at_166) (fun _ _ => ⟨rfl, e1037, (by decide : 0 + 1 + 0 + 0 + 0 + 0 + 0 + 0 + 0 ≤ _), (by decide : 0 + 9 + 0 + 0 + 0 + 0 + 0 + 0 + 0 ≤ _)⟩)
    dsimp only [Pt.U, Pt.locs, Pt.cells, Pt.slots] at X1039 l1039 y1039 z1039 st1039 hQ1039
    subst l1039 y1039 z1039
    obtain ⟨rfl, N1039q, e1039⟩ := hQ1039
    have N1039 := Fr.app N1037 N1039q
    refine OEnds.st st1039 ?_
    show OEnds p.tables e below G (T1039.setTop (mkF m 169 #[.val (.int p1), .val (.int p2), .val (.int p3), .val (.int (0 : Int32)), .val (.int v1002), .val (.ref b1003), .val (.int v1027), .val (.int v1029)] [(.int (own_at (4 : Int32) (0 : Int32) v1029 p1 v1002 (own_el 0 4 p1 v1002)))]))
    have hc169_1040 : ¬ ((own_at (4 : Int32) (0 : Int32) v1029 p1 v1002 (own_el 0 4 p1 v1002)) = (0 : Int32)) := by rw [← hv_v1029, own_ok_0_4 p1 v1002]; decide
    refine OEnds.st (fun _ k => XS.ifNo X1039.here hx rfl (hb hby at_169) rfl ((if0 _ _).trans (feq hc169_1040).1) k) ?_
    show OEnds p.tables e below G (T1039.setTop (mkF m 172 #[.val (.int p1), .val (.int p2), .val (.int p3), .val (.int (0 : Int32)), .val (.int v1002), .val (.ref b1003), .val (.int v1027), .val (.int v1029)] []))
    refine OEnds.st (fun _ k => XS.aload X1039.here hx rfl (hb hby at_172) rfl rfl k) ?_
    show OEnds p.tables e below G (T1039.setTop (mkF m 174 #[.val (.int p1), .val (.int p2), .val (.int p3), .val (.int (0 : Int32)), .val (.int v1002), .val (.ref b1003), .val (.int v1027), .val (.int v1029)] [(.ref b1003)]))
    refine OEnds.st (fun _ k => XS.iconst X1039.here hx rfl (hb hby at_174) k) ?_
    show OEnds p.tables e below G (T1039.setTop (mkF m 175 #[.val (.int p1), .val (.int p2), .val (.int p3), .val (.int (0 : Int32)), .val (.int v1002), .val (.ref b1003), .val (.int v1027), .val (.int v1029)] [(.int (5 : Int32)), (.ref b1003)]))
    refine OEnds.st (fun _ k => XS.iloadN X1039.here hx rfl (hb hby at_175) rfl k) ?_
    show OEnds p.tables e below G (T1039.setTop (mkF m 176 #[.val (.int p1), .val (.int p2), .val (.int p3), .val (.int (0 : Int32)), .val (.int v1002), .val (.ref b1003), .val (.int v1027), .val (.int v1029)] [(.int (0 : Int32)), (.int (5 : Int32)), (.ref b1003)]))
    refine OEnds.st (fun _ k => XS.iload X1039.here hx rfl (hb hby at_176) rfl k) ?_
    show OEnds p.tables e below G (T1039.setTop (mkF m 178 #[.val (.int p1), .val (.int p2), .val (.int p3), .val (.int (0 : Int32)), .val (.int v1002), .val (.ref b1003), .val (.int v1027), .val (.int v1029)] [(.int v1029), (.int (0 : Int32)), (.int (5 : Int32)), (.ref b1003)]))
    refine OEnds.st (fun _ k => XS.iloadN X1039.here hx rfl (hb hby at_178) rfl k) ?_
    show OEnds p.tables e below G (T1039.setTop (mkF m 179 #[.val (.int p1), .val (.int p2), .val (.int p3), .val (.int (0 : Int32)), .val (.int v1002), .val (.ref b1003), .val (.int v1027), .val (.int v1029)] [(.int p1), (.int v1029), (.int (0 : Int32)), (.int (5 : Int32)), (.ref b1003)]))
    refine OEnds.st (fun _ k => XS.iload X1039.here hx rfl (hb hby at_179) rfl k) ?_
    show OEnds p.tables e below G (T1039.setTop (mkF m 181 #[.val (.int p1), .val (.int p2), .val (.int p3), .val (.int (0 : Int32)), .val (.int v1002), .val (.ref b1003), .val (.int v1027), .val (.int v1029)] [(.int v1002), (.int p1), (.int v1029), (.int (0 : Int32)), (.int (5 : Int32)), (.ref b1003)]))
    obtain ⟨_, _, ⟨T1041, L1041, k1041c, n1041c⟩, -, X1041, ⟨Lc1041, hQ1041, l1041, y1041, z1041⟩, st1041⟩ := Jvm.LawKit.callS X1039 hx (y := (⟨"com/example/words_to_weights/wordstoweights/index/IndexFormatPutNumberPinLaw", "at", "([BIIIIB)Z"⟩ : MethodName)) hown (mvT hZ (hw _ (List.mem_of_getElem? (i := 9) rfl))) (mvT hZ (hw _ (List.mem_of_getElem? (i := 10) rfl))) (mvT hZ (hw _ (List.mem_of_getElem? (i := 7) rfl))) (mvT hZ (hw _ (List.mem_of_getElem? (i := 11) rfl))) (by decide) (backOf (W := 0) (rm3 l Z a0 hw [] b1003 (5 : Int32) (0 : Int32) v1029 p1 v1002 k1003 (own_els 0 p1 v1002) (own_el 0 5 p1 v1002) T1023.heap n0 Z1023 p1025 (by decide) (by decide) rfl) hZ (hw _ (List.mem_of_getElem? (i := 11) rfl)) (hw _ (List.mem_of_getElem? (i := 7) rfl)) (by decide) (by decide)) (g := (mkF m 181 #[.val (.int p1), .val (.int p2), .val (.int p3), .val (.int (0 : Int32)), .val (.int v1002), .val (.ref b1003), .val (.int v1027), .val (.int v1029)] [(.int v1002), (.int p1), (.int v1029), (.int (0 : Int32)), (.int (5 : Int32)), (.ref b1003)])) rfl (by rw [hml]; rfl) (argsL := [(.ref b1003), (.int (5 : Int32)), (.int (0 : Int32)), (.int v1029), (.int p1), (.int v1002)]) (rest := []) (lenOf pd_2 rfl) rfl (by show 2 * 0 + _ ≤ _; exact Nat.le_of_eq rfl) (hb hby at_181) (fun _ _ => ⟨rfl, e1039, (by decide : 0 + 1 + 0 + 0 + 0 + 0 + 0 + 0 + 0 + 0 ≤ _), (by decide : 0 + 9 + 0 + 0 + 0 + 0 + 0 + 0 + 0 + 0 ≤ _)⟩)
    dsimp only [Pt.U, Pt.locs, Pt.cells, Pt.slots] at X1041 l1041 y1041 z1041 st1041 hQ1041
    subst l1041 y1041 z1041
    obtain ⟨rfl, N1041q, e1041⟩ := hQ1041
    have N1041 := Fr.app N1039 N1041q
    refine OEnds.st st1041 ?_
    show OEnds p.tables e below G (T1041.setTop (mkF m 184 #[.val (.int p1), .val (.int p2), .val (.int p3), .val (.int (0 : Int32)), .val (.int v1002), .val (.ref b1003), .val (.int v1027), .val (.int v1029)] [(.int (own_at (5 : Int32) (0 : Int32) v1029 p1 v1002 (own_el 0 5 p1 v1002)))]))
    have hc184_1042 : ¬ ((own_at (5 : Int32) (0 : Int32) v1029 p1 v1002 (own_el 0 5 p1 v1002)) = (0 : Int32)) := by rw [← hv_v1029, own_ok_0_5 p1 v1002]; decide
    refine OEnds.st (fun _ k => XS.ifNo X1041.here hx rfl (hb hby at_184) rfl ((if0 _ _).trans (feq hc184_1042).1) k) ?_
    show OEnds p.tables e below G (T1041.setTop (mkF m 187 #[.val (.int p1), .val (.int p2), .val (.int p3), .val (.int (0 : Int32)), .val (.int v1002), .val (.ref b1003), .val (.int v1027), .val (.int v1029)] []))
    refine OEnds.st (fun _ k => XS.aload X1041.here hx rfl (hb hby at_187) rfl rfl k) ?_
    show OEnds p.tables e below G (T1041.setTop (mkF m 189 #[.val (.int p1), .val (.int p2), .val (.int p3), .val (.int (0 : Int32)), .val (.int v1002), .val (.ref b1003), .val (.int v1027), .val (.int v1029)] [(.ref b1003)]))
    refine OEnds.st (fun _ k => XS.bipush X1041.here hx rfl (hb hby at_189) k) ?_
    show OEnds p.tables e below G (T1041.setTop (mkF m 191 #[.val (.int p1), .val (.int p2), .val (.int p3), .val (.int (0 : Int32)), .val (.int v1002), .val (.ref b1003), .val (.int v1027), .val (.int v1029)] [(.int (6 : Int32)), (.ref b1003)]))
    refine OEnds.st (fun _ k => XS.iloadN X1041.here hx rfl (hb hby at_191) rfl k) ?_
    show OEnds p.tables e below G (T1041.setTop (mkF m 192 #[.val (.int p1), .val (.int p2), .val (.int p3), .val (.int (0 : Int32)), .val (.int v1002), .val (.ref b1003), .val (.int v1027), .val (.int v1029)] [(.int (0 : Int32)), (.int (6 : Int32)), (.ref b1003)]))
    refine OEnds.st (fun _ k => XS.iload X1041.here hx rfl (hb hby at_192) rfl k) ?_
    show OEnds p.tables e below G (T1041.setTop (mkF m 194 #[.val (.int p1), .val (.int p2), .val (.int p3), .val (.int (0 : Int32)), .val (.int v1002), .val (.ref b1003), .val (.int v1027), .val (.int v1029)] [(.int v1029), (.int (0 : Int32)), (.int (6 : Int32)), (.ref b1003)]))
    refine OEnds.st (fun _ k => XS.iloadN X1041.here hx rfl (hb hby at_194) rfl k) ?_
    show OEnds p.tables e below G (T1041.setTop (mkF m 195 #[.val (.int p1), .val (.int p2), .val (.int p3), .val (.int (0 : Int32)), .val (.int v1002), .val (.ref b1003), .val (.int v1027), .val (.int v1029)] [(.int p1), (.int v1029), (.int (0 : Int32)), (.int (6 : Int32)), (.ref b1003)]))
    refine OEnds.st (fun _ k => XS.iload X1041.here hx rfl (hb hby at_195) rfl k) ?_
    show OEnds p.tables e below G (T1041.setTop (mkF m 197 #[.val (.int p1), .val (.int p2), .val (.int p3), .val (.int (0 : Int32)), .val (.int v1002), .val (.ref b1003), .val (.int v1027), .val (.int v1029)] [(.int v1002), (.int p1), (.int v1029), (.int (0 : Int32)), (.int (6 : Int32)), (.ref b1003)]))
    obtain ⟨_, _, ⟨T1043, L1043, k1043c, n1043c⟩, -, X1043, ⟨Lc1043, hQ1043, l1043, y1043, z1043⟩, st1043⟩ := Jvm.LawKit.callS X1041 hx (y := (⟨"com/example/words_to_weights/wordstoweights/index/IndexFormatPutNumberPinLaw", "at", "([BIIIIB)Z"⟩ : MethodName)) hown (mvT hZ (hw _ (List.mem_of_getElem? (i := 9) rfl))) (mvT hZ (hw _ (List.mem_of_getElem? (i := 10) rfl))) (mvT hZ (hw _ (List.mem_of_getElem? (i := 7) rfl))) (mvT hZ (hw _ (List.mem_of_getElem? (i := 11) rfl))) (by decide) (backOf (W := 0) (rm3 l Z a0 hw [] b1003 (6 : Int32) (0 : Int32) v1029 p1 v1002 k1003 (own_els 0 p1 v1002) (own_el 0 6 p1 v1002) T1023.heap n0 Z1023 p1025 (by decide) (by decide) rfl) hZ (hw _ (List.mem_of_getElem? (i := 11) rfl)) (hw _ (List.mem_of_getElem? (i := 7) rfl)) (by decide) (by decide)) (g := (mkF m 197 #[.val (.int p1), .val (.int p2), .val (.int p3), .val (.int (0 : Int32)), .val (.int v1002), .val (.ref b1003), .val (.int v1027), .val (.int v1029)] [(.int v1002), (.int p1), (.int v1029), (.int (0 : Int32)), (.int (6 : Int32)), (.ref b1003)])) rfl (by rw [hml]; rfl) (argsL := [(.ref b1003), (.int (6 : Int32)), (.int (0 : Int32)), (.int v1029), (.int p1), (.int v1002)]) (rest := []) (lenOf pd_2 rfl) rfl (by show 2 * 0 + _ ≤ _; exact Nat.le_of_eq rfl) (hb hby at_197) (fun _ _ => ⟨rfl, e1041, (by decide : 0 + 1 + 0 + 0 + 0 + 0 + 0 + 0 + 0 + 0 + 0 ≤ _), (by decide : 0 + 9 + 0 + 0 + 0 + 0 + 0 + 0 + 0 + 0 + 0 ≤ _)⟩)
    dsimp only [Pt.U, Pt.locs, Pt.cells, Pt.slots] at X1043 l1043 y1043 z1043 st1043 hQ1043
    subst l1043 y1043 z1043
    obtain ⟨rfl, N1043q, e1043⟩ := hQ1043
    have N1043 := Fr.app N1041 N1043q
    refine OEnds.st st1043 ?_
    show OEnds p.tables e below G (T1043.setTop (mkF m 200 #[.val (.int p1), .val (.int p2), .val (.int p3), .val (.int (0 : Int32)), .val (.int v1002), .val (.ref b1003), .val (.int v1027), .val (.int v1029)] [(.int (own_at (6 : Int32) (0 : Int32) v1029 p1 v1002 (own_el 0 6 p1 v1002)))]))
    have hc200_1044 : ¬ ((own_at (6 : Int32) (0 : Int32) v1029 p1 v1002 (own_el 0 6 p1 v1002)) = (0 : Int32)) := by rw [← hv_v1029, own_ok_0_6 p1 v1002]; decide
    refine OEnds.st (fun _ k => XS.ifNo X1043.here hx rfl (hb hby at_200) rfl ((if0 _ _).trans (feq hc200_1044).1) k) ?_
    show OEnds p.tables e below G (T1043.setTop (mkF m 203 #[.val (.int p1), .val (.int p2), .val (.int p3), .val (.int (0 : Int32)), .val (.int v1002), .val (.ref b1003), .val (.int v1027), .val (.int v1029)] []))
    refine OEnds.st (fun _ k => XS.aload X1043.here hx rfl (hb hby at_203) rfl rfl k) ?_
    show OEnds p.tables e below G (T1043.setTop (mkF m 205 #[.val (.int p1), .val (.int p2), .val (.int p3), .val (.int (0 : Int32)), .val (.int v1002), .val (.ref b1003), .val (.int v1027), .val (.int v1029)] [(.ref b1003)]))
    refine OEnds.st (fun _ k => XS.bipush X1043.here hx rfl (hb hby at_205) k) ?_
    show OEnds p.tables e below G (T1043.setTop (mkF m 207 #[.val (.int p1), .val (.int p2), .val (.int p3), .val (.int (0 : Int32)), .val (.int v1002), .val (.ref b1003), .val (.int v1027), .val (.int v1029)] [(.int (7 : Int32)), (.ref b1003)]))
    refine OEnds.st (fun _ k => XS.iloadN X1043.here hx rfl (hb hby at_207) rfl k) ?_
    show OEnds p.tables e below G (T1043.setTop (mkF m 208 #[.val (.int p1), .val (.int p2), .val (.int p3), .val (.int (0 : Int32)), .val (.int v1002), .val (.ref b1003), .val (.int v1027), .val (.int v1029)] [(.int (0 : Int32)), (.int (7 : Int32)), (.ref b1003)]))
    refine OEnds.st (fun _ k => XS.iload X1043.here hx rfl (hb hby at_208) rfl k) ?_
    show OEnds p.tables e below G (T1043.setTop (mkF m 210 #[.val (.int p1), .val (.int p2), .val (.int p3), .val (.int (0 : Int32)), .val (.int v1002), .val (.ref b1003), .val (.int v1027), .val (.int v1029)] [(.int v1029), (.int (0 : Int32)), (.int (7 : Int32)), (.ref b1003)]))
    refine OEnds.st (fun _ k => XS.iloadN X1043.here hx rfl (hb hby at_210) rfl k) ?_
    show OEnds p.tables e below G (T1043.setTop (mkF m 211 #[.val (.int p1), .val (.int p2), .val (.int p3), .val (.int (0 : Int32)), .val (.int v1002), .val (.ref b1003), .val (.int v1027), .val (.int v1029)] [(.int p1), (.int v1029), (.int (0 : Int32)), (.int (7 : Int32)), (.ref b1003)]))
    refine OEnds.st (fun _ k => XS.iload X1043.here hx rfl (hb hby at_211) rfl k) ?_
    show OEnds p.tables e below G (T1043.setTop (mkF m 213 #[.val (.int p1), .val (.int p2), .val (.int p3), .val (.int (0 : Int32)), .val (.int v1002), .val (.ref b1003), .val (.int v1027), .val (.int v1029)] [(.int v1002), (.int p1), (.int v1029), (.int (0 : Int32)), (.int (7 : Int32)), (.ref b1003)]))
    obtain ⟨_, _, ⟨T1045, L1045, k1045c, n1045c⟩, -, X1045, ⟨Lc1045, hQ1045, l1045, y1045, z1045⟩, st1045⟩ := Jvm.LawKit.callS X1043 hx (y := (⟨"com/example/words_to_weights/wordstoweights/index/IndexFormatPutNumberPinLaw", "at", "([BIIIIB)Z"⟩ : MethodName)) hown (mvT hZ (hw _ (List.mem_of_getElem? (i := 9) rfl))) (mvT hZ (hw _ (List.mem_of_getElem? (i := 10) rfl))) (mvT hZ (hw _ (List.mem_of_getElem? (i := 7) rfl))) (mvT hZ (hw _ (List.mem_of_getElem? (i := 11) rfl))) (by decide) (backOf (W := 0) (rm3 l Z a0 hw [] b1003 (7 : Int32) (0 : Int32) v1029 p1 v1002 k1003 (own_els 0 p1 v1002) (own_el 0 7 p1 v1002) T1023.heap n0 Z1023 p1025 (by decide) (by decide) rfl) hZ (hw _ (List.mem_of_getElem? (i := 11) rfl)) (hw _ (List.mem_of_getElem? (i := 7) rfl)) (by decide) (by decide)) (g := (mkF m 213 #[.val (.int p1), .val (.int p2), .val (.int p3), .val (.int (0 : Int32)), .val (.int v1002), .val (.ref b1003), .val (.int v1027), .val (.int v1029)] [(.int v1002), (.int p1), (.int v1029), (.int (0 : Int32)), (.int (7 : Int32)), (.ref b1003)])) rfl (by rw [hml]; rfl) (argsL := [(.ref b1003), (.int (7 : Int32)), (.int (0 : Int32)), (.int v1029), (.int p1), (.int v1002)]) (rest := []) (lenOf pd_2 rfl) rfl (by show 2 * 0 + _ ≤ _; exact Nat.le_of_eq rfl) (hb hby at_213) (fun _ _ => ⟨rfl, e1043, (by decide : 0 + 1 + 0 + 0 + 0 + 0 + 0 + 0 + 0 + 0 + 0 + 0 ≤ _), (by decide : 0 + 9 + 0 + 0 + 0 + 0 + 0 + 0 + 0 + 0 + 0 + 0 ≤ _)⟩)
    dsimp only [Pt.U, Pt.locs, Pt.cells, Pt.slots] at X1045 l1045 y1045 z1045 st1045 hQ1045
    subst l1045 y1045 z1045
    obtain ⟨rfl, N1045q, e1045⟩ := hQ1045
    have N1045 := Fr.app N1043 N1045q
    refine OEnds.st st1045 ?_
    show OEnds p.tables e below G (T1045.setTop (mkF m 216 #[.val (.int p1), .val (.int p2), .val (.int p3), .val (.int (0 : Int32)), .val (.int v1002), .val (.ref b1003), .val (.int v1027), .val (.int v1029)] [(.int (own_at (7 : Int32) (0 : Int32) v1029 p1 v1002 (own_el 0 7 p1 v1002)))]))
    have hc216_1046 : ¬ ((own_at (7 : Int32) (0 : Int32) v1029 p1 v1002 (own_el 0 7 p1 v1002)) = (0 : Int32)) := by rw [← hv_v1029, own_ok_0_7 p1 v1002]; decide
    refine OEnds.st (fun _ k => XS.ifNo X1045.here hx rfl (hb hby at_216) rfl ((if0 _ _).trans (feq hc216_1046).1) k) ?_
    show OEnds p.tables e below G (T1045.setTop (mkF m 219 #[.val (.int p1), .val (.int p2), .val (.int p3), .val (.int (0 : Int32)), .val (.int v1002), .val (.ref b1003), .val (.int v1027), .val (.int v1029)] []))
    refine OEnds.st (fun _ k => XS.aload X1045.here hx rfl (hb hby at_219) rfl rfl k) ?_
    show OEnds p.tables e below G (T1045.setTop (mkF m 221 #[.val (.int p1), .val (.int p2), .val (.int p3), .val (.int (0 : Int32)), .val (.int v1002), .val (.ref b1003), .val (.int v1027), .val (.int v1029)] [(.ref b1003)]))
    refine OEnds.st (fun _ k => XS.bipush X1045.here hx rfl (hb hby at_221) k) ?_
    show OEnds p.tables e below G (T1045.setTop (mkF m 223 #[.val (.int p1), .val (.int p2), .val (.int p3), .val (.int (0 : Int32)), .val (.int v1002), .val (.ref b1003), .val (.int v1027), .val (.int v1029)] [(.int (8 : Int32)), (.ref b1003)]))
    refine OEnds.st (fun _ k => XS.iloadN X1045.here hx rfl (hb hby at_223) rfl k) ?_
    show OEnds p.tables e below G (T1045.setTop (mkF m 224 #[.val (.int p1), .val (.int p2), .val (.int p3), .val (.int (0 : Int32)), .val (.int v1002), .val (.ref b1003), .val (.int v1027), .val (.int v1029)] [(.int (0 : Int32)), (.int (8 : Int32)), (.ref b1003)]))
    refine OEnds.st (fun _ k => XS.iload X1045.here hx rfl (hb hby at_224) rfl k) ?_
    show OEnds p.tables e below G (T1045.setTop (mkF m 226 #[.val (.int p1), .val (.int p2), .val (.int p3), .val (.int (0 : Int32)), .val (.int v1002), .val (.ref b1003), .val (.int v1027), .val (.int v1029)] [(.int v1029), (.int (0 : Int32)), (.int (8 : Int32)), (.ref b1003)]))
    refine OEnds.st (fun _ k => XS.iloadN X1045.here hx rfl (hb hby at_226) rfl k) ?_
    show OEnds p.tables e below G (T1045.setTop (mkF m 227 #[.val (.int p1), .val (.int p2), .val (.int p3), .val (.int (0 : Int32)), .val (.int v1002), .val (.ref b1003), .val (.int v1027), .val (.int v1029)] [(.int p1), (.int v1029), (.int (0 : Int32)), (.int (8 : Int32)), (.ref b1003)]))
    refine OEnds.st (fun _ k => XS.iload X1045.here hx rfl (hb hby at_227) rfl k) ?_
    show OEnds p.tables e below G (T1045.setTop (mkF m 229 #[.val (.int p1), .val (.int p2), .val (.int p3), .val (.int (0 : Int32)), .val (.int v1002), .val (.ref b1003), .val (.int v1027), .val (.int v1029)] [(.int v1002), (.int p1), (.int v1029), (.int (0 : Int32)), (.int (8 : Int32)), (.ref b1003)]))
    obtain ⟨_, _, ⟨T1047, L1047, k1047c, n1047c⟩, -, X1047, ⟨Lc1047, hQ1047, l1047, y1047, z1047⟩, st1047⟩ := Jvm.LawKit.callS X1045 hx (y := (⟨"com/example/words_to_weights/wordstoweights/index/IndexFormatPutNumberPinLaw", "at", "([BIIIIB)Z"⟩ : MethodName)) hown (mvT hZ (hw _ (List.mem_of_getElem? (i := 9) rfl))) (mvT hZ (hw _ (List.mem_of_getElem? (i := 10) rfl))) (mvT hZ (hw _ (List.mem_of_getElem? (i := 7) rfl))) (mvT hZ (hw _ (List.mem_of_getElem? (i := 11) rfl))) (by decide) (backOf (W := 0) (rm3 l Z a0 hw [] b1003 (8 : Int32) (0 : Int32) v1029 p1 v1002 k1003 (own_els 0 p1 v1002) (own_el 0 8 p1 v1002) T1023.heap n0 Z1023 p1025 (by decide) (by decide) rfl) hZ (hw _ (List.mem_of_getElem? (i := 11) rfl)) (hw _ (List.mem_of_getElem? (i := 7) rfl)) (by decide) (by decide)) (g := (mkF m 229 #[.val (.int p1), .val (.int p2), .val (.int p3), .val (.int (0 : Int32)), .val (.int v1002), .val (.ref b1003), .val (.int v1027), .val (.int v1029)] [(.int v1002), (.int p1), (.int v1029), (.int (0 : Int32)), (.int (8 : Int32)), (.ref b1003)])) rfl (by rw [hml]; rfl) (argsL := [(.ref b1003), (.int (8 : Int32)), (.int (0 : Int32)), (.int v1029), (.int p1), (.int v1002)]) (rest := []) (lenOf pd_2 rfl) rfl (by show 2 * 0 + _ ≤ _; exact Nat.le_of_eq rfl) (hb hby at_229) (fun _ _ => ⟨rfl, e1045, (by decide : 0 + 1 + 0 + 0 + 0 + 0 + 0 + 0 + 0 + 0 + 0 + 0 + 0 ≤ _), (by decide : 0 + 9 + 0 + 0 + 0 + 0 + 0 + 0 + 0 + 0 + 0 + 0 + 0 ≤ _)⟩)
    dsimp only [Pt.U, Pt.locs, Pt.cells, Pt.slots] at X1047 l1047 y1047 z1047 st1047 hQ1047
    subst l1047 y1047 z1047
    obtain ⟨rfl, N1047q, e1047⟩ := hQ1047
    have N1047 := Fr.app N1045 N1047q
    refine OEnds.st st1047 ?_
    show OEnds p.tables e below G (T1047.setTop (mkF m 232 #[.val (.int p1), .val (.int p2), .val (.int p3), .val (.int (0 : Int32)), .val (.int v1002), .val (.ref b1003), .val (.int v1027), .val (.int v1029)] [(.int (own_at (8 : Int32) (0 : Int32) v1029 p1 v1002 (own_el 0 8 p1 v1002)))]))
    have hc232_1048 : ¬ ((own_at (8 : Int32) (0 : Int32) v1029 p1 v1002 (own_el 0 8 p1 v1002)) = (0 : Int32)) := by rw [← hv_v1029, own_ok_0_8 p1 v1002]; decide
    refine OEnds.st (fun _ k => XS.ifNo X1047.here hx rfl (hb hby at_232) rfl ((if0 _ _).trans (feq hc232_1048).1) k) ?_
    show OEnds p.tables e below G (T1047.setTop (mkF m 235 #[.val (.int p1), .val (.int p2), .val (.int p3), .val (.int (0 : Int32)), .val (.int v1002), .val (.ref b1003), .val (.int v1027), .val (.int v1029)] []))
    refine OEnds.st (fun _ k => XS.iconst X1047.here hx rfl (hb hby at_235) k) ?_
    show OEnds p.tables e below G (T1047.setTop (mkF m 236 #[.val (.int p1), .val (.int p2), .val (.int p3), .val (.int (0 : Int32)), .val (.int v1002), .val (.ref b1003), .val (.int v1027), .val (.int v1029)] [(.int (1 : Int32))]))
    refine OEnds.st (fun _ k => XS.goto X1047.here hx rfl (pc0 := 236) (pc' := 240) rfl (hb hby at_236) (by decide) (by decide) k) ?_
    show OEnds p.tables e below G (T1047.setTop (mkF m 240 #[.val (.int p1), .val (.int p2), .val (.int p3), .val (.int (0 : Int32)), .val (.int v1002), .val (.ref b1003), .val (.int v1027), .val (.int v1029)] [(.int (1 : Int32))]))
    rw [← hG]
    refine OEnds.retZ X1047 hx hlk Bd.returns rfl (hb hby at_240) (by decide) (by decide) ?_
    rw [e1047]
    exact ⟨rfl, N1047⟩
  · -- 1
    rw [hi]
    show OEnds p.tables e below G (s₁.setTop (mkF m 4 #[.val (.int p1), .val (.int p2), .val (.int p3), .val (.int (1 : Int32)), .unset, .unset, .unset, .unset] []))
    refine OEnds.st (fun _ k => XS.iloadN X0.here hx rfl (hb hby at_4) rfl k) ?_
    show OEnds p.tables e below G (s₁.setTop (mkF m 5 #[.val (.int p1), .val (.int p2), .val (.int p3), .val (.int (1 : Int32)), .unset, .unset, .unset, .unset] [(.int p3)]))
    refine OEnds.st (fun _ k => XS.i2b X0.here hx rfl (hb hby at_5) rfl k) ?_
    show OEnds p.tables e below G (s₁.setTop (mkF m 6 #[.val (.int p1), .val (.int p2), .val (.int p3), .val (.int (1 : Int32)), .unset, .unset, .unset, .unset] [(.int (p3.toInt8.toInt32))]))
    refine OEnds.st (fun _ k => XS.istore X0.here hx rfl (hb hby at_6) rfl (l' := #[.val (.int p1), .val (.int p2), .val (.int p3), .val (.int (1 : Int32)), .val (.int (p3.toInt8.toInt32)), .unset, .unset, .unset]) rfl k) ?_
    show OEnds p.tables e below G (s₁.setTop (mkF m 8 #[.val (.int p1), .val (.int p2), .val (.int p3), .val (.int (1 : Int32)), .val (.int (p3.toInt8.toInt32)), .unset, .unset, .unset] []))
    generalize hv_v1049 : (p3.toInt8.toInt32) = v1049
    have hf8 : nar .byte v1049 = v1049 := by rw [← hv_v1049]; exact own_b8 p3
    show OEnds p.tables e below G (s₁.setTop (mkF m 8 #[.val (.int p1), .val (.int p2), .val (.int p3), .val (.int (1 : Int32)), .val (.int v1049), .unset, .unset, .unset] []))
    refine OEnds.st (fun _ k => XS.bipush X0.here hx rfl (hb hby at_8) k) ?_
    show OEnds p.tables e below G (s₁.setTop (mkF m 10 #[.val (.int p1), .val (.int p2), .val (.int p3), .val (.int (1 : Int32)), .val (.int v1049), .unset, .unset, .unset] [(.int (9 : Int32))]))
    obtain ⟨T1050, h1050, k1050, X1050, e1050, E1050, A1050, st1050⟩ := newP X0 hx hZ (hw _ (List.mem_of_getElem? (i := 0) rfl)) e0 (g := (mkF m 10 #[.val (.int p1), .val (.int p2), .val (.int p3), .val (.int (1 : Int32)), .val (.int v1049), .unset, .unset, .unset] [(.int (9 : Int32))])) rfl (hb hby at_10) rfl (by decide) (cap := 9) (by decide) (by decide) (by decide) (by decide)
    obtain ⟨b1050, g1050⟩ : ∃ z, z = h0.size := ⟨_, rfl⟩
    rw [← g1050] at A1050 st1050
    refine OEnds.st st1050 ?_
    have ge_b1050 : n0 ≤ b1050 := Nat.le_trans Z0 (Nat.le_of_eq g1050.symm)
    have sz_b1050 : h0.size ≤ b1050 := Nat.le_trans KK0.1 (Nat.le_of_eq g1050.symm)
    have KK1050 : Keep h0 h1050 [] := KK0.ext E1050
    have Z1050 := Nat.le_trans Z0 E1050.1
    have f1051 : Arv Z h1050 b1050 k1050 .byte (9 : Int32) [(.int (0 : Int32)), (.int (0 : Int32)), (.int (0 : Int32)), (.int (0 : Int32)), (.int (0 : Int32)), (.int (0 : Int32)), (.int (0 : Int32)), (.int (0 : Int32)), (.int (0 : Int32))] (.int (0 : Int32)) := (Arv.new A1050 (by decide)).pad (pad_rep [] (.int (0 : Int32)) 9)
    show OEnds p.tables e below G (T1050.setTop (mkF m 12 #[.val (.int p1), .val (.int p2), .val (.int p3), .val (.int (1 : Int32)), .val (.int v1049), .unset, .unset, .unset] [(.ref b1050)]))
    refine OEnds.st (fun _ k => XS.astore X1050.here hx rfl (hb hby at_12) rfl rfl (l' := #[.val (.int p1), .val (.int p2), .val (.int p3), .val (.int (1 : Int32)), .val (.int v1049), .val (.ref b1050), .unset, .unset]) rfl k) ?_
    show OEnds p.tables e below G (T1050.setTop (mkF m 14 #[.val (.int p1), .val (.int p2), .val (.int p3), .val (.int (1 : Int32)), .val (.int v1049), .val (.ref b1050), .unset, .unset] []))
    refine OEnds.st (fun _ k => XS.aload X1050.here hx rfl (hb hby at_14) rfl rfl k) ?_
    show OEnds p.tables e below G (T1050.setTop (mkF m 16 #[.val (.int p1), .val (.int p2), .val (.int p3), .val (.int (1 : Int32)), .val (.int v1049), .val (.ref b1050), .unset, .unset] [(.ref b1050)]))
    refine OEnds.st (fun _ k => XS.iconst X1050.here hx rfl (hb hby at_16) k) ?_
    show OEnds p.tables e below G (T1050.setTop (mkF m 17 #[.val (.int p1), .val (.int p2), .val (.int p3), .val (.int (1 : Int32)), .val (.int v1049), .val (.ref b1050), .unset, .unset] [(.int (0 : Int32)), (.ref b1050)]))
    refine OEnds.st (fun _ k => XS.iload X1050.here hx rfl (hb hby at_17) rfl k) ?_
    show OEnds p.tables e below G (T1050.setTop (mkF m 19 #[.val (.int p1), .val (.int p2), .val (.int p3), .val (.int (1 : Int32)), .val (.int v1049), .val (.ref b1050), .unset, .unset] [(.int v1049), (.int (0 : Int32)), (.ref b1050)]))
    obtain ⟨cl1052, Ar1052, q1052, S1052, N1052n, H1052, G1052⟩ := id f1051
    have hin1052 : ¬ ((0 : Int32) < 0 ∨ cl1052.slots.size ≤ ((0 : Int32)).toNatClampNeg) := inb_of S1052 ⟨by decide, by decide⟩
    obtain ⟨T1052, h1052, X1052, e1052, W1052, st1052⟩ := stB X1050 hx hZ e1050 Ar1052 (j := (0 : Int32)) hin1052 (g := (mkF m 19 #[.val (.int p1), .val (.int p2), .val (.int p3), .val (.int (1 : Int32)), .val (.int v1049), .val (.ref b1050), .unset, .unset] [(.int v1049), (.int (0 : Int32)), (.ref b1050)])) rfl rfl (hb hby at_19)
    refine OEnds.st st1052 ?_
    rw [hf8] at W1052
    have f1053 : Arv Z h1052 b1050 k1050 .byte (9 : Int32) [(.int v1049), (.int (0 : Int32)), (.int (0 : Int32)), (.int (0 : Int32)), (.int (0 : Int32)), (.int (0 : Int32)), (.int (0 : Int32)), (.int (0 : Int32)), (.int (0 : Int32))] (.int (0 : Int32)) := Arv.set Ar1052 q1052 S1052 N1052n H1052 G1052 (by rw [← hf8]; exact fits_nar_byte _) W1052 0 rfl (Nat.le_of_ble_eq_true rfl)
    have N1052 := Fr.snoc X1052 N0 ge_b1050
    have KK1052 : Keep h0 h1052 [] := KK1050.wr W1052 (Or.inr sz_b1050)
    have Z1052 := Nat.le_trans Z1050 (Keep.of_wr W1052).1
    show OEnds p.tables e below G (T1052.setTop (mkF m 20 #[.val (.int p1), .val (.int p2), .val (.int p3), .val (.int (1 : Int32)), .val (.int v1049), .val (.ref b1050), .unset, .unset] []))
    refine OEnds.st (fun _ k => XS.aload X1052.here hx rfl (hb hby at_20) rfl rfl k) ?_
    show OEnds p.tables e below G (T1052.setTop (mkF m 22 #[.val (.int p1), .val (.int p2), .val (.int p3), .val (.int (1 : Int32)), .val (.int v1049), .val (.ref b1050), .unset, .unset] [(.ref b1050)]))
    refine OEnds.st (fun _ k => XS.iconst X1052.here hx rfl (hb hby at_22) k) ?_
    show OEnds p.tables e below G (T1052.setTop (mkF m 23 #[.val (.int p1), .val (.int p2), .val (.int p3), .val (.int (1 : Int32)), .val (.int v1049), .val (.ref b1050), .unset, .unset] [(.int (1 : Int32)), (.ref b1050)]))
    refine OEnds.st (fun _ k => XS.iload X1052.here hx rfl (hb hby at_23) rfl k) ?_
    show OEnds p.tables e below G (T1052.setTop (mkF m 25 #[.val (.int p1), .val (.int p2), .val (.int p3), .val (.int (1 : Int32)), .val (.int v1049), .val (.ref b1050), .unset, .unset] [(.int v1049), (.int (1 : Int32)), (.ref b1050)]))
    obtain ⟨cl1054, Ar1054, q1054, S1054, N1054n, H1054, G1054⟩ := id f1053
    have hin1054 : ¬ ((1 : Int32) < 0 ∨ cl1054.slots.size ≤ ((1 : Int32)).toNatClampNeg) := inb_of S1054 ⟨by decide, by decide⟩
    obtain ⟨T1054, h1054, X1054, e1054, W1054, st1054⟩ := stB X1052 hx hZ e1052 Ar1054 (j := (1 : Int32)) hin1054 (g := (mkF m 25 #[.val (.int p1), .val (.int p2), .val (.int p3), .val (.int (1 : Int32)), .val (.int v1049), .val (.ref b1050), .unset, .unset] [(.int v1049), (.int (1 : Int32)), (.ref b1050)])) rfl rfl (hb hby at_25)
    refine OEnds.st st1054 ?_
    rw [hf8] at W1054
    have f1055 : Arv Z h1054 b1050 k1050 .byte (9 : Int32) [(.int v1049), (.int v1049), (.int (0 : Int32)), (.int (0 : Int32)), (.int (0 : Int32)), (.int (0 : Int32)), (.int (0 : Int32)), (.int (0 : Int32)), (.int (0 : Int32))] (.int (0 : Int32)) := Arv.set Ar1054 q1054 S1054 N1054n H1054 G1054 (by rw [← hf8]; exact fits_nar_byte _) W1054 1 rfl (Nat.le_of_ble_eq_true rfl)
    have N1054 := Fr.snoc X1054 N1052 ge_b1050
    have KK1054 : Keep h0 h1054 [] := KK1052.wr W1054 (Or.inr sz_b1050)
    have Z1054 := Nat.le_trans Z1052 (Keep.of_wr W1054).1
    show OEnds p.tables e below G (T1054.setTop (mkF m 26 #[.val (.int p1), .val (.int p2), .val (.int p3), .val (.int (1 : Int32)), .val (.int v1049), .val (.ref b1050), .unset, .unset] []))
    refine OEnds.st (fun _ k => XS.aload X1054.here hx rfl (hb hby at_26) rfl rfl k) ?_
    show OEnds p.tables e below G (T1054.setTop (mkF m 28 #[.val (.int p1), .val (.int p2), .val (.int p3), .val (.int (1 : Int32)), .val (.int v1049), .val (.ref b1050), .unset, .unset] [(.ref b1050)]))
    refine OEnds.st (fun _ k => XS.iconst X1054.here hx rfl (hb hby at_28) k) ?_
    show OEnds p.tables e below G (T1054.setTop (mkF m 29 #[.val (.int p1), .val (.int p2), .val (.int p3), .val (.int (1 : Int32)), .val (.int v1049), .val (.ref b1050), .unset, .unset] [(.int (2 : Int32)), (.ref b1050)]))
    refine OEnds.st (fun _ k => XS.iload X1054.here hx rfl (hb hby at_29) rfl k) ?_
    show OEnds p.tables e below G (T1054.setTop (mkF m 31 #[.val (.int p1), .val (.int p2), .val (.int p3), .val (.int (1 : Int32)), .val (.int v1049), .val (.ref b1050), .unset, .unset] [(.int v1049), (.int (2 : Int32)), (.ref b1050)]))
    obtain ⟨cl1056, Ar1056, q1056, S1056, N1056n, H1056, G1056⟩ := id f1055
    have hin1056 : ¬ ((2 : Int32) < 0 ∨ cl1056.slots.size ≤ ((2 : Int32)).toNatClampNeg) := inb_of S1056 ⟨by decide, by decide⟩
    obtain ⟨T1056, h1056, X1056, e1056, W1056, st1056⟩ := stB X1054 hx hZ e1054 Ar1056 (j := (2 : Int32)) hin1056 (g := (mkF m 31 #[.val (.int p1), .val (.int p2), .val (.int p3), .val (.int (1 : Int32)), .val (.int v1049), .val (.ref b1050), .unset, .unset] [(.int v1049), (.int (2 : Int32)), (.ref b1050)])) rfl rfl (hb hby at_31)
    refine OEnds.st st1056 ?_
    rw [hf8] at W1056
    have f1057 : Arv Z h1056 b1050 k1050 .byte (9 : Int32) [(.int v1049), (.int v1049), (.int v1049), (.int (0 : Int32)), (.int (0 : Int32)), (.int (0 : Int32)), (.int (0 : Int32)), (.int (0 : Int32)), (.int (0 : Int32))] (.int (0 : Int32)) := Arv.set Ar1056 q1056 S1056 N1056n H1056 G1056 (by rw [← hf8]; exact fits_nar_byte _) W1056 2 rfl (Nat.le_of_ble_eq_true rfl)
    have N1056 := Fr.snoc X1056 N1054 ge_b1050
    have KK1056 : Keep h0 h1056 [] := KK1054.wr W1056 (Or.inr sz_b1050)
    have Z1056 := Nat.le_trans Z1054 (Keep.of_wr W1056).1
    show OEnds p.tables e below G (T1056.setTop (mkF m 32 #[.val (.int p1), .val (.int p2), .val (.int p3), .val (.int (1 : Int32)), .val (.int v1049), .val (.ref b1050), .unset, .unset] []))
    refine OEnds.st (fun _ k => XS.aload X1056.here hx rfl (hb hby at_32) rfl rfl k) ?_
    show OEnds p.tables e below G (T1056.setTop (mkF m 34 #[.val (.int p1), .val (.int p2), .val (.int p3), .val (.int (1 : Int32)), .val (.int v1049), .val (.ref b1050), .unset, .unset] [(.ref b1050)]))
    refine OEnds.st (fun _ k => XS.iconst X1056.here hx rfl (hb hby at_34) k) ?_
    show OEnds p.tables e below G (T1056.setTop (mkF m 35 #[.val (.int p1), .val (.int p2), .val (.int p3), .val (.int (1 : Int32)), .val (.int v1049), .val (.ref b1050), .unset, .unset] [(.int (3 : Int32)), (.ref b1050)]))
    refine OEnds.st (fun _ k => XS.iload X1056.here hx rfl (hb hby at_35) rfl k) ?_
    show OEnds p.tables e below G (T1056.setTop (mkF m 37 #[.val (.int p1), .val (.int p2), .val (.int p3), .val (.int (1 : Int32)), .val (.int v1049), .val (.ref b1050), .unset, .unset] [(.int v1049), (.int (3 : Int32)), (.ref b1050)]))
    obtain ⟨cl1058, Ar1058, q1058, S1058, N1058n, H1058, G1058⟩ := id f1057
    have hin1058 : ¬ ((3 : Int32) < 0 ∨ cl1058.slots.size ≤ ((3 : Int32)).toNatClampNeg) := inb_of S1058 ⟨by decide, by decide⟩
    obtain ⟨T1058, h1058, X1058, e1058, W1058, st1058⟩ := stB X1056 hx hZ e1056 Ar1058 (j := (3 : Int32)) hin1058 (g := (mkF m 37 #[.val (.int p1), .val (.int p2), .val (.int p3), .val (.int (1 : Int32)), .val (.int v1049), .val (.ref b1050), .unset, .unset] [(.int v1049), (.int (3 : Int32)), (.ref b1050)])) rfl rfl (hb hby at_37)
    refine OEnds.st st1058 ?_
    rw [hf8] at W1058
    have f1059 : Arv Z h1058 b1050 k1050 .byte (9 : Int32) [(.int v1049), (.int v1049), (.int v1049), (.int v1049), (.int (0 : Int32)), (.int (0 : Int32)), (.int (0 : Int32)), (.int (0 : Int32)), (.int (0 : Int32))] (.int (0 : Int32)) := Arv.set Ar1058 q1058 S1058 N1058n H1058 G1058 (by rw [← hf8]; exact fits_nar_byte _) W1058 3 rfl (Nat.le_of_ble_eq_true rfl)
    have N1058 := Fr.snoc X1058 N1056 ge_b1050
    have KK1058 : Keep h0 h1058 [] := KK1056.wr W1058 (Or.inr sz_b1050)
    have Z1058 := Nat.le_trans Z1056 (Keep.of_wr W1058).1
    show OEnds p.tables e below G (T1058.setTop (mkF m 38 #[.val (.int p1), .val (.int p2), .val (.int p3), .val (.int (1 : Int32)), .val (.int v1049), .val (.ref b1050), .unset, .unset] []))
    refine OEnds.st (fun _ k => XS.aload X1058.here hx rfl (hb hby at_38) rfl rfl k) ?_
    show OEnds p.tables e below G (T1058.setTop (mkF m 40 #[.val (.int p1), .val (.int p2), .val (.int p3), .val (.int (1 : Int32)), .val (.int v1049), .val (.ref b1050), .unset, .unset] [(.ref b1050)]))
    refine OEnds.st (fun _ k => XS.iconst X1058.here hx rfl (hb hby at_40) k) ?_
    show OEnds p.tables e below G (T1058.setTop (mkF m 41 #[.val (.int p1), .val (.int p2), .val (.int p3), .val (.int (1 : Int32)), .val (.int v1049), .val (.ref b1050), .unset, .unset] [(.int (4 : Int32)), (.ref b1050)]))
    refine OEnds.st (fun _ k => XS.iload X1058.here hx rfl (hb hby at_41) rfl k) ?_
    show OEnds p.tables e below G (T1058.setTop (mkF m 43 #[.val (.int p1), .val (.int p2), .val (.int p3), .val (.int (1 : Int32)), .val (.int v1049), .val (.ref b1050), .unset, .unset] [(.int v1049), (.int (4 : Int32)), (.ref b1050)]))
    obtain ⟨cl1060, Ar1060, q1060, S1060, N1060n, H1060, G1060⟩ := id f1059
    have hin1060 : ¬ ((4 : Int32) < 0 ∨ cl1060.slots.size ≤ ((4 : Int32)).toNatClampNeg) := inb_of S1060 ⟨by decide, by decide⟩
    obtain ⟨T1060, h1060, X1060, e1060, W1060, st1060⟩ := stB X1058 hx hZ e1058 Ar1060 (j := (4 : Int32)) hin1060 (g := (mkF m 43 #[.val (.int p1), .val (.int p2), .val (.int p3), .val (.int (1 : Int32)), .val (.int v1049), .val (.ref b1050), .unset, .unset] [(.int v1049), (.int (4 : Int32)), (.ref b1050)])) rfl rfl (hb hby at_43)
    refine OEnds.st st1060 ?_
    rw [hf8] at W1060
    have f1061 : Arv Z h1060 b1050 k1050 .byte (9 : Int32) [(.int v1049), (.int v1049), (.int v1049), (.int v1049), (.int v1049), (.int (0 : Int32)), (.int (0 : Int32)), (.int (0 : Int32)), (.int (0 : Int32))] (.int (0 : Int32)) := Arv.set Ar1060 q1060 S1060 N1060n H1060 G1060 (by rw [← hf8]; exact fits_nar_byte _) W1060 4 rfl (Nat.le_of_ble_eq_true rfl)
    have N1060 := Fr.snoc X1060 N1058 ge_b1050
    have KK1060 : Keep h0 h1060 [] := KK1058.wr W1060 (Or.inr sz_b1050)
    have Z1060 := Nat.le_trans Z1058 (Keep.of_wr W1060).1
    show OEnds p.tables e below G (T1060.setTop (mkF m 44 #[.val (.int p1), .val (.int p2), .val (.int p3), .val (.int (1 : Int32)), .val (.int v1049), .val (.ref b1050), .unset, .unset] []))
    refine OEnds.st (fun _ k => XS.aload X1060.here hx rfl (hb hby at_44) rfl rfl k) ?_
    show OEnds p.tables e below G (T1060.setTop (mkF m 46 #[.val (.int p1), .val (.int p2), .val (.int p3), .val (.int (1 : Int32)), .val (.int v1049), .val (.ref b1050), .unset, .unset] [(.ref b1050)]))
    refine OEnds.st (fun _ k => XS.iconst X1060.here hx rfl (hb hby at_46) k) ?_
    show OEnds p.tables e below G (T1060.setTop (mkF m 47 #[.val (.int p1), .val (.int p2), .val (.int p3), .val (.int (1 : Int32)), .val (.int v1049), .val (.ref b1050), .unset, .unset] [(.int (5 : Int32)), (.ref b1050)]))
    refine OEnds.st (fun _ k => XS.iload X1060.here hx rfl (hb hby at_47) rfl k) ?_
    show OEnds p.tables e below G (T1060.setTop (mkF m 49 #[.val (.int p1), .val (.int p2), .val (.int p3), .val (.int (1 : Int32)), .val (.int v1049), .val (.ref b1050), .unset, .unset] [(.int v1049), (.int (5 : Int32)), (.ref b1050)]))
    obtain ⟨cl1062, Ar1062, q1062, S1062, N1062n, H1062, G1062⟩ := id f1061
    have hin1062 : ¬ ((5 : Int32) < 0 ∨ cl1062.slots.size ≤ ((5 : Int32)).toNatClampNeg) := inb_of S1062 ⟨by decide, by decide⟩
    obtain ⟨T1062, h1062, X1062, e1062, W1062, st1062⟩ := stB X1060 hx hZ e1060 Ar1062 (j := (5 : Int32)) hin1062 (g := (mkF m 49 #[.val (.int p1), .val (.int p2), .val (.int p3), .val (.int (1 : Int32)), .val (.int v1049), .val (.ref b1050), .unset, .unset] [(.int v1049), (.int (5 : Int32)), (.ref b1050)])) rfl rfl (hb hby at_49)
    refine OEnds.st st1062 ?_
    rw [hf8] at W1062
    have f1063 : Arv Z h1062 b1050 k1050 .byte (9 : Int32) [(.int v1049), (.int v1049), (.int v1049), (.int v1049), (.int v1049), (.int v1049), (.int (0 : Int32)), (.int (0 : Int32)), (.int (0 : Int32))] (.int (0 : Int32)) := Arv.set Ar1062 q1062 S1062 N1062n H1062 G1062 (by rw [← hf8]; exact fits_nar_byte _) W1062 5 rfl (Nat.le_of_ble_eq_true rfl)
    have N1062 := Fr.snoc X1062 N1060 ge_b1050
    have KK1062 : Keep h0 h1062 [] := KK1060.wr W1062 (Or.inr sz_b1050)
    have Z1062 := Nat.le_trans Z1060 (Keep.of_wr W1062).1
    show OEnds p.tables e below G (T1062.setTop (mkF m 50 #[.val (.int p1), .val (.int p2), .val (.int p3), .val (.int (1 : Int32)), .val (.int v1049), .val (.ref b1050), .unset, .unset] []))
    refine OEnds.st (fun _ k => XS.aload X1062.here hx rfl (hb hby at_50) rfl rfl k) ?_
    show OEnds p.tables e below G (T1062.setTop (mkF m 52 #[.val (.int p1), .val (.int p2), .val (.int p3), .val (.int (1 : Int32)), .val (.int v1049), .val (.ref b1050), .unset, .unset] [(.ref b1050)]))
    refine OEnds.st (fun _ k => XS.bipush X1062.here hx rfl (hb hby at_52) k) ?_
    show OEnds p.tables e below G (T1062.setTop (mkF m 54 #[.val (.int p1), .val (.int p2), .val (.int p3), .val (.int (1 : Int32)), .val (.int v1049), .val (.ref b1050), .unset, .unset] [(.int (6 : Int32)), (.ref b1050)]))
    refine OEnds.st (fun _ k => XS.iload X1062.here hx rfl (hb hby at_54) rfl k) ?_
    show OEnds p.tables e below G (T1062.setTop (mkF m 56 #[.val (.int p1), .val (.int p2), .val (.int p3), .val (.int (1 : Int32)), .val (.int v1049), .val (.ref b1050), .unset, .unset] [(.int v1049), (.int (6 : Int32)), (.ref b1050)]))
    obtain ⟨cl1064, Ar1064, q1064, S1064, N1064n, H1064, G1064⟩ := id f1063
    have hin1064 : ¬ ((6 : Int32) < 0 ∨ cl1064.slots.size ≤ ((6 : Int32)).toNatClampNeg) := inb_of S1064 ⟨by decide, by decide⟩
    obtain ⟨T1064, h1064, X1064, e1064, W1064, st1064⟩ := stB X1062 hx hZ e1062 Ar1064 (j := (6 : Int32)) hin1064 (g := (mkF m 56 #[.val (.int p1), .val (.int p2), .val (.int p3), .val (.int (1 : Int32)), .val (.int v1049), .val (.ref b1050), .unset, .unset] [(.int v1049), (.int (6 : Int32)), (.ref b1050)])) rfl rfl (hb hby at_56)
    refine OEnds.st st1064 ?_
    rw [hf8] at W1064
    have f1065 : Arv Z h1064 b1050 k1050 .byte (9 : Int32) [(.int v1049), (.int v1049), (.int v1049), (.int v1049), (.int v1049), (.int v1049), (.int v1049), (.int (0 : Int32)), (.int (0 : Int32))] (.int (0 : Int32)) := Arv.set Ar1064 q1064 S1064 N1064n H1064 G1064 (by rw [← hf8]; exact fits_nar_byte _) W1064 6 rfl (Nat.le_of_ble_eq_true rfl)
    have N1064 := Fr.snoc X1064 N1062 ge_b1050
    have KK1064 : Keep h0 h1064 [] := KK1062.wr W1064 (Or.inr sz_b1050)
    have Z1064 := Nat.le_trans Z1062 (Keep.of_wr W1064).1
    show OEnds p.tables e below G (T1064.setTop (mkF m 57 #[.val (.int p1), .val (.int p2), .val (.int p3), .val (.int (1 : Int32)), .val (.int v1049), .val (.ref b1050), .unset, .unset] []))
    refine OEnds.st (fun _ k => XS.aload X1064.here hx rfl (hb hby at_57) rfl rfl k) ?_
    show OEnds p.tables e below G (T1064.setTop (mkF m 59 #[.val (.int p1), .val (.int p2), .val (.int p3), .val (.int (1 : Int32)), .val (.int v1049), .val (.ref b1050), .unset, .unset] [(.ref b1050)]))
    refine OEnds.st (fun _ k => XS.bipush X1064.here hx rfl (hb hby at_59) k) ?_
    show OEnds p.tables e below G (T1064.setTop (mkF m 61 #[.val (.int p1), .val (.int p2), .val (.int p3), .val (.int (1 : Int32)), .val (.int v1049), .val (.ref b1050), .unset, .unset] [(.int (7 : Int32)), (.ref b1050)]))
    refine OEnds.st (fun _ k => XS.iload X1064.here hx rfl (hb hby at_61) rfl k) ?_
    show OEnds p.tables e below G (T1064.setTop (mkF m 63 #[.val (.int p1), .val (.int p2), .val (.int p3), .val (.int (1 : Int32)), .val (.int v1049), .val (.ref b1050), .unset, .unset] [(.int v1049), (.int (7 : Int32)), (.ref b1050)]))
    obtain ⟨cl1066, Ar1066, q1066, S1066, N1066n, H1066, G1066⟩ := id f1065
    have hin1066 : ¬ ((7 : Int32) < 0 ∨ cl1066.slots.size ≤ ((7 : Int32)).toNatClampNeg) := inb_of S1066 ⟨by decide, by decide⟩
    obtain ⟨T1066, h1066, X1066, e1066, W1066, st1066⟩ := stB X1064 hx hZ e1064 Ar1066 (j := (7 : Int32)) hin1066 (g := (mkF m 63 #[.val (.int p1), .val (.int p2), .val (.int p3), .val (.int (1 : Int32)), .val (.int v1049), .val (.ref b1050), .unset, .unset] [(.int v1049), (.int (7 : Int32)), (.ref b1050)])) rfl rfl (hb hby at_63)
    refine OEnds.st st1066 ?_
    rw [hf8] at W1066
    have f1067 : Arv Z h1066 b1050 k1050 .byte (9 : Int32) [(.int v1049), (.int v1049), (.int v1049), (.int v1049), (.int v1049), (.int v1049), (.int v1049), (.int v1049), (.int (0 : Int32))] (.int (0 : Int32)) := Arv.set Ar1066 q1066 S1066 N1066n H1066 G1066 (by rw [← hf8]; exact fits_nar_byte _) W1066 7 rfl (Nat.le_of_ble_eq_true rfl)
    have N1066 := Fr.snoc X1066 N1064 ge_b1050
    have KK1066 : Keep h0 h1066 [] := KK1064.wr W1066 (Or.inr sz_b1050)
    have Z1066 := Nat.le_trans Z1064 (Keep.of_wr W1066).1
    show OEnds p.tables e below G (T1066.setTop (mkF m 64 #[.val (.int p1), .val (.int p2), .val (.int p3), .val (.int (1 : Int32)), .val (.int v1049), .val (.ref b1050), .unset, .unset] []))
    refine OEnds.st (fun _ k => XS.aload X1066.here hx rfl (hb hby at_64) rfl rfl k) ?_
    show OEnds p.tables e below G (T1066.setTop (mkF m 66 #[.val (.int p1), .val (.int p2), .val (.int p3), .val (.int (1 : Int32)), .val (.int v1049), .val (.ref b1050), .unset, .unset] [(.ref b1050)]))
    refine OEnds.st (fun _ k => XS.bipush X1066.here hx rfl (hb hby at_66) k) ?_
    show OEnds p.tables e below G (T1066.setTop (mkF m 68 #[.val (.int p1), .val (.int p2), .val (.int p3), .val (.int (1 : Int32)), .val (.int v1049), .val (.ref b1050), .unset, .unset] [(.int (8 : Int32)), (.ref b1050)]))
    refine OEnds.st (fun _ k => XS.iload X1066.here hx rfl (hb hby at_68) rfl k) ?_
    show OEnds p.tables e below G (T1066.setTop (mkF m 70 #[.val (.int p1), .val (.int p2), .val (.int p3), .val (.int (1 : Int32)), .val (.int v1049), .val (.ref b1050), .unset, .unset] [(.int v1049), (.int (8 : Int32)), (.ref b1050)]))
    obtain ⟨cl1068, Ar1068, q1068, S1068, N1068n, H1068, G1068⟩ := id f1067
    have hin1068 : ¬ ((8 : Int32) < 0 ∨ cl1068.slots.size ≤ ((8 : Int32)).toNatClampNeg) := inb_of S1068 ⟨by decide, by decide⟩
    obtain ⟨T1068, h1068, X1068, e1068, W1068, st1068⟩ := stB X1066 hx hZ e1066 Ar1068 (j := (8 : Int32)) hin1068 (g := (mkF m 70 #[.val (.int p1), .val (.int p2), .val (.int p3), .val (.int (1 : Int32)), .val (.int v1049), .val (.ref b1050), .unset, .unset] [(.int v1049), (.int (8 : Int32)), (.ref b1050)])) rfl rfl (hb hby at_70)
    refine OEnds.st st1068 ?_
    rw [hf8] at W1068
    have f1069 : Arv Z h1068 b1050 k1050 .byte (9 : Int32) [(.int v1049), (.int v1049), (.int v1049), (.int v1049), (.int v1049), (.int v1049), (.int v1049), (.int v1049), (.int v1049)] (.int (0 : Int32)) := Arv.set Ar1068 q1068 S1068 N1068n H1068 G1068 (by rw [← hf8]; exact fits_nar_byte _) W1068 8 rfl (Nat.le_of_ble_eq_true rfl)
    have N1068 := Fr.snoc X1068 N1066 ge_b1050
    have KK1068 : Keep h0 h1068 [] := KK1066.wr W1068 (Or.inr sz_b1050)
    have Z1068 := Nat.le_trans Z1066 (Keep.of_wr W1068).1
    show OEnds p.tables e below G (T1068.setTop (mkF m 71 #[.val (.int p1), .val (.int p2), .val (.int p3), .val (.int (1 : Int32)), .val (.int v1049), .val (.ref b1050), .unset, .unset] []))
    refine OEnds.st (fun _ k => XS.aload X1068.here hx rfl (hb hby at_71) rfl rfl k) ?_
    show OEnds p.tables e below G (T1068.setTop (mkF m 73 #[.val (.int p1), .val (.int p2), .val (.int p3), .val (.int (1 : Int32)), .val (.int v1049), .val (.ref b1050), .unset, .unset] [(.ref b1050)]))
    refine OEnds.st (fun _ k => XS.iloadN X1068.here hx rfl (hb hby at_73) rfl k) ?_
    show OEnds p.tables e below G (T1068.setTop (mkF m 74 #[.val (.int p1), .val (.int p2), .val (.int p3), .val (.int (1 : Int32)), .val (.int v1049), .val (.ref b1050), .unset, .unset] [(.int (1 : Int32)), (.ref b1050)]))
    refine OEnds.st (fun _ k => XS.iloadN X1068.here hx rfl (hb hby at_74) rfl k) ?_
    show OEnds p.tables e below G (T1068.setTop (mkF m 75 #[.val (.int p1), .val (.int p2), .val (.int p3), .val (.int (1 : Int32)), .val (.int v1049), .val (.ref b1050), .unset, .unset] [(.int p1), (.int (1 : Int32)), (.ref b1050)]))
    obtain ⟨_, _, ⟨T1070, L1070, k1070c, n1070c⟩, -, X1070, ⟨Lc1070, hQ1070, l1070, y1070, z1070⟩, st1070⟩ := Jvm.LawKit.callS X1068 hx (y := (⟨"com/example/words_to_weights/wordstoweights/index/IndexFormat", "putNumber", "([BII)I"⟩ : MethodName)) hown (mvT hZ (hw _ (List.mem_of_getElem? (i := 1) rfl))) (mvT hZ (hw _ (List.mem_of_getElem? (i := 2) rfl))) (mvT hZ (hw _ (List.mem_of_getElem? (i := 3) rfl))) (mvT hZ (hw _ (List.mem_of_getElem? (i := 4) rfl))) (by decide) (backOf (W := 0) (rmput1 l Z a0 hw [] b1050 p1 k1050 v1049 h1068 n0 Z1068 f1069 ge_b1050 hf8) hZ (hw _ (List.mem_of_getElem? (i := 4) rfl)) (hw _ (List.mem_of_getElem? (i := 3) rfl)) (by decide) (by decide)) (g := (mkF m 75 #[.val (.int p1), .val (.int p2), .val (.int p3), .val (.int (1 : Int32)), .val (.int v1049), .val (.ref b1050), .unset, .unset] [(.int p1), (.int (1 : Int32)), (.ref b1050)])) rfl (by rw [hml]; rfl) (argsL := [(.ref b1050), (.int (1 : Int32)), (.int p1)]) (rest := []) (lenOf pd_0 rfl) rfl (by show 2 * 0 + _ ≤ _; exact Nat.le_of_eq rfl) (hb hby at_75) (fun _ _ => ⟨rfl, e1068, (by decide : 0 + 1 + 0 ≤ _), (by decide : 0 + 9 + 0 ≤ _)⟩)
    dsimp only [Pt.U, Pt.locs, Pt.cells, Pt.slots] at X1070 l1070 y1070 z1070 st1070 hQ1070
    subst l1070 y1070 z1070
    obtain ⟨rfl, N1070q, p1071, p1072⟩ := hQ1070
    have N1070 := Fr.app N1068 N1070q
    refine OEnds.st st1070 ?_
    have KK1070 : Keep h0 T1070.heap [] := KK1068.trans p1071 (fun x hx => by cases List.mem_singleton.mp hx; exact Or.inr sz_b1050)
    have Z1070 := Nat.le_trans Z1068 p1071.1
    show OEnds p.tables e below G (T1070.setTop (mkF m 78 #[.val (.int p1), .val (.int p2), .val (.int p3), .val (.int (1 : Int32)), .val (.int v1049), .val (.ref b1050), .unset, .unset] [(.int ((1 : Int32) + own_cnt p1))]))
    refine OEnds.st (fun _ k => XS.istore X1070.here hx rfl (hb hby at_78) rfl (l' := #[.val (.int p1), .val (.int p2), .val (.int p3), .val (.int (1 : Int32)), .val (.int v1049), .val (.ref b1050), .val (.int ((1 : Int32) + own_cnt p1)), .unset]) rfl k) ?_
    show OEnds p.tables e below G (T1070.setTop (mkF m 80 #[.val (.int p1), .val (.int p2), .val (.int p3), .val (.int (1 : Int32)), .val (.int v1049), .val (.ref b1050), .val (.int ((1 : Int32) + own_cnt p1)), .unset] []))
    generalize hv_v1074 : ((1 : Int32) + own_cnt p1) = v1074
    show OEnds p.tables e below G (T1070.setTop (mkF m 80 #[.val (.int p1), .val (.int p2), .val (.int p3), .val (.int (1 : Int32)), .val (.int v1049), .val (.ref b1050), .val (.int v1074), .unset] []))
    refine OEnds.st (fun _ k => XS.iloadN X1070.here hx rfl (hb hby at_80) rfl k) ?_
    show OEnds p.tables e below G (T1070.setTop (mkF m 81 #[.val (.int p1), .val (.int p2), .val (.int p3), .val (.int (1 : Int32)), .val (.int v1049), .val (.ref b1050), .val (.int v1074), .unset] [(.int p1)]))
    obtain ⟨_, _, ⟨T1075, L1075, k1075c, n1075c⟩, -, X1075, ⟨Lc1075, hQ1075, l1075, y1075, z1075⟩, st1075⟩ := Jvm.LawKit.callS X1070 hx (y := (⟨"com/example/words_to_weights/wordstoweights/index/IndexFormatPutNumberPinLaw", "length", "(I)I"⟩ : MethodName)) hown (mvT hZ (hw _ (List.mem_of_getElem? (i := 5) rfl))) (mvT hZ (hw _ (List.mem_of_getElem? (i := 6) rfl))) (mvT hZ (hw _ (List.mem_of_getElem? (i := 7) rfl))) (mvT hZ (hw _ (List.mem_of_getElem? (i := 8) rfl))) (by decide) (backOf (W := 0) (rm2 l Z a0 hw [] p1 T1070.heap n0 Z1070 ) hZ (hw _ (List.mem_of_getElem? (i := 8) rfl)) (hw _ (List.mem_of_getElem? (i := 7) rfl)) (by decide) (by decide)) (g := (mkF m 81 #[.val (.int p1), .val (.int p2), .val (.int p3), .val (.int (1 : Int32)), .val (.int v1049), .val (.ref b1050), .val (.int v1074), .unset] [(.int p1)])) rfl (by rw [hml]; rfl) (argsL := [(.int p1)]) (rest := []) (lenOf pd_1 rfl) rfl (by show 2 * 0 + _ ≤ _; exact Nat.le_of_eq rfl) (hb hby at_81) (fun _ _ => ⟨rfl, rfl, (by decide : 0 + 1 + 0 + 0 ≤ _), (by decide : 0 + 9 + 0 + 0 ≤ _)⟩)
    dsimp only [Pt.U, Pt.locs, Pt.cells, Pt.slots] at X1075 l1075 y1075 z1075 st1075 hQ1075
    subst l1075 y1075 z1075
    obtain ⟨rfl, N1075q, e1075⟩ := hQ1075
    have N1075 := Fr.app N1070 N1075q
    refine OEnds.st st1075 ?_
    show OEnds p.tables e below G (T1075.setTop (mkF m 84 #[.val (.int p1), .val (.int p2), .val (.int p3), .val (.int (1 : Int32)), .val (.int v1049), .val (.ref b1050), .val (.int v1074), .unset] [(.int (own_len p1))]))
    refine OEnds.st (fun _ k => XS.istore X1075.here hx rfl (hb hby at_84) rfl (l' := #[.val (.int p1), .val (.int p2), .val (.int p3), .val (.int (1 : Int32)), .val (.int v1049), .val (.ref b1050), .val (.int v1074), .val (.int (own_len p1))]) rfl k) ?_
    show OEnds p.tables e below G (T1075.setTop (mkF m 86 #[.val (.int p1), .val (.int p2), .val (.int p3), .val (.int (1 : Int32)), .val (.int v1049), .val (.ref b1050), .val (.int v1074), .val (.int (own_len p1))] []))
    generalize hv_v1076 : (own_len p1) = v1076
    show OEnds p.tables e below G (T1075.setTop (mkF m 86 #[.val (.int p1), .val (.int p2), .val (.int p3), .val (.int (1 : Int32)), .val (.int v1049), .val (.ref b1050), .val (.int v1074), .val (.int v1076)] []))
    refine OEnds.st (fun _ k => XS.iload X1075.here hx rfl (hb hby at_86) rfl k) ?_
    show OEnds p.tables e below G (T1075.setTop (mkF m 88 #[.val (.int p1), .val (.int p2), .val (.int p3), .val (.int (1 : Int32)), .val (.int v1049), .val (.ref b1050), .val (.int v1074), .val (.int v1076)] [(.int v1074)]))
    refine OEnds.st (fun _ k => XS.iloadN X1075.here hx rfl (hb hby at_88) rfl k) ?_
    show OEnds p.tables e below G (T1075.setTop (mkF m 89 #[.val (.int p1), .val (.int p2), .val (.int p3), .val (.int (1 : Int32)), .val (.int v1049), .val (.ref b1050), .val (.int v1074), .val (.int v1076)] [(.int (1 : Int32)), (.int v1074)]))
    refine OEnds.st (fun _ k => XS.iload X1075.here hx rfl (hb hby at_89) rfl k) ?_
    show OEnds p.tables e below G (T1075.setTop (mkF m 91 #[.val (.int p1), .val (.int p2), .val (.int p3), .val (.int (1 : Int32)), .val (.int v1049), .val (.ref b1050), .val (.int v1074), .val (.int v1076)] [(.int v1076), (.int (1 : Int32)), (.int v1074)]))
    refine OEnds.st (fun _ k => XS.iadd X1075.here hx rfl (hb hby at_91) rfl k) ?_
    show OEnds p.tables e below G (T1075.setTop (mkF m 92 #[.val (.int p1), .val (.int p2), .val (.int p3), .val (.int (1 : Int32)), .val (.int v1049), .val (.ref b1050), .val (.int v1074), .val (.int v1076)] [(.int ((1 : Int32) + v1076)), (.int v1074)]))
    have hc92_1077 : v1074 = ((1 : Int32) + v1076) := by rw [← hv_v1074, ← hv_v1076, own_cnt_len]
    refine OEnds.st (fun _ k => XS.icmpYes X1075.here hx rfl (pc0 := 92) (pc' := 97) rfl (hb hby at_92) rfl (teq hc92_1077).1 (by decide) (by decide) k) ?_
    show OEnds p.tables e below G (T1075.setTop (mkF m 97 #[.val (.int p1), .val (.int p2), .val (.int p3), .val (.int (1 : Int32)), .val (.int v1049), .val (.ref b1050), .val (.int v1074), .val (.int v1076)] []))
    refine OEnds.st (fun _ k => XS.aload X1075.here hx rfl (hb hby at_97) rfl rfl k) ?_
    show OEnds p.tables e below G (T1075.setTop (mkF m 99 #[.val (.int p1), .val (.int p2), .val (.int p3), .val (.int (1 : Int32)), .val (.int v1049), .val (.ref b1050), .val (.int v1074), .val (.int v1076)] [(.ref b1050)]))
    refine OEnds.st (fun _ k => XS.iconst X1075.here hx rfl (hb hby at_99) k) ?_
    show OEnds p.tables e below G (T1075.setTop (mkF m 100 #[.val (.int p1), .val (.int p2), .val (.int p3), .val (.int (1 : Int32)), .val (.int v1049), .val (.ref b1050), .val (.int v1074), .val (.int v1076)] [(.int (0 : Int32)), (.ref b1050)]))
    refine OEnds.st (fun _ k => XS.iloadN X1075.here hx rfl (hb hby at_100) rfl k) ?_
    show OEnds p.tables e below G (T1075.setTop (mkF m 101 #[.val (.int p1), .val (.int p2), .val (.int p3), .val (.int (1 : Int32)), .val (.int v1049), .val (.ref b1050), .val (.int v1074), .val (.int v1076)] [(.int (1 : Int32)), (.int (0 : Int32)), (.ref b1050)]))
    refine OEnds.st (fun _ k => XS.iload X1075.here hx rfl (hb hby at_101) rfl k) ?_
    show OEnds p.tables e below G (T1075.setTop (mkF m 103 #[.val (.int p1), .val (.int p2), .val (.int p3), .val (.int (1 : Int32)), .val (.int v1049), .val (.ref b1050), .val (.int v1074), .val (.int v1076)] [(.int v1076), (.int (1 : Int32)), (.int (0 : Int32)), (.ref b1050)]))
    refine OEnds.st (fun _ k => XS.iloadN X1075.here hx rfl (hb hby at_103) rfl k) ?_
    show OEnds p.tables e below G (T1075.setTop (mkF m 104 #[.val (.int p1), .val (.int p2), .val (.int p3), .val (.int (1 : Int32)), .val (.int v1049), .val (.ref b1050), .val (.int v1074), .val (.int v1076)] [(.int p1), (.int v1076), (.int (1 : Int32)), (.int (0 : Int32)), (.ref b1050)]))
    refine OEnds.st (fun _ k => XS.iload X1075.here hx rfl (hb hby at_104) rfl k) ?_
    show OEnds p.tables e below G (T1075.setTop (mkF m 106 #[.val (.int p1), .val (.int p2), .val (.int p3), .val (.int (1 : Int32)), .val (.int v1049), .val (.ref b1050), .val (.int v1074), .val (.int v1076)] [(.int v1049), (.int p1), (.int v1076), (.int (1 : Int32)), (.int (0 : Int32)), (.ref b1050)]))
    obtain ⟨_, _, ⟨T1078, L1078, k1078c, n1078c⟩, -, X1078, ⟨Lc1078, hQ1078, l1078, y1078, z1078⟩, st1078⟩ := Jvm.LawKit.callS X1075 hx (y := (⟨"com/example/words_to_weights/wordstoweights/index/IndexFormatPutNumberPinLaw", "at", "([BIIIIB)Z"⟩ : MethodName)) hown (mvT hZ (hw _ (List.mem_of_getElem? (i := 9) rfl))) (mvT hZ (hw _ (List.mem_of_getElem? (i := 10) rfl))) (mvT hZ (hw _ (List.mem_of_getElem? (i := 7) rfl))) (mvT hZ (hw _ (List.mem_of_getElem? (i := 11) rfl))) (by decide) (backOf (W := 0) (rm3 l Z a0 hw [] b1050 (0 : Int32) (1 : Int32) v1076 p1 v1049 k1050 (own_els 1 p1 v1049) (own_el 1 0 p1 v1049) T1070.heap n0 Z1070 p1072 (by decide) (by decide) rfl) hZ (hw _ (List.mem_of_getElem? (i := 11) rfl)) (hw _ (List.mem_of_getElem? (i := 7) rfl)) (by decide) (by decide)) (g := (mkF m 106 #[.val (.int p1), .val (.int p2), .val (.int p3), .val (.int (1 : Int32)), .val (.int v1049), .val (.ref b1050), .val (.int v1074), .val (.int v1076)] [(.int v1049), (.int p1), (.int v1076), (.int (1 : Int32)), (.int (0 : Int32)), (.ref b1050)])) rfl (by rw [hml]; rfl) (argsL := [(.ref b1050), (.int (0 : Int32)), (.int (1 : Int32)), (.int v1076), (.int p1), (.int v1049)]) (rest := []) (lenOf pd_2 rfl) rfl (by show 2 * 0 + _ ≤ _; exact Nat.le_of_eq rfl) (hb hby at_106) (fun _ _ => ⟨rfl, e1075, (by decide : 0 + 1 + 0 + 0 + 0 ≤ _), (by decide : 0 + 9 + 0 + 0 + 0 ≤ _)⟩)
    dsimp only [Pt.U, Pt.locs, Pt.cells, Pt.slots] at X1078 l1078 y1078 z1078 st1078 hQ1078
    subst l1078 y1078 z1078
    obtain ⟨rfl, N1078q, e1078⟩ := hQ1078
    have N1078 := Fr.app N1075 N1078q
    refine OEnds.st st1078 ?_
    show OEnds p.tables e below G (T1078.setTop (mkF m 109 #[.val (.int p1), .val (.int p2), .val (.int p3), .val (.int (1 : Int32)), .val (.int v1049), .val (.ref b1050), .val (.int v1074), .val (.int v1076)] [(.int (own_at (0 : Int32) (1 : Int32) v1076 p1 v1049 (own_el 1 0 p1 v1049)))]))
    have hc109_1079 : ¬ ((own_at (0 : Int32) (1 : Int32) v1076 p1 v1049 (own_el 1 0 p1 v1049)) = (0 : Int32)) := by rw [← hv_v1076, own_ok_1_0 p1 v1049]; decide
    refine OEnds.st (fun _ k => XS.ifNo X1078.here hx rfl (hb hby at_109) rfl ((if0 _ _).trans (feq hc109_1079).1) k) ?_
    show OEnds p.tables e below G (T1078.setTop (mkF m 112 #[.val (.int p1), .val (.int p2), .val (.int p3), .val (.int (1 : Int32)), .val (.int v1049), .val (.ref b1050), .val (.int v1074), .val (.int v1076)] []))
    refine OEnds.st (fun _ k => XS.aload X1078.here hx rfl (hb hby at_112) rfl rfl k) ?_
    show OEnds p.tables e below G (T1078.setTop (mkF m 114 #[.val (.int p1), .val (.int p2), .val (.int p3), .val (.int (1 : Int32)), .val (.int v1049), .val (.ref b1050), .val (.int v1074), .val (.int v1076)] [(.ref b1050)]))
    refine OEnds.st (fun _ k => XS.iconst X1078.here hx rfl (hb hby at_114) k) ?_
    show OEnds p.tables e below G (T1078.setTop (mkF m 115 #[.val (.int p1), .val (.int p2), .val (.int p3), .val (.int (1 : Int32)), .val (.int v1049), .val (.ref b1050), .val (.int v1074), .val (.int v1076)] [(.int (1 : Int32)), (.ref b1050)]))
    refine OEnds.st (fun _ k => XS.iloadN X1078.here hx rfl (hb hby at_115) rfl k) ?_
    show OEnds p.tables e below G (T1078.setTop (mkF m 116 #[.val (.int p1), .val (.int p2), .val (.int p3), .val (.int (1 : Int32)), .val (.int v1049), .val (.ref b1050), .val (.int v1074), .val (.int v1076)] [(.int (1 : Int32)), (.int (1 : Int32)), (.ref b1050)]))
    refine OEnds.st (fun _ k => XS.iload X1078.here hx rfl (hb hby at_116) rfl k) ?_
    show OEnds p.tables e below G (T1078.setTop (mkF m 118 #[.val (.int p1), .val (.int p2), .val (.int p3), .val (.int (1 : Int32)), .val (.int v1049), .val (.ref b1050), .val (.int v1074), .val (.int v1076)] [(.int v1076), (.int (1 : Int32)), (.int (1 : Int32)), (.ref b1050)]))
    refine OEnds.st (fun _ k => XS.iloadN X1078.here hx rfl (hb hby at_118) rfl k) ?_
    show OEnds p.tables e below G (T1078.setTop (mkF m 119 #[.val (.int p1), .val (.int p2), .val (.int p3), .val (.int (1 : Int32)), .val (.int v1049), .val (.ref b1050), .val (.int v1074), .val (.int v1076)] [(.int p1), (.int v1076), (.int (1 : Int32)), (.int (1 : Int32)), (.ref b1050)]))
    refine OEnds.st (fun _ k => XS.iload X1078.here hx rfl (hb hby at_119) rfl k) ?_
    show OEnds p.tables e below G (T1078.setTop (mkF m 121 #[.val (.int p1), .val (.int p2), .val (.int p3), .val (.int (1 : Int32)), .val (.int v1049), .val (.ref b1050), .val (.int v1074), .val (.int v1076)] [(.int v1049), (.int p1), (.int v1076), (.int (1 : Int32)), (.int (1 : Int32)), (.ref b1050)]))
    obtain ⟨_, _, ⟨T1080, L1080, k1080c, n1080c⟩, -, X1080, ⟨Lc1080, hQ1080, l1080, y1080, z1080⟩, st1080⟩ := Jvm.LawKit.callS X1078 hx (y := (⟨"com/example/words_to_weights/wordstoweights/index/IndexFormatPutNumberPinLaw", "at", "([BIIIIB)Z"⟩ : MethodName)) hown (mvT hZ (hw _ (List.mem_of_getElem? (i := 9) rfl))) (mvT hZ (hw _ (List.mem_of_getElem? (i := 10) rfl))) (mvT hZ (hw _ (List.mem_of_getElem? (i := 7) rfl))) (mvT hZ (hw _ (List.mem_of_getElem? (i := 11) rfl))) (by decide) (backOf (W := 0) (rm3 l Z a0 hw [] b1050 (1 : Int32) (1 : Int32) v1076 p1 v1049 k1050 (own_els 1 p1 v1049) (own_el 1 1 p1 v1049) T1070.heap n0 Z1070 p1072 (by decide) (by decide) rfl) hZ (hw _ (List.mem_of_getElem? (i := 11) rfl)) (hw _ (List.mem_of_getElem? (i := 7) rfl)) (by decide) (by decide)) (g := (mkF m 121 #[.val (.int p1), .val (.int p2), .val (.int p3), .val (.int (1 : Int32)), .val (.int v1049), .val (.ref b1050), .val (.int v1074), .val (.int v1076)] [(.int v1049), (.int p1), (.int v1076), (.int (1 : Int32)), (.int (1 : Int32)), (.ref b1050)])) rfl (by rw [hml]; rfl) (argsL := [(.ref b1050), (.int (1 : Int32)), (.int (1 : Int32)), (.int v1076), (.int p1), (.int v1049)]) (rest := []) (lenOf pd_2 rfl) rfl (by show 2 * 0 + _ ≤ _; exact Nat.le_of_eq rfl) (hb hby at_121) (fun _ _ => ⟨rfl, e1078, (by decide : 0 + 1 + 0 + 0 + 0 + 0 ≤ _), (by decide : 0 + 9 + 0 + 0 + 0 + 0 ≤ _)⟩)
    dsimp only [Pt.U, Pt.locs, Pt.cells, Pt.slots] at X1080 l1080 y1080 z1080 st1080 hQ1080
    subst l1080 y1080 z1080
    obtain ⟨rfl, N1080q, e1080⟩ := hQ1080
    have N1080 := Fr.app N1078 N1080q
    refine OEnds.st st1080 ?_
    show OEnds p.tables e below G (T1080.setTop (mkF m 124 #[.val (.int p1), .val (.int p2), .val (.int p3), .val (.int (1 : Int32)), .val (.int v1049), .val (.ref b1050), .val (.int v1074), .val (.int v1076)] [(.int (own_at (1 : Int32) (1 : Int32) v1076 p1 v1049 (own_el 1 1 p1 v1049)))]))
    have hc124_1081 : ¬ ((own_at (1 : Int32) (1 : Int32) v1076 p1 v1049 (own_el 1 1 p1 v1049)) = (0 : Int32)) := by rw [← hv_v1076, own_ok_1_1 p1 v1049]; decide
    refine OEnds.st (fun _ k => XS.ifNo X1080.here hx rfl (hb hby at_124) rfl ((if0 _ _).trans (feq hc124_1081).1) k) ?_
    show OEnds p.tables e below G (T1080.setTop (mkF m 127 #[.val (.int p1), .val (.int p2), .val (.int p3), .val (.int (1 : Int32)), .val (.int v1049), .val (.ref b1050), .val (.int v1074), .val (.int v1076)] []))
    refine OEnds.st (fun _ k => XS.aload X1080.here hx rfl (hb hby at_127) rfl rfl k) ?_
    show OEnds p.tables e below G (T1080.setTop (mkF m 129 #[.val (.int p1), .val (.int p2), .val (.int p3), .val (.int (1 : Int32)), .val (.int v1049), .val (.ref b1050), .val (.int v1074), .val (.int v1076)] [(.ref b1050)]))
    refine OEnds.st (fun _ k => XS.iconst X1080.here hx rfl (hb hby at_129) k) ?_
    show OEnds p.tables e below G (T1080.setTop (mkF m 130 #[.val (.int p1), .val (.int p2), .val (.int p3), .val (.int (1 : Int32)), .val (.int v1049), .val (.ref b1050), .val (.int v1074), .val (.int v1076)] [(.int (2 : Int32)), (.ref b1050)]))
    refine OEnds.st (fun _ k => XS.iloadN X1080.here hx rfl (hb hby at_130) rfl k) ?_
    show OEnds p.tables e below G (T1080.setTop (mkF m 131 #[.val (.int p1), .val (.int p2), .val (.int p3), .val (.int (1 : Int32)), .val (.int v1049), .val (.ref b1050), .val (.int v1074), .val (.int v1076)] [(.int (1 : Int32)), (.int (2 : Int32)), (.ref b1050)]))
    refine OEnds.st (fun _ k => XS.iload X1080.here hx rfl (hb hby at_131) rfl k) ?_
    show OEnds p.tables e below G (T1080.setTop (mkF m 133 #[.val (.int p1), .val (.int p2), .val (.int p3), .val (.int (1 : Int32)), .val (.int v1049), .val (.ref b1050), .val (.int v1074), .val (.int v1076)] [(.int v1076), (.int (1 : Int32)), (.int (2 : Int32)), (.ref b1050)]))
    refine OEnds.st (fun _ k => XS.iloadN X1080.here hx rfl (hb hby at_133) rfl k) ?_
    show OEnds p.tables e below G (T1080.setTop (mkF m 134 #[.val (.int p1), .val (.int p2), .val (.int p3), .val (.int (1 : Int32)), .val (.int v1049), .val (.ref b1050), .val (.int v1074), .val (.int v1076)] [(.int p1), (.int v1076), (.int (1 : Int32)), (.int (2 : Int32)), (.ref b1050)]))
    refine OEnds.st (fun _ k => XS.iload X1080.here hx rfl (hb hby at_134) rfl k) ?_
    show OEnds p.tables e below G (T1080.setTop (mkF m 136 #[.val (.int p1), .val (.int p2), .val (.int p3), .val (.int (1 : Int32)), .val (.int v1049), .val (.ref b1050), .val (.int v1074), .val (.int v1076)] [(.int v1049), (.int p1), (.int v1076), (.int (1 : Int32)), (.int (2 : Int32)), (.ref b1050)]))
    obtain ⟨_, _, ⟨T1082, L1082, k1082c, n1082c⟩, -, X1082, ⟨Lc1082, hQ1082, l1082, y1082, z1082⟩, st1082⟩ := Jvm.LawKit.callS X1080 hx (y := (⟨"com/example/words_to_weights/wordstoweights/index/IndexFormatPutNumberPinLaw", "at", "([BIIIIB)Z"⟩ : MethodName)) hown (mvT hZ (hw _ (List.mem_of_getElem? (i := 9) rfl))) (mvT hZ (hw _ (List.mem_of_getElem? (i := 10) rfl))) (mvT hZ (hw _ (List.mem_of_getElem? (i := 7) rfl))) (mvT hZ (hw _ (List.mem_of_getElem? (i := 11) rfl))) (by decide) (backOf (W := 0) (rm3 l Z a0 hw [] b1050 (2 : Int32) (1 : Int32) v1076 p1 v1049 k1050 (own_els 1 p1 v1049) (own_el 1 2 p1 v1049) T1070.heap n0 Z1070 p1072 (by decide) (by decide) rfl) hZ (hw _ (List.mem_of_getElem? (i := 11) rfl)) (hw _ (List.mem_of_getElem? (i := 7) rfl)) (by decide) (by decide)) (g := (mkF m 136 #[.val (.int p1), .val (.int p2), .val (.int p3), .val (.int (1 : Int32)), .val (.int v1049), .val (.ref b1050), .val (.int v1074), .val (.int v1076)] [(.int v1049), (.int p1), (.int v1076), (.int (1 : Int32)), (.int (2 : Int32)), (.ref b1050)])) rfl (by rw [hml]; rfl) (argsL := [(.ref b1050), (.int (2 : Int32)), (.int (1 : Int32)), (.int v1076), (.int p1), (.int v1049)]) (rest := []) (lenOf pd_2 rfl) rfl (by show 2 * 0 + _ ≤ _; exact Nat.le_of_eq rfl) (hb hby at_136) (fun _ _ => ⟨rfl, e1080, (by decide : 0 + 1 + 0 + 0 + 0 + 0 + 0 ≤ _), (by decide : 0 + 9 + 0 + 0 + 0 + 0 + 0 ≤ _)⟩)
    dsimp only [Pt.U, Pt.locs, Pt.cells, Pt.slots] at X1082 l1082 y1082 z1082 st1082 hQ1082
    subst l1082 y1082 z1082
    obtain ⟨rfl, N1082q, e1082⟩ := hQ1082
    have N1082 := Fr.app N1080 N1082q
    refine OEnds.st st1082 ?_
    show OEnds p.tables e below G (T1082.setTop (mkF m 139 #[.val (.int p1), .val (.int p2), .val (.int p3), .val (.int (1 : Int32)), .val (.int v1049), .val (.ref b1050), .val (.int v1074), .val (.int v1076)] [(.int (own_at (2 : Int32) (1 : Int32) v1076 p1 v1049 (own_el 1 2 p1 v1049)))]))
    have hc139_1083 : ¬ ((own_at (2 : Int32) (1 : Int32) v1076 p1 v1049 (own_el 1 2 p1 v1049)) = (0 : Int32)) := by rw [← hv_v1076, own_ok_1_2 p1 v1049]; decide
    refine OEnds.st (fun _ k => XS.ifNo X1082.here hx rfl (hb hby at_139) rfl ((if0 _ _).trans (feq hc139_1083).1) k) ?_
    show OEnds p.tables e below G (T1082.setTop (mkF m 142 #[.val (.int p1), .val (.int p2), .val (.int p3), .val (.int (1 : Int32)), .val (.int v1049), .val (.ref b1050), .val (.int v1074), .val (.int v1076)] []))
    refine OEnds.st (fun _ k => XS.aload X1082.here hx rfl (hb hby at_142) rfl rfl k) ?_
    show OEnds p.tables e below G (T1082.setTop (mkF m 144 #[.val (.int p1), .val (.int p2), .val (.int p3), .val (.int (1 : Int32)), .val (.int v1049), .val (.ref b1050), .val (.int v1074), .val (.int v1076)] [(.ref b1050)]))
    refine OEnds.st (fun _ k => XS.iconst X1082.here hx rfl (hb hby at_144) k) ?_
    show OEnds p.tables e below G (T1082.setTop (mkF m 145 #[.val (.int p1), .val (.int p2), .val (.int p3), .val (.int (1 : Int32)), .val (.int v1049), .val (.ref b1050), .val (.int v1074), .val (.int v1076)] [(.int (3 : Int32)), (.ref b1050)]))
    refine OEnds.st (fun _ k => XS.iloadN X1082.here hx rfl (hb hby at_145) rfl k) ?_
    show OEnds p.tables e below G (T1082.setTop (mkF m 146 #[.val (.int p1), .val (.int p2), .val (.int p3), .val (.int (1 : Int32)), .val (.int v1049), .val (.ref b1050), .val (.int v1074), .val (.int v1076)] [(.int (1 : Int32)), (.int (3 : Int32)), (.ref b1050)]))
    refine OEnds.st (fun _ k => XS.iload X1082.here hx rfl (hb hby at_146) rfl k) ?_
    show OEnds p.tables e below G (T1082.setTop (mkF m 148 #[.val (.int p1), .val (.int p2), .val (.int p3), .val (.int (1 : Int32)), .val (.int v1049), .val (.ref b1050), .val (.int v1074), .val (.int v1076)] [(.int v1076), (.int (1 : Int32)), (.int (3 : Int32)), (.ref b1050)]))
    refine OEnds.st (fun _ k => XS.iloadN X1082.here hx rfl (hb hby at_148) rfl k) ?_
    show OEnds p.tables e below G (T1082.setTop (mkF m 149 #[.val (.int p1), .val (.int p2), .val (.int p3), .val (.int (1 : Int32)), .val (.int v1049), .val (.ref b1050), .val (.int v1074), .val (.int v1076)] [(.int p1), (.int v1076), (.int (1 : Int32)), (.int (3 : Int32)), (.ref b1050)]))
    refine OEnds.st (fun _ k => XS.iload X1082.here hx rfl (hb hby at_149) rfl k) ?_
    show OEnds p.tables e below G (T1082.setTop (mkF m 151 #[.val (.int p1), .val (.int p2), .val (.int p3), .val (.int (1 : Int32)), .val (.int v1049), .val (.ref b1050), .val (.int v1074), .val (.int v1076)] [(.int v1049), (.int p1), (.int v1076), (.int (1 : Int32)), (.int (3 : Int32)), (.ref b1050)]))
    obtain ⟨_, _, ⟨T1084, L1084, k1084c, n1084c⟩, -, X1084, ⟨Lc1084, hQ1084, l1084, y1084, z1084⟩, st1084⟩ := Jvm.LawKit.callS X1082 hx (y := (⟨"com/example/words_to_weights/wordstoweights/index/IndexFormatPutNumberPinLaw", "at", "([BIIIIB)Z"⟩ : MethodName)) hown (mvT hZ (hw _ (List.mem_of_getElem? (i := 9) rfl))) (mvT hZ (hw _ (List.mem_of_getElem? (i := 10) rfl))) (mvT hZ (hw _ (List.mem_of_getElem? (i := 7) rfl))) (mvT hZ (hw _ (List.mem_of_getElem? (i := 11) rfl))) (by decide) (backOf (W := 0) (rm3 l Z a0 hw [] b1050 (3 : Int32) (1 : Int32) v1076 p1 v1049 k1050 (own_els 1 p1 v1049) (own_el 1 3 p1 v1049) T1070.heap n0 Z1070 p1072 (by decide) (by decide) rfl) hZ (hw _ (List.mem_of_getElem? (i := 11) rfl)) (hw _ (List.mem_of_getElem? (i := 7) rfl)) (by decide) (by decide)) (g := (mkF m 151 #[.val (.int p1), .val (.int p2), .val (.int p3), .val (.int (1 : Int32)), .val (.int v1049), .val (.ref b1050), .val (.int v1074), .val (.int v1076)] [(.int v1049), (.int p1), (.int v1076), (.int (1 : Int32)), (.int (3 : Int32)), (.ref b1050)])) rfl (by rw [hml]; rfl) (argsL := [(.ref b1050), (.int (3 : Int32)), (.int (1 : Int32)), (.int v1076), (.int p1), (.int v1049)]) (rest := []) (lenOf pd_2 rfl) rfl (by show 2 * 0 + _ ≤ _; exact Nat.le_of_eq rfl) (hb hby at_151) (fun _ _ => ⟨rfl, e1082, (by decide : 0 + 1 + 0 + 0 + 0 + 0 + 0 + 0 ≤ _), (by decide : 0 + 9 + 0 + 0 + 0 + 0 + 0 + 0 ≤ _)⟩)
    dsimp only [Pt.U, Pt.locs, Pt.cells, Pt.slots] at X1084 l1084 y1084 z1084 st1084 hQ1084
    subst l1084 y1084 z1084
    obtain ⟨rfl, N1084q, e1084⟩ := hQ1084
    have N1084 := Fr.app N1082 N1084q
    refine OEnds.st st1084 ?_
    show OEnds p.tables e below G (T1084.setTop (mkF m 154 #[.val (.int p1), .val (.int p2), .val (.int p3), .val (.int (1 : Int32)), .val (.int v1049), .val (.ref b1050), .val (.int v1074), .val (.int v1076)] [(.int (own_at (3 : Int32) (1 : Int32) v1076 p1 v1049 (own_el 1 3 p1 v1049)))]))
    have hc154_1085 : ¬ ((own_at (3 : Int32) (1 : Int32) v1076 p1 v1049 (own_el 1 3 p1 v1049)) = (0 : Int32)) := by rw [← hv_v1076, own_ok_1_3 p1 v1049]; decide
    refine OEnds.st (fun _ k => XS.ifNo X1084.here hx rfl (hb hby at_154) rfl ((if0 _ _).trans (feq hc154_1085).1) k) ?_
    show OEnds p.tables e below G (T1084.setTop (mkF m 157 #[.val (.int p1), .val (.int p2), .val (.int p3), .val (.int (1 : Int32)), .val (.int v1049), .val (.ref b1050), .val (.int v1074), .val (.int v1076)] []))
    refine OEnds.st (fun _ k => XS.aload X1084.here hx rfl (hb hby at_157) rfl rfl k) ?_
    show OEnds p.tables e below G (T1084.setTop (mkF m 159 #[.val (.int p1), .val (.int p2), .val (.int p3), .val (.int (1 : Int32)), .val (.int v1049), .val (.ref b1050), .val (.int v1074), .val (.int v1076)] [(.ref b1050)]))
    refine OEnds.st (fun _ k => XS.iconst X1084.here hx rfl (hb hby at_159) k) ?_
    show OEnds p.tables e below G (T1084.setTop (mkF m 160 #[.val (.int p1), .val (.int p2), .val (.int p3), .val (.int (1 : Int32)), .val (.int v1049), .val (.ref b1050), .val (.int v1074), .val (.int v1076)] [(.int (4 : Int32)), (.ref b1050)]))
    refine OEnds.st (fun _ k => XS.iloadN X1084.here hx rfl (hb hby at_160) rfl k) ?_
    show OEnds p.tables e below G (T1084.setTop (mkF m 161 #[.val (.int p1), .val (.int p2), .val (.int p3), .val (.int (1 : Int32)), .val (.int v1049), .val (.ref b1050), .val (.int v1074), .val (.int v1076)] [(.int (1 : Int32)), (.int (4 : Int32)), (.ref b1050)]))
    refine OEnds.st (fun _ k => XS.iload X1084.here hx rfl (hb hby at_161) rfl k) ?_
    show OEnds p.tables e below G (T1084.setTop (mkF m 163 #[.val (.int p1), .val (.int p2), .val (.int p3), .val (.int (1 : Int32)), .val (.int v1049), .val (.ref b1050), .val (.int v1074), .val (.int v1076)] [(.int v1076), (.int (1 : Int32)), (.int (4 : Int32)), (.ref b1050)]))
    refine OEnds.st (fun _ k => XS.iloadN X1084.here hx rfl (hb hby at_163) rfl k) ?_
    show OEnds p.tables e below G (T1084.setTop (mkF m 164 #[.val (.int p1), .val (.int p2), .val (.int p3), .val (.int (1 : Int32)), .val (.int v1049), .val (.ref b1050), .val (.int v1074), .val (.int v1076)] [(.int p1), (.int v1076), (.int (1 : Int32)), (.int (4 : Int32)), (.ref b1050)]))
    refine OEnds.st (fun _ k => XS.iload X1084.here hx rfl (hb hby at_164) rfl k) ?_
    show OEnds p.tables e below G (T1084.setTop (mkF m 166 #[.val (.int p1), .val (.int p2), .val (.int p3), .val (.int (1 : Int32)), .val (.int v1049), .val (.ref b1050), .val (.int v1074), .val (.int v1076)] [(.int v1049), (.int p1), (.int v1076), (.int (1 : Int32)), (.int (4 : Int32)), (.ref b1050)]))
    obtain ⟨_, _, ⟨T1086, L1086, k1086c, n1086c⟩, -, X1086, ⟨Lc1086, hQ1086, l1086, y1086, z1086⟩, st1086⟩ := Jvm.LawKit.callS X1084 hx (y := (⟨"com/example/words_to_weights/wordstoweights/index/IndexFormatPutNumberPinLaw", "at", "([BIIIIB)Z"⟩ : MethodName)) hown (mvT hZ (hw _ (List.mem_of_getElem? (i := 9) rfl))) (mvT hZ (hw _ (List.mem_of_getElem? (i := 10) rfl))) (mvT hZ (hw _ (List.mem_of_getElem? (i := 7) rfl))) (mvT hZ (hw _ (List.mem_of_getElem? (i := 11) rfl))) (by decide) (backOf (W := 0) (rm3 l Z a0 hw [] b1050 (4 : Int32) (1 : Int32) v1076 p1 v1049 k1050 (own_els 1 p1 v1049) (own_el 1 4 p1 v1049) T1070.heap n0 Z1070 p1072 (by decide) (by decide) rfl) hZ (hw _ (List.mem_of_getElem? (i := 11) rfl)) (hw _ (List.mem_of_getElem? (i := 7) rfl)) (by decide) (by decide)) (g := (mkF m 166 #[.val (.int p1), .val (.int p2), .val (.int p3), .val (.int (1 : Int32)), .val (.int v1049), .val (.ref b1050), .val (.int v1074), .val (.int v1076)] [(.int v1049), (.int p1), (.int v1076), (.int (1 : Int32)), (.int (4 : Int32)), (.ref b1050)])) rfl (by rw [hml]; rfl) (argsL := [(.ref b1050), (.int (4 : Int32)), (.int (1 : Int32)), (.int v1076), (.int p1), (.int v1049)]) (rest := []) (lenOf pd_2 rfl) rfl (by show 2 * 0 + _ ≤ _; exact Nat.le_of_eq rfl) (hb hby at_166) (fun _ _ => ⟨rfl, e1084, (by decide : 0 + 1 + 0 + 0 + 0 + 0 + 0 + 0 + 0 ≤ _), (by decide : 0 + 9 + 0 + 0 + 0 + 0 + 0 + 0 + 0 ≤ _)⟩)
    dsimp only [Pt.U, Pt.locs, Pt.cells, Pt.slots] at X1086 l1086 y1086 z1086 st1086 hQ1086
    subst l1086 y1086 z1086
    obtain ⟨rfl, N1086q, e1086⟩ := hQ1086
    have N1086 := Fr.app N1084 N1086q
    refine OEnds.st st1086 ?_
    show OEnds p.tables e below G (T1086.setTop (mkF m 169 #[.val (.int p1), .val (.int p2), .val (.int p3), .val (.int (1 : Int32)), .val (.int v1049), .val (.ref b1050), .val (.int v1074), .val (.int v1076)] [(.int (own_at (4 : Int32) (1 : Int32) v1076 p1 v1049 (own_el 1 4 p1 v1049)))]))
    have hc169_1087 : ¬ ((own_at (4 : Int32) (1 : Int32) v1076 p1 v1049 (own_el 1 4 p1 v1049)) = (0 : Int32)) := by rw [← hv_v1076, own_ok_1_4 p1 v1049]; decide
    refine OEnds.st (fun _ k => XS.ifNo X1086.here hx rfl (hb hby at_169) rfl ((if0 _ _).trans (feq hc169_1087).1) k) ?_
    show OEnds p.tables e below G (T1086.setTop (mkF m 172 #[.val (.int p1), .val (.int p2), .val (.int p3), .val (.int (1 : Int32)), .val (.int v1049), .val (.ref b1050), .val (.int v1074), .val (.int v1076)] []))
    refine OEnds.st (fun _ k => XS.aload X1086.here hx rfl (hb hby at_172) rfl rfl k) ?_
    show OEnds p.tables e below G (T1086.setTop (mkF m 174 #[.val (.int p1), .val (.int p2), .val (.int p3), .val (.int (1 : Int32)), .val (.int v1049), .val (.ref b1050), .val (.int v1074), .val (.int v1076)] [(.ref b1050)]))
    refine OEnds.st (fun _ k => XS.iconst X1086.here hx rfl (hb hby at_174) k) ?_
    show OEnds p.tables e below G (T1086.setTop (mkF m 175 #[.val (.int p1), .val (.int p2), .val (.int p3), .val (.int (1 : Int32)), .val (.int v1049), .val (.ref b1050), .val (.int v1074), .val (.int v1076)] [(.int (5 : Int32)), (.ref b1050)]))
    refine OEnds.st (fun _ k => XS.iloadN X1086.here hx rfl (hb hby at_175) rfl k) ?_
    show OEnds p.tables e below G (T1086.setTop (mkF m 176 #[.val (.int p1), .val (.int p2), .val (.int p3), .val (.int (1 : Int32)), .val (.int v1049), .val (.ref b1050), .val (.int v1074), .val (.int v1076)] [(.int (1 : Int32)), (.int (5 : Int32)), (.ref b1050)]))
    refine OEnds.st (fun _ k => XS.iload X1086.here hx rfl (hb hby at_176) rfl k) ?_
    show OEnds p.tables e below G (T1086.setTop (mkF m 178 #[.val (.int p1), .val (.int p2), .val (.int p3), .val (.int (1 : Int32)), .val (.int v1049), .val (.ref b1050), .val (.int v1074), .val (.int v1076)] [(.int v1076), (.int (1 : Int32)), (.int (5 : Int32)), (.ref b1050)]))
    refine OEnds.st (fun _ k => XS.iloadN X1086.here hx rfl (hb hby at_178) rfl k) ?_
    show OEnds p.tables e below G (T1086.setTop (mkF m 179 #[.val (.int p1), .val (.int p2), .val (.int p3), .val (.int (1 : Int32)), .val (.int v1049), .val (.ref b1050), .val (.int v1074), .val (.int v1076)] [(.int p1), (.int v1076), (.int (1 : Int32)), (.int (5 : Int32)), (.ref b1050)]))
    refine OEnds.st (fun _ k => XS.iload X1086.here hx rfl (hb hby at_179) rfl k) ?_
    show OEnds p.tables e below G (T1086.setTop (mkF m 181 #[.val (.int p1), .val (.int p2), .val (.int p3), .val (.int (1 : Int32)), .val (.int v1049), .val (.ref b1050), .val (.int v1074), .val (.int v1076)] [(.int v1049), (.int p1), (.int v1076), (.int (1 : Int32)), (.int (5 : Int32)), (.ref b1050)]))
    obtain ⟨_, _, ⟨T1088, L1088, k1088c, n1088c⟩, -, X1088, ⟨Lc1088, hQ1088, l1088, y1088, z1088⟩, st1088⟩ := Jvm.LawKit.callS X1086 hx (y := (⟨"com/example/words_to_weights/wordstoweights/index/IndexFormatPutNumberPinLaw", "at", "([BIIIIB)Z"⟩ : MethodName)) hown (mvT hZ (hw _ (List.mem_of_getElem? (i := 9) rfl))) (mvT hZ (hw _ (List.mem_of_getElem? (i := 10) rfl))) (mvT hZ (hw _ (List.mem_of_getElem? (i := 7) rfl))) (mvT hZ (hw _ (List.mem_of_getElem? (i := 11) rfl))) (by decide) (backOf (W := 0) (rm3 l Z a0 hw [] b1050 (5 : Int32) (1 : Int32) v1076 p1 v1049 k1050 (own_els 1 p1 v1049) (own_el 1 5 p1 v1049) T1070.heap n0 Z1070 p1072 (by decide) (by decide) rfl) hZ (hw _ (List.mem_of_getElem? (i := 11) rfl)) (hw _ (List.mem_of_getElem? (i := 7) rfl)) (by decide) (by decide)) (g := (mkF m 181 #[.val (.int p1), .val (.int p2), .val (.int p3), .val (.int (1 : Int32)), .val (.int v1049), .val (.ref b1050), .val (.int v1074), .val (.int v1076)] [(.int v1049), (.int p1), (.int v1076), (.int (1 : Int32)), (.int (5 : Int32)), (.ref b1050)])) rfl (by rw [hml]; rfl) (argsL := [(.ref b1050), (.int (5 : Int32)), (.int (1 : Int32)), (.int v1076), (.int p1), (.int v1049)]) (rest := []) (lenOf pd_2 rfl) rfl (by show 2 * 0 + _ ≤ _; exact Nat.le_of_eq rfl) (hb hby at_181) (fun _ _ => ⟨rfl, e1086, (by decide : 0 + 1 + 0 + 0 + 0 + 0 + 0 + 0 + 0 + 0 ≤ _), (by decide : 0 + 9 + 0 + 0 + 0 + 0 + 0 + 0 + 0 + 0 ≤ _)⟩)
    dsimp only [Pt.U, Pt.locs, Pt.cells, Pt.slots] at X1088 l1088 y1088 z1088 st1088 hQ1088
    subst l1088 y1088 z1088
    obtain ⟨rfl, N1088q, e1088⟩ := hQ1088
    have N1088 := Fr.app N1086 N1088q
    refine OEnds.st st1088 ?_
    show OEnds p.tables e below G (T1088.setTop (mkF m 184 #[.val (.int p1), .val (.int p2), .val (.int p3), .val (.int (1 : Int32)), .val (.int v1049), .val (.ref b1050), .val (.int v1074), .val (.int v1076)] [(.int (own_at (5 : Int32) (1 : Int32) v1076 p1 v1049 (own_el 1 5 p1 v1049)))]))
    have hc184_1089 : ¬ ((own_at (5 : Int32) (1 : Int32) v1076 p1 v1049 (own_el 1 5 p1 v1049)) = (0 : Int32)) := by rw [← hv_v1076, own_ok_1_5 p1 v1049]; decide
    refine OEnds.st (fun _ k => XS.ifNo X1088.here hx rfl (hb hby at_184) rfl ((if0 _ _).trans (feq hc184_1089).1) k) ?_
    show OEnds p.tables e below G (T1088.setTop (mkF m 187 #[.val (.int p1), .val (.int p2), .val (.int p3), .val (.int (1 : Int32)), .val (.int v1049), .val (.ref b1050), .val (.int v1074), .val (.int v1076)] []))
    refine OEnds.st (fun _ k => XS.aload X1088.here hx rfl (hb hby at_187) rfl rfl k) ?_
    show OEnds p.tables e below G (T1088.setTop (mkF m 189 #[.val (.int p1), .val (.int p2), .val (.int p3), .val (.int (1 : Int32)), .val (.int v1049), .val (.ref b1050), .val (.int v1074), .val (.int v1076)] [(.ref b1050)]))
    refine OEnds.st (fun _ k => XS.bipush X1088.here hx rfl (hb hby at_189) k) ?_
    show OEnds p.tables e below G (T1088.setTop (mkF m 191 #[.val (.int p1), .val (.int p2), .val (.int p3), .val (.int (1 : Int32)), .val (.int v1049), .val (.ref b1050), .val (.int v1074), .val (.int v1076)] [(.int (6 : Int32)), (.ref b1050)]))
    refine OEnds.st (fun _ k => XS.iloadN X1088.here hx rfl (hb hby at_191) rfl k) ?_
    show OEnds p.tables e below G (T1088.setTop (mkF m 192 #[.val (.int p1), .val (.int p2), .val (.int p3), .val (.int (1 : Int32)), .val (.int v1049), .val (.ref b1050), .val (.int v1074), .val (.int v1076)] [(.int (1 : Int32)), (.int (6 : Int32)), (.ref b1050)]))
    refine OEnds.st (fun _ k => XS.iload X1088.here hx rfl (hb hby at_192) rfl k) ?_
    show OEnds p.tables e below G (T1088.setTop (mkF m 194 #[.val (.int p1), .val (.int p2), .val (.int p3), .val (.int (1 : Int32)), .val (.int v1049), .val (.ref b1050), .val (.int v1074), .val (.int v1076)] [(.int v1076), (.int (1 : Int32)), (.int (6 : Int32)), (.ref b1050)]))
    refine OEnds.st (fun _ k => XS.iloadN X1088.here hx rfl (hb hby at_194) rfl k) ?_
    show OEnds p.tables e below G (T1088.setTop (mkF m 195 #[.val (.int p1), .val (.int p2), .val (.int p3), .val (.int (1 : Int32)), .val (.int v1049), .val (.ref b1050), .val (.int v1074), .val (.int v1076)] [(.int p1), (.int v1076), (.int (1 : Int32)), (.int (6 : Int32)), (.ref b1050)]))
    refine OEnds.st (fun _ k => XS.iload X1088.here hx rfl (hb hby at_195) rfl k) ?_
    show OEnds p.tables e below G (T1088.setTop (mkF m 197 #[.val (.int p1), .val (.int p2), .val (.int p3), .val (.int (1 : Int32)), .val (.int v1049), .val (.ref b1050), .val (.int v1074), .val (.int v1076)] [(.int v1049), (.int p1), (.int v1076), (.int (1 : Int32)), (.int (6 : Int32)), (.ref b1050)]))
    obtain ⟨_, _, ⟨T1090, L1090, k1090c, n1090c⟩, -, X1090, ⟨Lc1090, hQ1090, l1090, y1090, z1090⟩, st1090⟩ := Jvm.LawKit.callS X1088 hx (y := (⟨"com/example/words_to_weights/wordstoweights/index/IndexFormatPutNumberPinLaw", "at", "([BIIIIB)Z"⟩ : MethodName)) hown (mvT hZ (hw _ (List.mem_of_getElem? (i := 9) rfl))) (mvT hZ (hw _ (List.mem_of_getElem? (i := 10) rfl))) (mvT hZ (hw _ (List.mem_of_getElem? (i := 7) rfl))) (mvT hZ (hw _ (List.mem_of_getElem? (i := 11) rfl))) (by decide) (backOf (W := 0) (rm3 l Z a0 hw [] b1050 (6 : Int32) (1 : Int32) v1076 p1 v1049 k1050 (own_els 1 p1 v1049) (own_el 1 6 p1 v1049) T1070.heap n0 Z1070 p1072 (by decide) (by decide) rfl) hZ (hw _ (List.mem_of_getElem? (i := 11) rfl)) (hw _ (List.mem_of_getElem? (i := 7) rfl)) (by decide) (by decide)) (g := (mkF m 197 #[.val (.int p1), .val (.int p2), .val (.int p3), .val (.int (1 : Int32)), .val (.int v1049), .val (.ref b1050), .val (.int v1074), .val (.int v1076)] [(.int v1049), (.int p1), (.int v1076), (.int (1 : Int32)), (.int (6 : Int32)), (.ref b1050)])) rfl (by rw [hml]; rfl) (argsL := [(.ref b1050), (.int (6 : Int32)), (.int (1 : Int32)), (.int v1076), (.int p1), (.int v1049)]) (rest := []) (lenOf pd_2 rfl) rfl (by show 2 * 0 + _ ≤ _; exact Nat.le_of_eq rfl) (hb hby at_197) (fun _ _ => ⟨rfl, e1088, (by decide : 0 + 1 + 0 + 0 + 0 + 0 + 0 + 0 + 0 + 0 + 0 ≤ _), (by decide : 0 + 9 + 0 + 0 + 0 + 0 + 0 + 0 + 0 + 0 + 0 ≤ _)⟩)
    dsimp only [Pt.U, Pt.locs, Pt.cells, Pt.slots] at X1090 l1090 y1090 z1090 st1090 hQ1090
    subst l1090 y1090 z1090
    obtain ⟨rfl, N1090q, e1090⟩ := hQ1090
    have N1090 := Fr.app N1088 N1090q
    refine OEnds.st st1090 ?_
    show OEnds p.tables e below G (T1090.setTop (mkF m 200 #[.val (.int p1), .val (.int p2), .val (.int p3), .val (.int (1 : Int32)), .val (.int v1049), .val (.ref b1050), .val (.int v1074), .val (.int v1076)] [(.int (own_at (6 : Int32) (1 : Int32) v1076 p1 v1049 (own_el 1 6 p1 v1049)))]))
    have hc200_1091 : ¬ ((own_at (6 : Int32) (1 : Int32) v1076 p1 v1049 (own_el 1 6 p1 v1049)) = (0 : Int32)) := by rw [← hv_v1076, own_ok_1_6 p1 v1049]; decide
    refine OEnds.st (fun _ k => XS.ifNo X1090.here hx rfl (hb hby at_200) rfl ((if0 _ _).trans (feq hc200_1091).1) k) ?_
    show OEnds p.tables e below G (T1090.setTop (mkF m 203 #[.val (.int p1), .val (.int p2), .val (.int p3), .val (.int (1 : Int32)), .val (.int v1049), .val (.ref b1050), .val (.int v1074), .val (.int v1076)] []))
    refine OEnds.st (fun _ k => XS.aload X1090.here hx rfl (hb hby at_203) rfl rfl k) ?_
    show OEnds p.tables e below G (T1090.setTop (mkF m 205 #[.val (.int p1), .val (.int p2), .val (.int p3), .val (.int (1 : Int32)), .val (.int v1049), .val (.ref b1050), .val (.int v1074), .val (.int v1076)] [(.ref b1050)]))
    refine OEnds.st (fun _ k => XS.bipush X1090.here hx rfl (hb hby at_205) k) ?_
    show OEnds p.tables e below G (T1090.setTop (mkF m 207 #[.val (.int p1), .val (.int p2), .val (.int p3), .val (.int (1 : Int32)), .val (.int v1049), .val (.ref b1050), .val (.int v1074), .val (.int v1076)] [(.int (7 : Int32)), (.ref b1050)]))
    refine OEnds.st (fun _ k => XS.iloadN X1090.here hx rfl (hb hby at_207) rfl k) ?_
    show OEnds p.tables e below G (T1090.setTop (mkF m 208 #[.val (.int p1), .val (.int p2), .val (.int p3), .val (.int (1 : Int32)), .val (.int v1049), .val (.ref b1050), .val (.int v1074), .val (.int v1076)] [(.int (1 : Int32)), (.int (7 : Int32)), (.ref b1050)]))
    refine OEnds.st (fun _ k => XS.iload X1090.here hx rfl (hb hby at_208) rfl k) ?_
    show OEnds p.tables e below G (T1090.setTop (mkF m 210 #[.val (.int p1), .val (.int p2), .val (.int p3), .val (.int (1 : Int32)), .val (.int v1049), .val (.ref b1050), .val (.int v1074), .val (.int v1076)] [(.int v1076), (.int (1 : Int32)), (.int (7 : Int32)), (.ref b1050)]))
    refine OEnds.st (fun _ k => XS.iloadN X1090.here hx rfl (hb hby at_210) rfl k) ?_
    show OEnds p.tables e below G (T1090.setTop (mkF m 211 #[.val (.int p1), .val (.int p2), .val (.int p3), .val (.int (1 : Int32)), .val (.int v1049), .val (.ref b1050), .val (.int v1074), .val (.int v1076)] [(.int p1), (.int v1076), (.int (1 : Int32)), (.int (7 : Int32)), (.ref b1050)]))
    refine OEnds.st (fun _ k => XS.iload X1090.here hx rfl (hb hby at_211) rfl k) ?_
    show OEnds p.tables e below G (T1090.setTop (mkF m 213 #[.val (.int p1), .val (.int p2), .val (.int p3), .val (.int (1 : Int32)), .val (.int v1049), .val (.ref b1050), .val (.int v1074), .val (.int v1076)] [(.int v1049), (.int p1), (.int v1076), (.int (1 : Int32)), (.int (7 : Int32)), (.ref b1050)]))
    obtain ⟨_, _, ⟨T1092, L1092, k1092c, n1092c⟩, -, X1092, ⟨Lc1092, hQ1092, l1092, y1092, z1092⟩, st1092⟩ := Jvm.LawKit.callS X1090 hx (y := (⟨"com/example/words_to_weights/wordstoweights/index/IndexFormatPutNumberPinLaw", "at", "([BIIIIB)Z"⟩ : MethodName)) hown (mvT hZ (hw _ (List.mem_of_getElem? (i := 9) rfl))) (mvT hZ (hw _ (List.mem_of_getElem? (i := 10) rfl))) (mvT hZ (hw _ (List.mem_of_getElem? (i := 7) rfl))) (mvT hZ (hw _ (List.mem_of_getElem? (i := 11) rfl))) (by decide) (backOf (W := 0) (rm3 l Z a0 hw [] b1050 (7 : Int32) (1 : Int32) v1076 p1 v1049 k1050 (own_els 1 p1 v1049) (own_el 1 7 p1 v1049) T1070.heap n0 Z1070 p1072 (by decide) (by decide) rfl) hZ (hw _ (List.mem_of_getElem? (i := 11) rfl)) (hw _ (List.mem_of_getElem? (i := 7) rfl)) (by decide) (by decide)) (g := (mkF m 213 #[.val (.int p1), .val (.int p2), .val (.int p3), .val (.int (1 : Int32)), .val (.int v1049), .val (.ref b1050), .val (.int v1074), .val (.int v1076)] [(.int v1049), (.int p1), (.int v1076), (.int (1 : Int32)), (.int (7 : Int32)), (.ref b1050)])) rfl (by rw [hml]; rfl) (argsL := [(.ref b1050), (.int (7 : Int32)), (.int (1 : Int32)), (.int v1076), (.int p1), (.int v1049)]) (rest := []) (lenOf pd_2 rfl) rfl (by show 2 * 0 + _ ≤ _; exact Nat.le_of_eq rfl) (hb hby at_213) (fun _ _ => ⟨rfl, e1090, (by decide : 0 + 1 + 0 + 0 + 0 + 0 + 0 + 0 + 0 + 0 + 0 + 0 ≤ _), (by decide : 0 + 9 + 0 + 0 + 0 + 0 + 0 + 0 + 0 + 0 + 0 + 0 ≤ _)⟩)
    dsimp only [Pt.U, Pt.locs, Pt.cells, Pt.slots] at X1092 l1092 y1092 z1092 st1092 hQ1092
    subst l1092 y1092 z1092
    obtain ⟨rfl, N1092q, e1092⟩ := hQ1092
    have N1092 := Fr.app N1090 N1092q
    refine OEnds.st st1092 ?_
    show OEnds p.tables e below G (T1092.setTop (mkF m 216 #[.val (.int p1), .val (.int p2), .val (.int p3), .val (.int (1 : Int32)), .val (.int v1049), .val (.ref b1050), .val (.int v1074), .val (.int v1076)] [(.int (own_at (7 : Int32) (1 : Int32) v1076 p1 v1049 (own_el 1 7 p1 v1049)))]))
    have hc216_1093 : ¬ ((own_at (7 : Int32) (1 : Int32) v1076 p1 v1049 (own_el 1 7 p1 v1049)) = (0 : Int32)) := by rw [← hv_v1076, own_ok_1_7 p1 v1049]; decide
    refine OEnds.st (fun _ k => XS.ifNo X1092.here hx rfl (hb hby at_216) rfl ((if0 _ _).trans (feq hc216_1093).1) k) ?_
    show OEnds p.tables e below G (T1092.setTop (mkF m 219 #[.val (.int p1), .val (.int p2), .val (.int p3), .val (.int (1 : Int32)), .val (.int v1049), .val (.ref b1050), .val (.int v1074), .val (.int v1076)] []))
    refine OEnds.st (fun _ k => XS.aload X1092.here hx rfl (hb hby at_219) rfl rfl k) ?_
    show OEnds p.tables e below G (T1092.setTop (mkF m 221 #[.val (.int p1), .val (.int p2), .val (.int p3), .val (.int (1 : Int32)), .val (.int v1049), .val (.ref b1050), .val (.int v1074), .val (.int v1076)] [(.ref b1050)]))
    refine OEnds.st (fun _ k => XS.bipush X1092.here hx rfl (hb hby at_221) k) ?_
    show OEnds p.tables e below G (T1092.setTop (mkF m 223 #[.val (.int p1), .val (.int p2), .val (.int p3), .val (.int (1 : Int32)), .val (.int v1049), .val (.ref b1050), .val (.int v1074), .val (.int v1076)] [(.int (8 : Int32)), (.ref b1050)]))
    refine OEnds.st (fun _ k => XS.iloadN X1092.here hx rfl (hb hby at_223) rfl k) ?_
    show OEnds p.tables e below G (T1092.setTop (mkF m 224 #[.val (.int p1), .val (.int p2), .val (.int p3), .val (.int (1 : Int32)), .val (.int v1049), .val (.ref b1050), .val (.int v1074), .val (.int v1076)] [(.int (1 : Int32)), (.int (8 : Int32)), (.ref b1050)]))
    refine OEnds.st (fun _ k => XS.iload X1092.here hx rfl (hb hby at_224) rfl k) ?_
    show OEnds p.tables e below G (T1092.setTop (mkF m 226 #[.val (.int p1), .val (.int p2), .val (.int p3), .val (.int (1 : Int32)), .val (.int v1049), .val (.ref b1050), .val (.int v1074), .val (.int v1076)] [(.int v1076), (.int (1 : Int32)), (.int (8 : Int32)), (.ref b1050)]))
    refine OEnds.st (fun _ k => XS.iloadN X1092.here hx rfl (hb hby at_226) rfl k) ?_
    show OEnds p.tables e below G (T1092.setTop (mkF m 227 #[.val (.int p1), .val (.int p2), .val (.int p3), .val (.int (1 : Int32)), .val (.int v1049), .val (.ref b1050), .val (.int v1074), .val (.int v1076)] [(.int p1), (.int v1076), (.int (1 : Int32)), (.int (8 : Int32)), (.ref b1050)]))
    refine OEnds.st (fun _ k => XS.iload X1092.here hx rfl (hb hby at_227) rfl k) ?_
    show OEnds p.tables e below G (T1092.setTop (mkF m 229 #[.val (.int p1), .val (.int p2), .val (.int p3), .val (.int (1 : Int32)), .val (.int v1049), .val (.ref b1050), .val (.int v1074), .val (.int v1076)] [(.int v1049), (.int p1), (.int v1076), (.int (1 : Int32)), (.int (8 : Int32)), (.ref b1050)]))
    obtain ⟨_, _, ⟨T1094, L1094, k1094c, n1094c⟩, -, X1094, ⟨Lc1094, hQ1094, l1094, y1094, z1094⟩, st1094⟩ := Jvm.LawKit.callS X1092 hx (y := (⟨"com/example/words_to_weights/wordstoweights/index/IndexFormatPutNumberPinLaw", "at", "([BIIIIB)Z"⟩ : MethodName)) hown (mvT hZ (hw _ (List.mem_of_getElem? (i := 9) rfl))) (mvT hZ (hw _ (List.mem_of_getElem? (i := 10) rfl))) (mvT hZ (hw _ (List.mem_of_getElem? (i := 7) rfl))) (mvT hZ (hw _ (List.mem_of_getElem? (i := 11) rfl))) (by decide) (backOf (W := 0) (rm3 l Z a0 hw [] b1050 (8 : Int32) (1 : Int32) v1076 p1 v1049 k1050 (own_els 1 p1 v1049) (own_el 1 8 p1 v1049) T1070.heap n0 Z1070 p1072 (by decide) (by decide) rfl) hZ (hw _ (List.mem_of_getElem? (i := 11) rfl)) (hw _ (List.mem_of_getElem? (i := 7) rfl)) (by decide) (by decide)) (g := (mkF m 229 #[.val (.int p1), .val (.int p2), .val (.int p3), .val (.int (1 : Int32)), .val (.int v1049), .val (.ref b1050), .val (.int v1074), .val (.int v1076)] [(.int v1049), (.int p1), (.int v1076), (.int (1 : Int32)), (.int (8 : Int32)), (.ref b1050)])) rfl (by rw [hml]; rfl) (argsL := [(.ref b1050), (.int (8 : Int32)), (.int (1 : Int32)), (.int v1076), (.int p1), (.int v1049)]) (rest := []) (lenOf pd_2 rfl) rfl (by show 2 * 0 + _ ≤ _; exact Nat.le_of_eq rfl) (hb hby at_229) (fun _ _ => ⟨rfl, e1092, (by decide : 0 + 1 + 0 + 0 + 0 + 0 + 0 + 0 + 0 + 0 + 0 + 0 + 0 ≤ _), (by decide : 0 + 9 + 0 + 0 + 0 + 0 + 0 + 0 + 0 + 0 + 0 + 0 + 0 ≤ _)⟩)
    dsimp only [Pt.U, Pt.locs, Pt.cells, Pt.slots] at X1094 l1094 y1094 z1094 st1094 hQ1094
    subst l1094 y1094 z1094
    obtain ⟨rfl, N1094q, e1094⟩ := hQ1094
    have N1094 := Fr.app N1092 N1094q
    refine OEnds.st st1094 ?_
    show OEnds p.tables e below G (T1094.setTop (mkF m 232 #[.val (.int p1), .val (.int p2), .val (.int p3), .val (.int (1 : Int32)), .val (.int v1049), .val (.ref b1050), .val (.int v1074), .val (.int v1076)] [(.int (own_at (8 : Int32) (1 : Int32) v1076 p1 v1049 (own_el 1 8 p1 v1049)))]))
    have hc232_1095 : ¬ ((own_at (8 : Int32) (1 : Int32) v1076 p1 v1049 (own_el 1 8 p1 v1049)) = (0 : Int32)) := by rw [← hv_v1076, own_ok_1_8 p1 v1049]; decide
    refine OEnds.st (fun _ k => XS.ifNo X1094.here hx rfl (hb hby at_232) rfl ((if0 _ _).trans (feq hc232_1095).1) k) ?_
    show OEnds p.tables e below G (T1094.setTop (mkF m 235 #[.val (.int p1), .val (.int p2), .val (.int p3), .val (.int (1 : Int32)), .val (.int v1049), .val (.ref b1050), .val (.int v1074), .val (.int v1076)] []))
    refine OEnds.st (fun _ k => XS.iconst X1094.here hx rfl (hb hby at_235) k) ?_
    show OEnds p.tables e below G (T1094.setTop (mkF m 236 #[.val (.int p1), .val (.int p2), .val (.int p3), .val (.int (1 : Int32)), .val (.int v1049), .val (.ref b1050), .val (.int v1074), .val (.int v1076)] [(.int (1 : Int32))]))
    refine OEnds.st (fun _ k => XS.goto X1094.here hx rfl (pc0 := 236) (pc' := 240) rfl (hb hby at_236) (by decide) (by decide) k) ?_
    show OEnds p.tables e below G (T1094.setTop (mkF m 240 #[.val (.int p1), .val (.int p2), .val (.int p3), .val (.int (1 : Int32)), .val (.int v1049), .val (.ref b1050), .val (.int v1074), .val (.int v1076)] [(.int (1 : Int32))]))
    rw [← hG]
    refine OEnds.retZ X1094 hx hlk Bd.returns rfl (hb hby at_240) (by decide) (by decide) ?_
    rw [e1094]
    exact ⟨rfl, N1094⟩
  · -- 2
    rw [hi]
    show OEnds p.tables e below G (s₁.setTop (mkF m 4 #[.val (.int p1), .val (.int p2), .val (.int p3), .val (.int (2 : Int32)), .unset, .unset, .unset, .unset] []))
    refine OEnds.st (fun _ k => XS.iloadN X0.here hx rfl (hb hby at_4) rfl k) ?_
    show OEnds p.tables e below G (s₁.setTop (mkF m 5 #[.val (.int p1), .val (.int p2), .val (.int p3), .val (.int (2 : Int32)), .unset, .unset, .unset, .unset] [(.int p3)]))
    refine OEnds.st (fun _ k => XS.i2b X0.here hx rfl (hb hby at_5) rfl k) ?_
    show OEnds p.tables e below G (s₁.setTop (mkF m 6 #[.val (.int p1), .val (.int p2), .val (.int p3), .val (.int (2 : Int32)), .unset, .unset, .unset, .unset] [(.int (p3.toInt8.toInt32))]))
    refine OEnds.st (fun _ k => XS.istore X0.here hx rfl (hb hby at_6) rfl (l' := #[.val (.int p1), .val (.int p2), .val (.int p3), .val (.int (2 : Int32)), .val (.int (p3.toInt8.toInt32)), .unset, .unset, .unset]) rfl k) ?_
    show OEnds p.tables e below G (s₁.setTop (mkF m 8 #[.val (.int p1), .val (.int p2), .val (.int p3), .val (.int (2 : Int32)), .val (.int (p3.toInt8.toInt32)), .unset, .unset, .unset] []))
    generalize hv_v1096 : (p3.toInt8.toInt32) = v1096
    have hf8 : nar .byte v1096 = v1096 := by rw [← hv_v1096]; exact own_b8 p3
    show OEnds p.tables e below G (s₁.setTop (mkF m 8 #[.val (.int p1), .val (.int p2), .val (.int p3), .val (.int (2 : Int32)), .val (.int v1096), .unset, .unset, .unset] []))
    refine OEnds.st (fun _ k => XS.bipush X0.here hx rfl (hb hby at_8) k) ?_
    show OEnds p.tables e below G (s₁.setTop (mkF m 10 #[.val (.int p1), .val (.int p2), .val (.int p3), .val (.int (2 : Int32)), .val (.int v1096), .unset, .unset, .unset] [(.int (9 : Int32))]))
    obtain ⟨T1097, h1097, k1097, X1097, e1097, E1097, A1097, st1097⟩ := newP X0 hx hZ (hw _ (List.mem_of_getElem? (i := 0) rfl)) e0 (g := (mkF m 10 #[.val (.int p1), .val (.int p2), .val (.int p3), .val (.int (2 : Int32)), .val (.int v1096), .unset, .unset, .unset] [(.int (9 : Int32))])) rfl (hb hby at_10) rfl (by decide) (cap := 9) (by decide) (by decide) (by decide) (by decide)
    obtain ⟨b1097, g1097⟩ : ∃ z, z = h0.size := ⟨_, rfl⟩
    rw [← g1097] at A1097 st1097
    refine OEnds.st st1097 ?_
    have ge_b1097 : n0 ≤ b1097 := Nat.le_trans Z0 (Nat.le_of_eq g1097.symm)
    have sz_b1097 : h0.size ≤ b1097 := Nat.le_trans KK0.1 (Nat.le_of_eq g1097.symm)
    have KK1097 : Keep h0 h1097 [] := KK0.ext E1097
    have Z1097 := Nat.le_trans Z0 E1097.1
    have f1098 : Arv Z h1097 b1097 k1097 .byte (9 : Int32) [(.int (0 : Int32)), (.int (0 : Int32)), (.int (0 : Int32)), (.int (0 : Int32)), (.int (0 : Int32)), (.int (0 : Int32)), (.int (0 : Int32)), (.int (0 : Int32)), (.int (0 : Int32))] (.int (0 : Int32)) := (Arv.new A1097 (by decide)).pad (pad_rep [] (.int (0 : Int32)) 9)
    show OEnds p.tables e below G (T1097.setTop (mkF m 12 #[.val (.int p1), .val (.int p2), .val (.int p3), .val (.int (2 : Int32)), .val (.int v1096), .unset, .unset, .unset] [(.ref b1097)]))
    refine OEnds.st (fun _ k => XS.astore X1097.here hx rfl (hb hby at_12) rfl rfl (l' := #[.val (.int p1), .val (.int p2), .val (.int p3), .val (.int (2 : Int32)), .val (.int v1096), .val (.ref b1097), .unset, .unset]) rfl k) ?_
    show OEnds p.tables e below G (T1097.setTop (mkF m 14 #[.val (.int p1), .val (.int p2), .val (.int p3), .val (.int (2 : Int32)), .val (.int v1096), .val (.ref b1097), .unset, .unset] []))
    refine OEnds.st (fun _ k => XS.aload X1097.here hx rfl (hb hby at_14) rfl rfl k) ?_
    show OEnds p.tables e below G (T1097.setTop (mkF m 16 #[.val (.int p1), .val (.int p2), .val (.int p3), .val (.int (2 : Int32)), .val (.int v1096), .val (.ref b1097), .unset, .unset] [(.ref b1097)]))
    refine OEnds.st (fun _ k => XS.iconst X1097.here hx rfl (hb hby at_16) k) ?_
    show OEnds p.tables e below G (T1097.setTop (mkF m 17 #[.val (.int p1), .val (.int p2), .val (.int p3), .val (.int (2 : Int32)), .val (.int v1096), .val (.ref b1097), .unset, .unset] [(.int (0 : Int32)), (.ref b1097)]))
    refine OEnds.st (fun _ k => XS.iload X1097.here hx rfl (hb hby at_17) rfl k) ?_
    show OEnds p.tables e below G (T1097.setTop (mkF m 19 #[.val (.int p1), .val (.int p2), .val (.int p3), .val (.int (2 : Int32)), .val (.int v1096), .val (.ref b1097), .unset, .unset] [(.int v1096), (.int (0 : Int32)), (.ref b1097)]))
    obtain ⟨cl1099, Ar1099, q1099, S1099, N1099n, H1099, G1099⟩ := id f1098
    have hin1099 : ¬ ((0 : Int32) < 0 ∨ cl1099.slots.size ≤ ((0 : Int32)).toNatClampNeg) := inb_of S1099 ⟨by decide, by decide⟩
    obtain ⟨T1099, h1099, X1099, e1099, W1099, st1099⟩ := stB X1097 hx hZ e1097 Ar1099 (j := (0 : Int32)) hin1099 (g := (mkF m 19 #[.val (.int p1), .val (.int p2), .val (.int p3), .val (.int (2 : Int32)), .val (.int v1096), .val (.ref b1097), .unset, .unset] [(.int v1096), (.int (0 : Int32)), (.ref b1097)])) rfl rfl (hb hby at_19)
    refine OEnds.st st1099 ?_
    rw [hf8] at W1099
    have f1100 : Arv Z h1099 b1097 k1097 .byte (9 : Int32) [(.int v1096), (.int (0 : Int32)), (.int (0 : Int32)), (.int (0 : Int32)), (.int (0 : Int32)), (.int (0 : Int32)), (.int (0 : Int32)), (.int (0 : Int32)), (.int (0 : Int32))] (.int (0 : Int32)) := Arv.set Ar1099 q1099 S1099 N1099n H1099 G1099 (by rw [← hf8]; exact fits_nar_byte _) W1099 0 rfl (Nat.le_of_ble_eq_true rfl)
    have N1099 := Fr.snoc X1099 N0 ge_b1097
    have KK1099 : Keep h0 h1099 [] := KK1097.wr W1099 (Or.inr sz_b1097)
    have Z1099 := Nat.le_trans Z1097 (Keep.of_wr W1099).1
    show OEnds p.tables e below G (T1099.setTop (mkF m 20 #[.val (.int p1), .val (.int p2), .val (.int p3), .val (.int (2 : Int32)), .val (.int v1096), .val (.ref b1097), .unset, .unset] []))
    refine OEnds.st (fun _ k => XS.aload X1099.here hx rfl (hb hby at_20) rfl rfl k) ?_
    show OEnds p.tables e below G (T1099.setTop (mkF m 22 #[.val (.int p1), .val (.int p2), .val (.int p3), .val (.int (2 : Int32)), .val (.int v1096), .val (.ref b1097), .unset, .unset] [(.ref b1097)]))
    refine OEnds.st (fun _ k => XS.iconst X1099.here hx rfl (hb hby at_22) k) ?_
    show OEnds p.tables e below G (T1099.setTop (mkF m 23 #[.val (.int p1), .val (.int p2), .val (.int p3), .val (.int (2 : Int32)), .val (.int v1096), .val (.ref b1097), .unset, .unset] [(.int (1 : Int32)), (.ref b1097)]))
    refine OEnds.st (fun _ k => XS.iload X1099.here hx rfl (hb hby at_23) rfl k) ?_
    show OEnds p.tables e below G (T1099.setTop (mkF m 25 #[.val (.int p1), .val (.int p2), .val (.int p3), .val (.int (2 : Int32)), .val (.int v1096), .val (.ref b1097), .unset, .unset] [(.int v1096), (.int (1 : Int32)), (.ref b1097)]))
    obtain ⟨cl1101, Ar1101, q1101, S1101, N1101n, H1101, G1101⟩ := id f1100
    have hin1101 : ¬ ((1 : Int32) < 0 ∨ cl1101.slots.size ≤ ((1 : Int32)).toNatClampNeg) := inb_of S1101 ⟨by decide, by decide⟩
    obtain ⟨T1101, h1101, X1101, e1101, W1101, st1101⟩ := stB X1099 hx hZ e1099 Ar1101 (j := (1 : Int32)) hin1101 (g := (mkF m 25 #[.val (.int p1), .val (.int p2), .val (.int p3), .val (.int (2 : Int32)), .val (.int v1096), .val (.ref b1097), .unset, .unset] [(.int v1096), (.int (1 : Int32)), (.ref b1097)])) rfl rfl (hb hby at_25)
    refine OEnds.st st1101 ?_
    rw [hf8] at W1101
    have f1102 : Arv Z h1101 b1097 k1097 .byte (9 : Int32) [(.int v1096), (.int v1096), (.int (0 : Int32)), (.int (0 : Int32)), (.int (0 : Int32)), (.int (0 : Int32)), (.int (0 : Int32)), (.int (0 : Int32)), (.int (0 : Int32))] (.int (0 : Int32)) := Arv.set Ar1101 q1101 S1101 N1101n H1101 G1101 (by rw [← hf8]; exact fits_nar_byte _) W1101 1 rfl (Nat.le_of_ble_eq_true rfl)
    have N1101 := Fr.snoc X1101 N1099 ge_b1097
    have KK1101 : Keep h0 h1101 [] := KK1099.wr W1101 (Or.inr sz_b1097)
    have Z1101 := Nat.le_trans Z1099 (Keep.of_wr W1101).1
    show OEnds p.tables e below G (T1101.setTop (mkF m 26 #[.val (.int p1), .val (.int p2), .val (.int p3), .val (.int (2 : Int32)), .val (.int v1096), .val (.ref b1097), .unset, .unset] []))
    refine OEnds.st (fun _ k => XS.aload X1101.here hx rfl (hb hby at_26) rfl rfl k) ?_
    show OEnds p.tables e below G (T1101.setTop (mkF m 28 #[.val (.int p1), .val (.int p2), .val (.int p3), .val (.int (2 : Int32)), .val (.int v1096), .val (.ref b1097), .unset, .unset] [(.ref b1097)]))
    refine OEnds.st (fun _ k => XS.iconst X1101.here hx rfl (hb hby at_28) k) ?_
    show OEnds p.tables e below G (T1101.setTop (mkF m 29 #[.val (.int p1), .val (.int p2), .val (.int p3), .val (.int (2 : Int32)), .val (.int v1096), .val (.ref b1097), .unset, .unset] [(.int (2 : Int32)), (.ref b1097)]))
    refine OEnds.st (fun _ k => XS.iload X1101.here hx rfl (hb hby at_29) rfl k) ?_
    show OEnds p.tables e below G (T1101.setTop (mkF m 31 #[.val (.int p1), .val (.int p2), .val (.int p3), .val (.int (2 : Int32)), .val (.int v1096), .val (.ref b1097), .unset, .unset] [(.int v1096), (.int (2 : Int32)), (.ref b1097)]))
    obtain ⟨cl1103, Ar1103, q1103, S1103, N1103n, H1103, G1103⟩ := id f1102
    have hin1103 : ¬ ((2 : Int32) < 0 ∨ cl1103.slots.size ≤ ((2 : Int32)).toNatClampNeg) := inb_of S1103 ⟨by decide, by decide⟩
    obtain ⟨T1103, h1103, X1103, e1103, W1103, st1103⟩ := stB X1101 hx hZ e1101 Ar1103 (j := (2 : Int32)) hin1103 (g := (mkF m 31 #[.val (.int p1), .val (.int p2), .val (.int p3), .val (.int (2 : Int32)), .val (.int v1096), .val (.ref b1097), .unset, .unset] [(.int v1096), (.int (2 : Int32)), (.ref b1097)])) rfl rfl (hb hby at_31)
    refine OEnds.st st1103 ?_
    rw [hf8] at W1103
    have f1104 : Arv Z h1103 b1097 k1097 .byte (9 : Int32) [(.int v1096), (.int v1096), (.int v1096), (.int (0 : Int32)), (.int (0 : Int32)), (.int (0 : Int32)), (.int (0 : Int32)), (.int (0 : Int32)), (.int (0 : Int32))] (.int (0 : Int32)) := Arv.set Ar1103 q1103 S1103 N1103n H1103 G1103 (by rw [← hf8]; exact fits_nar_byte _) W1103 2 rfl (Nat.le_of_ble_eq_true rfl)
    have N1103 := Fr.snoc X1103 N1101 ge_b1097
    have KK1103 : Keep h0 h1103 [] := KK1101.wr W1103 (Or.inr sz_b1097)
    have Z1103 := Nat.le_trans Z1101 (Keep.of_wr W1103).1
    show OEnds p.tables e below G (T1103.setTop (mkF m 32 #[.val (.int p1), .val (.int p2), .val (.int p3), .val (.int (2 : Int32)), .val (.int v1096), .val (.ref b1097), .unset, .unset] []))
    refine OEnds.st (fun _ k => XS.aload X1103.here hx rfl (hb hby at_32) rfl rfl k) ?_
    show OEnds p.tables e below G (T1103.setTop (mkF m 34 #[.val (.int p1), .val (.int p2), .val (.int p3), .val (.int (2 : Int32)), .val (.int v1096), .val (.ref b1097), .unset, .unset] [(.ref b1097)]))
    refine OEnds.st (fun _ k => XS.iconst X1103.here hx rfl (hb hby at_34) k) ?_
    show OEnds p.tables e below G (T1103.setTop (mkF m 35 #[.val (.int p1), .val (.int p2), .val (.int p3), .val (.int (2 : Int32)), .val (.int v1096), .val (.ref b1097), .unset, .unset] [(.int (3 : Int32)), (.ref b1097)]))
    refine OEnds.st (fun _ k => XS.iload X1103.here hx rfl (hb hby at_35) rfl k) ?_
    show OEnds p.tables e below G (T1103.setTop (mkF m 37 #[.val (.int p1), .val (.int p2), .val (.int p3), .val (.int (2 : Int32)), .val (.int v1096), .val (.ref b1097), .unset, .unset] [(.int v1096), (.int (3 : Int32)), (.ref b1097)]))
    obtain ⟨cl1105, Ar1105, q1105, S1105, N1105n, H1105, G1105⟩ := id f1104
    have hin1105 : ¬ ((3 : Int32) < 0 ∨ cl1105.slots.size ≤ ((3 : Int32)).toNatClampNeg) := inb_of S1105 ⟨by decide, by decide⟩
    obtain ⟨T1105, h1105, X1105, e1105, W1105, st1105⟩ := stB X1103 hx hZ e1103 Ar1105 (j := (3 : Int32)) hin1105 (g := (mkF m 37 #[.val (.int p1), .val (.int p2), .val (.int p3), .val (.int (2 : Int32)), .val (.int v1096), .val (.ref b1097), .unset, .unset] [(.int v1096), (.int (3 : Int32)), (.ref b1097)])) rfl rfl (hb hby at_37)
    refine OEnds.st st1105 ?_
    rw [hf8] at W1105
    have f1106 : Arv Z h1105 b1097 k1097 .byte (9 : Int32) [(.int v1096), (.int v1096), (.int v1096), (.int v1096), (.int (0 : Int32)), (.int (0 : Int32)), (.int (0 : Int32)), (.int (0 : Int32)), (.int (0 : Int32))] (.int (0 : Int32)) := Arv.set Ar1105 q1105 S1105 N1105n H1105 G1105 (by rw [← hf8]; exact fits_nar_byte _) W1105 3 rfl (Nat.le_of_ble_eq_true rfl)
    have N1105 := Fr.snoc X1105 N1103 ge_b1097
    have KK1105 : Keep h0 h1105 [] := KK1103.wr W1105 (Or.inr sz_b1097)
    have Z1105 := Nat.le_trans Z1103 (Keep.of_wr W1105).1
    show OEnds p.tables e below G (T1105.setTop (mkF m 38 #[.val (.int p1), .val (.int p2), .val (.int p3), .val (.int (2 : Int32)), .val (.int v1096), .val (.ref b1097), .unset, .unset] []))
    refine OEnds.st (fun _ k => XS.aload X1105.here hx rfl (hb hby at_38) rfl rfl k) ?_
    show OEnds p.tables e below G (T1105.setTop (mkF m 40 #[.val (.int p1), .val (.int p2), .val (.int p3), .val (.int (2 : Int32)), .val (.int v1096), .val (.ref b1097), .unset, .unset] [(.ref b1097)]))
    refine OEnds.st (fun _ k => XS.iconst X1105.here hx rfl (hb hby at_40) k) ?_
    show OEnds p.tables e below G (T1105.setTop (mkF m 41 #[.val (.int p1), .val (.int p2), .val (.int p3), .val (.int (2 : Int32)), .val (.int v1096), .val (.ref b1097), .unset, .unset] [(.int (4 : Int32)), (.ref b1097)]))
    refine OEnds.st (fun _ k => XS.iload X1105.here hx rfl (hb hby at_41) rfl k) ?_
    show OEnds p.tables e below G (T1105.setTop (mkF m 43 #[.val (.int p1), .val (.int p2), .val (.int p3), .val (.int (2 : Int32)), .val (.int v1096), .val (.ref b1097), .unset, .unset] [(.int v1096), (.int (4 : Int32)), (.ref b1097)]))
    obtain ⟨cl1107, Ar1107, q1107, S1107, N1107n, H1107, G1107⟩ := id f1106
    have hin1107 : ¬ ((4 : Int32) < 0 ∨ cl1107.slots.size ≤ ((4 : Int32)).toNatClampNeg) := inb_of S1107 ⟨by decide, by decide⟩
    obtain ⟨T1107, h1107, X1107, e1107, W1107, st1107⟩ := stB X1105 hx hZ e1105 Ar1107 (j := (4 : Int32)) hin1107 (g := (mkF m 43 #[.val (.int p1), .val (.int p2), .val (.int p3), .val (.int (2 : Int32)), .val (.int v1096), .val (.ref b1097), .unset, .unset] [(.int v1096), (.int (4 : Int32)), (.ref b1097)])) rfl rfl (hb hby at_43)
    refine OEnds.st st1107 ?_
    rw [hf8] at W1107
    have f1108 : Arv Z h1107 b1097 k1097 .byte (9 : Int32) [(.int v1096), (.int v1096), (.int v1096), (.int v1096), (.int v1096), (.int (0 : Int32)), (.int (0 : Int32)), (.int (0 : Int32)), (.int (0 : Int32))] (.int (0 : Int32)) := Arv.set Ar1107 q1107 S1107 N1107n H1107 G1107 (by rw [← hf8]; exact fits_nar_byte _) W1107 4 rfl (Nat.le_of_ble_eq_true rfl)
    have N1107 := Fr.snoc X1107 N1105 ge_b1097
    have KK1107 : Keep h0 h1107 [] := KK1105.wr W1107 (Or.inr sz_b1097)
    have Z1107 := Nat.le_trans Z1105 (Keep.of_wr W1107).1
    show OEnds p.tables e below G (T1107.setTop (mkF m 44 #[.val (.int p1), .val (.int p2), .val (.int p3), .val (.int (2 : Int32)), .val (.int v1096), .val (.ref b1097), .unset, .unset] []))
    refine OEnds.st (fun _ k => XS.aload X1107.here hx rfl (hb hby at_44) rfl rfl k) ?_
    show OEnds p.tables e below G (T1107.setTop (mkF m 46 #[.val (.int p1), .val (.int p2), .val (.int p3), .val (.int (2 : Int32)), .val (.int v1096), .val (.ref b1097), .unset, .unset] [(.ref b1097)]))
    refine OEnds.st (fun _ k => XS.iconst X1107.here hx rfl (hb hby at_46) k) ?_
    show OEnds p.tables e below G (T1107.setTop (mkF m 47 #[.val (.int p1), .val (.int p2), .val (.int p3), .val (.int (2 : Int32)), .val (.int v1096), .val (.ref b1097), .unset, .unset] [(.int (5 : Int32)), (.ref b1097)]))
    refine OEnds.st (fun _ k => XS.iload X1107.here hx rfl (hb hby at_47) rfl k) ?_
    show OEnds p.tables e below G (T1107.setTop (mkF m 49 #[.val (.int p1), .val (.int p2), .val (.int p3), .val (.int (2 : Int32)), .val (.int v1096), .val (.ref b1097), .unset, .unset] [(.int v1096), (.int (5 : Int32)), (.ref b1097)]))
    obtain ⟨cl1109, Ar1109, q1109, S1109, N1109n, H1109, G1109⟩ := id f1108
    have hin1109 : ¬ ((5 : Int32) < 0 ∨ cl1109.slots.size ≤ ((5 : Int32)).toNatClampNeg) := inb_of S1109 ⟨by decide, by decide⟩
    obtain ⟨T1109, h1109, X1109, e1109, W1109, st1109⟩ := stB X1107 hx hZ e1107 Ar1109 (j := (5 : Int32)) hin1109 (g := (mkF m 49 #[.val (.int p1), .val (.int p2), .val (.int p3), .val (.int (2 : Int32)), .val (.int v1096), .val (.ref b1097), .unset, .unset] [(.int v1096), (.int (5 : Int32)), (.ref b1097)])) rfl rfl (hb hby at_49)
    refine OEnds.st st1109 ?_
    rw [hf8] at W1109
    have f1110 : Arv Z h1109 b1097 k1097 .byte (9 : Int32) [(.int v1096), (.int v1096), (.int v1096), (.int v1096), (.int v1096), (.int v1096), (.int (0 : Int32)), (.int (0 : Int32)), (.int (0 : Int32))] (.int (0 : Int32)) := Arv.set Ar1109 q1109 S1109 N1109n H1109 G1109 (by rw [← hf8]; exact fits_nar_byte _) W1109 5 rfl (Nat.le_of_ble_eq_true rfl)
    have N1109 := Fr.snoc X1109 N1107 ge_b1097
    have KK1109 : Keep h0 h1109 [] := KK1107.wr W1109 (Or.inr sz_b1097)
    have Z1109 := Nat.le_trans Z1107 (Keep.of_wr W1109).1
    show OEnds p.tables e below G (T1109.setTop (mkF m 50 #[.val (.int p1), .val (.int p2), .val (.int p3), .val (.int (2 : Int32)), .val (.int v1096), .val (.ref b1097), .unset, .unset] []))
    refine OEnds.st (fun _ k => XS.aload X1109.here hx rfl (hb hby at_50) rfl rfl k) ?_
    show OEnds p.tables e below G (T1109.setTop (mkF m 52 #[.val (.int p1), .val (.int p2), .val (.int p3), .val (.int (2 : Int32)), .val (.int v1096), .val (.ref b1097), .unset, .unset] [(.ref b1097)]))
    refine OEnds.st (fun _ k => XS.bipush X1109.here hx rfl (hb hby at_52) k) ?_
    show OEnds p.tables e below G (T1109.setTop (mkF m 54 #[.val (.int p1), .val (.int p2), .val (.int p3), .val (.int (2 : Int32)), .val (.int v1096), .val (.ref b1097), .unset, .unset] [(.int (6 : Int32)), (.ref b1097)]))
    refine OEnds.st (fun _ k => XS.iload X1109.here hx rfl (hb hby at_54) rfl k) ?_
    show OEnds p.tables e below G (T1109.setTop (mkF m 56 #[.val (.int p1), .val (.int p2), .val (.int p3), .val (.int (2 : Int32)), .val (.int v1096), .val (.ref b1097), .unset, .unset] [(.int v1096), (.int (6 : Int32)), (.ref b1097)]))
    obtain ⟨cl1111, Ar1111, q1111, S1111, N1111n, H1111, G1111⟩ := id f1110
    have hin1111 : ¬ ((6 : Int32) < 0 ∨ cl1111.slots.size ≤ ((6 : Int32)).toNatClampNeg) := inb_of S1111 ⟨by decide, by decide⟩
    obtain ⟨T1111, h1111, X1111, e1111, W1111, st1111⟩ := stB X1109 hx hZ e1109 Ar1111 (j := (6 : Int32)) hin1111 (g := (mkF m 56 #[.val (.int p1), .val (.int p2), .val (.int p3), .val (.int (2 : Int32)), .val (.int v1096), .val (.ref b1097), .unset, .unset] [(.int v1096), (.int (6 : Int32)), (.ref b1097)])) rfl rfl (hb hby at_56)
    refine OEnds.st st1111 ?_
    rw [hf8] at W1111
    have f1112 : Arv Z h1111 b1097 k1097 .byte (9 : Int32) [(.int v1096), (.int v1096), (.int v1096), (.int v1096), (.int v1096), (.int v1096), (.int v1096), (.int (0 : Int32)), (.int (0 : Int32))] (.int (0 : Int32)) := Arv.set Ar1111 q1111 S1111 N1111n H1111 G1111 (by rw [← hf8]; exact fits_nar_byte _) W1111 6 rfl (Nat.le_of_ble_eq_true rfl)
    have N1111 := Fr.snoc X1111 N1109 ge_b1097
    have KK1111 : Keep h0 h1111 [] := KK1109.wr W1111 (Or.inr sz_b1097)
    have Z1111 := Nat.le_trans Z1109 (Keep.of_wr W1111).1
    show OEnds p.tables e below G (T1111.setTop (mkF m 57 #[.val (.int p1), .val (.int p2), .val (.int p3), .val (.int (2 : Int32)), .val (.int v1096), .val (.ref b1097), .unset, .unset] []))
    refine OEnds.st (fun _ k => XS.aload X1111.here hx rfl (hb hby at_57) rfl rfl k) ?_
    show OEnds p.tables e below G (T1111.setTop (mkF m 59 #[.val (.int p1), .val (.int p2), .val (.int p3), .val (.int (2 : Int32)), .val (.int v1096), .val (.ref b1097), .unset, .unset] [(.ref b1097)]))
    refine OEnds.st (fun _ k => XS.bipush X1111.here hx rfl (hb hby at_59) k) ?_
    show OEnds p.tables e below G (T1111.setTop (mkF m 61 #[.val (.int p1), .val (.int p2), .val (.int p3), .val (.int (2 : Int32)), .val (.int v1096), .val (.ref b1097), .unset, .unset] [(.int (7 : Int32)), (.ref b1097)]))
    refine OEnds.st (fun _ k => XS.iload X1111.here hx rfl (hb hby at_61) rfl k) ?_
    show OEnds p.tables e below G (T1111.setTop (mkF m 63 #[.val (.int p1), .val (.int p2), .val (.int p3), .val (.int (2 : Int32)), .val (.int v1096), .val (.ref b1097), .unset, .unset] [(.int v1096), (.int (7 : Int32)), (.ref b1097)]))
    obtain ⟨cl1113, Ar1113, q1113, S1113, N1113n, H1113, G1113⟩ := id f1112
    have hin1113 : ¬ ((7 : Int32) < 0 ∨ cl1113.slots.size ≤ ((7 : Int32)).toNatClampNeg) := inb_of S1113 ⟨by decide, by decide⟩
    obtain ⟨T1113, h1113, X1113, e1113, W1113, st1113⟩ := stB X1111 hx hZ e1111 Ar1113 (j := (7 : Int32)) hin1113 (g := (mkF m 63 #[.val (.int p1), .val (.int p2), .val (.int p3), .val (.int (2 : Int32)), .val (.int v1096), .val (.ref b1097), .unset, .unset] [(.int v1096), (.int (7 : Int32)), (.ref b1097)])) rfl rfl (hb hby at_63)
    refine OEnds.st st1113 ?_
    rw [hf8] at W1113
    have f1114 : Arv Z h1113 b1097 k1097 .byte (9 : Int32) [(.int v1096), (.int v1096), (.int v1096), (.int v1096), (.int v1096), (.int v1096), (.int v1096), (.int v1096), (.int (0 : Int32))] (.int (0 : Int32)) := Arv.set Ar1113 q1113 S1113 N1113n H1113 G1113 (by rw [← hf8]; exact fits_nar_byte _) W1113 7 rfl (Nat.le_of_ble_eq_true rfl)
    have N1113 := Fr.snoc X1113 N1111 ge_b1097
    have KK1113 : Keep h0 h1113 [] := KK1111.wr W1113 (Or.inr sz_b1097)
    have Z1113 := Nat.le_trans Z1111 (Keep.of_wr W1113).1
    show OEnds p.tables e below G (T1113.setTop (mkF m 64 #[.val (.int p1), .val (.int p2), .val (.int p3), .val (.int (2 : Int32)), .val (.int v1096), .val (.ref b1097), .unset, .unset] []))
    refine OEnds.st (fun _ k => XS.aload X1113.here hx rfl (hb hby at_64) rfl rfl k) ?_
    show OEnds p.tables e below G (T1113.setTop (mkF m 66 #[.val (.int p1), .val (.int p2), .val (.int p3), .val (.int (2 : Int32)), .val (.int v1096), .val (.ref b1097), .unset, .unset] [(.ref b1097)]))
    refine OEnds.st (fun _ k => XS.bipush X1113.here hx rfl (hb hby at_66) k) ?_
    show OEnds p.tables e below G (T1113.setTop (mkF m 68 #[.val (.int p1), .val (.int p2), .val (.int p3), .val (.int (2 : Int32)), .val (.int v1096), .val (.ref b1097), .unset, .unset] [(.int (8 : Int32)), (.ref b1097)]))
    refine OEnds.st (fun _ k => XS.iload X1113.here hx rfl (hb hby at_68) rfl k) ?_
    show OEnds p.tables e below G (T1113.setTop (mkF m 70 #[.val (.int p1), .val (.int p2), .val (.int p3), .val (.int (2 : Int32)), .val (.int v1096), .val (.ref b1097), .unset, .unset] [(.int v1096), (.int (8 : Int32)), (.ref b1097)]))
    obtain ⟨cl1115, Ar1115, q1115, S1115, N1115n, H1115, G1115⟩ := id f1114
    have hin1115 : ¬ ((8 : Int32) < 0 ∨ cl1115.slots.size ≤ ((8 : Int32)).toNatClampNeg) := inb_of S1115 ⟨by decide, by decide⟩
    obtain ⟨T1115, h1115, X1115, e1115, W1115, st1115⟩ := stB X1113 hx hZ e1113 Ar1115 (j := (8 : Int32)) hin1115 (g := (mkF m 70 #[.val (.int p1), .val (.int p2), .val (.int p3), .val (.int (2 : Int32)), .val (.int v1096), .val (.ref b1097), .unset, .unset] [(.int v1096), (.int (8 : Int32)), (.ref b1097)])) rfl rfl (hb hby at_70)
    refine OEnds.st st1115 ?_
    rw [hf8] at W1115
    have f1116 : Arv Z h1115 b1097 k1097 .byte (9 : Int32) [(.int v1096), (.int v1096), (.int v1096), (.int v1096), (.int v1096), (.int v1096), (.int v1096), (.int v1096), (.int v1096)] (.int (0 : Int32)) := Arv.set Ar1115 q1115 S1115 N1115n H1115 G1115 (by rw [← hf8]; exact fits_nar_byte _) W1115 8 rfl (Nat.le_of_ble_eq_true rfl)
    have N1115 := Fr.snoc X1115 N1113 ge_b1097
    have KK1115 : Keep h0 h1115 [] := KK1113.wr W1115 (Or.inr sz_b1097)
    have Z1115 := Nat.le_trans Z1113 (Keep.of_wr W1115).1
    show OEnds p.tables e below G (T1115.setTop (mkF m 71 #[.val (.int p1), .val (.int p2), .val (.int p3), .val (.int (2 : Int32)), .val (.int v1096), .val (.ref b1097), .unset, .unset] []))
    refine OEnds.st (fun _ k => XS.aload X1115.here hx rfl (hb hby at_71) rfl rfl k) ?_
    show OEnds p.tables e below G (T1115.setTop (mkF m 73 #[.val (.int p1), .val (.int p2), .val (.int p3), .val (.int (2 : Int32)), .val (.int v1096), .val (.ref b1097), .unset, .unset] [(.ref b1097)]))
    refine OEnds.st (fun _ k => XS.iloadN X1115.here hx rfl (hb hby at_73) rfl k) ?_
    show OEnds p.tables e below G (T1115.setTop (mkF m 74 #[.val (.int p1), .val (.int p2), .val (.int p3), .val (.int (2 : Int32)), .val (.int v1096), .val (.ref b1097), .unset, .unset] [(.int (2 : Int32)), (.ref b1097)]))
    refine OEnds.st (fun _ k => XS.iloadN X1115.here hx rfl (hb hby at_74) rfl k) ?_
    show OEnds p.tables e below G (T1115.setTop (mkF m 75 #[.val (.int p1), .val (.int p2), .val (.int p3), .val (.int (2 : Int32)), .val (.int v1096), .val (.ref b1097), .unset, .unset] [(.int p1), (.int (2 : Int32)), (.ref b1097)]))
    obtain ⟨_, _, ⟨T1117, L1117, k1117c, n1117c⟩, -, X1117, ⟨Lc1117, hQ1117, l1117, y1117, z1117⟩, st1117⟩ := Jvm.LawKit.callS X1115 hx (y := (⟨"com/example/words_to_weights/wordstoweights/index/IndexFormat", "putNumber", "([BII)I"⟩ : MethodName)) hown (mvT hZ (hw _ (List.mem_of_getElem? (i := 1) rfl))) (mvT hZ (hw _ (List.mem_of_getElem? (i := 2) rfl))) (mvT hZ (hw _ (List.mem_of_getElem? (i := 3) rfl))) (mvT hZ (hw _ (List.mem_of_getElem? (i := 4) rfl))) (by decide) (backOf (W := 0) (rmput2 l Z a0 hw [] b1097 p1 k1097 v1096 h1115 n0 Z1115 f1116 ge_b1097 hf8) hZ (hw _ (List.mem_of_getElem? (i := 4) rfl)) (hw _ (List.mem_of_getElem? (i := 3) rfl)) (by decide) (by decide)) (g := (mkF m 75 #[.val (.int p1), .val (.int p2), .val (.int p3), .val (.int (2 : Int32)), .val (.int v1096), .val (.ref b1097), .unset, .unset] [(.int p1), (.int (2 : Int32)), (.ref b1097)])) rfl (by rw [hml]; rfl) (argsL := [(.ref b1097), (.int (2 : Int32)), (.int p1)]) (rest := []) (lenOf pd_0 rfl) rfl (by show 2 * 0 + _ ≤ _; exact Nat.le_of_eq rfl) (hb hby at_75) (fun _ _ => ⟨rfl, e1115, (by decide : 0 + 1 + 0 ≤ _), (by decide : 0 + 9 + 0 ≤ _)⟩)
    dsimp only [Pt.U, Pt.locs, Pt.cells, Pt.slots] at X1117 l1117 y1117 z1117 st1117 hQ1117
    subst l1117 y1117 z1117
    obtain ⟨rfl, N1117q, p1118, p1119⟩ := hQ1117
    have N1117 := Fr.app N1115 N1117q
    refine OEnds.st st1117 ?_
    have KK1117 : Keep h0 T1117.heap [] := KK1115.trans p1118 (fun x hx => by cases List.mem_singleton.mp hx; exact Or.inr sz_b1097)
    have Z1117 := Nat.le_trans Z1115 p1118.1
    show OEnds p.tables e below G (T1117.setTop (mkF m 78 #[.val (.int p1), .val (.int p2), .val (.int p3), .val (.int (2 : Int32)), .val (.int v1096), .val (.ref b1097), .unset, .unset] [(.int ((2 : Int32) + own_cnt p1))]))
    refine OEnds.st (fun _ k => XS.istore X1117.here hx rfl (hb hby at_78) rfl (l' := #[.val (.int p1), .val (.int p2), .val (.int p3), .val (.int (2 : Int32)), .val (.int v1096), .val (.ref b1097), .val (.int ((2 : Int32) + own_cnt p1)), .unset]) rfl k) ?_
    show OEnds p.tables e below G (T1117.setTop (mkF m 80 #[.val (.int p1), .val (.int p2), .val (.int p3), .val (.int (2 : Int32)), .val (.int v1096), .val (.ref b1097), .val (.int ((2 : Int32) + own_cnt p1)), .unset] []))
    generalize hv_v1121 : ((2 : Int32) + own_cnt p1) = v1121
    show OEnds p.tables e below G (T1117.setTop (mkF m 80 #[.val (.int p1), .val (.int p2), .val (.int p3), .val (.int (2 : Int32)), .val (.int v1096), .val (.ref b1097), .val (.int v1121), .unset] []))
    refine OEnds.st (fun _ k => XS.iloadN X1117.here hx rfl (hb hby at_80) rfl k) ?_
    show OEnds p.tables e below G (T1117.setTop (mkF m 81 #[.val (.int p1), .val (.int p2), .val (.int p3), .val (.int (2 : Int32)), .val (.int v1096), .val (.ref b1097), .val (.int v1121), .unset] [(.int p1)]))
    obtain ⟨_, _, ⟨T1122, L1122, k1122c, n1122c⟩, -, X1122, ⟨Lc1122, hQ1122, l1122, y1122, z1122⟩, st1122⟩ := Jvm.LawKit.callS X1117 hx (y := (⟨"com/example/words_to_weights/wordstoweights/index/IndexFormatPutNumberPinLaw", "length", "(I)I"⟩ : MethodName)) hown (mvT hZ (hw _ (List.mem_of_getElem? (i := 5) rfl))) (mvT hZ (hw _ (List.mem_of_getElem? (i := 6) rfl))) (mvT hZ (hw _ (List.mem_of_getElem? (i := 7) rfl))) (mvT hZ (hw _ (List.mem_of_getElem? (i := 8) rfl))) (by decide) (backOf (W := 0) (rm2 l Z a0 hw [] p1 T1117.heap n0 Z1117 ) hZ (hw _ (List.mem_of_getElem? (i := 8) rfl)) (hw _ (List.mem_of_getElem? (i := 7) rfl)) (by decide) (by decide)) (g := (mkF m 81 #[.val (.int p1), .val (.int p2), .val (.int p3), .val (.int (2 : Int32)), .val (.int v1096), .val (.ref b1097), .val (.int v1121), .unset] [(.int p1)])) rfl (by rw [hml]; rfl) (argsL := [(.int p1)]) (rest := []) (lenOf pd_1 rfl) rfl (by show 2 * 0 + _ ≤ _; exact Nat.le_of_eq rfl) (hb hby at_81) (fun _ _ => ⟨rfl, rfl, (by decide : 0 + 1 + 0 + 0 ≤ _), (by decide : 0 + 9 + 0 + 0 ≤ _)⟩)
    dsimp only [Pt.U, Pt.locs, Pt.cells, Pt.slots] at X1122 l1122 y1122 z1122 st1122 hQ1122
    subst l1122 y1122 z1122
    obtain ⟨rfl, N1122q, e1122⟩ := hQ1122
    have N1122 := Fr.app N1117 N1122q
    refine OEnds.st st1122 ?_
    show OEnds p.tables e below G (T1122.setTop (mkF m 84 #[.val (.int p1), .val (.int p2), .val (.int p3), .val (.int (2 : Int32)), .val (.int v1096), .val (.ref b1097), .val (.int v1121), .unset] [(.int (own_len p1))]))
    refine OEnds.st (fun _ k => XS.istore X1122.here hx rfl (hb hby at_84) rfl (l' := #[.val (.int p1), .val (.int p2), .val (.int p3), .val (.int (2 : Int32)), .val (.int v1096), .val (.ref b1097), .val (.int v1121), .val (.int (own_len p1))]) rfl k) ?_
    show OEnds p.tables e below G (T1122.setTop (mkF m 86 #[.val (.int p1), .val (.int p2), .val (.int p3), .val (.int (2 : Int32)), .val (.int v1096), .val (.ref b1097), .val (.int v1121), .val (.int (own_len p1))] []))
    generalize hv_v1123 : (own_len p1) = v1123
    show OEnds p.tables e below G (T1122.setTop (mkF m 86 #[.val (.int p1), .val (.int p2), .val (.int p3), .val (.int (2 : Int32)), .val (.int v1096), .val (.ref b1097), .val (.int v1121), .val (.int v1123)] []))
    refine OEnds.st (fun _ k => XS.iload X1122.here hx rfl (hb hby at_86) rfl k) ?_
    show OEnds p.tables e below G (T1122.setTop (mkF m 88 #[.val (.int p1), .val (.int p2), .val (.int p3), .val (.int (2 : Int32)), .val (.int v1096), .val (.ref b1097), .val (.int v1121), .val (.int v1123)] [(.int v1121)]))
    refine OEnds.st (fun _ k => XS.iloadN X1122.here hx rfl (hb hby at_88) rfl k) ?_
    show OEnds p.tables e below G (T1122.setTop (mkF m 89 #[.val (.int p1), .val (.int p2), .val (.int p3), .val (.int (2 : Int32)), .val (.int v1096), .val (.ref b1097), .val (.int v1121), .val (.int v1123)] [(.int (2 : Int32)), (.int v1121)]))
    refine OEnds.st (fun _ k => XS.iload X1122.here hx rfl (hb hby at_89) rfl k) ?_
    show OEnds p.tables e below G (T1122.setTop (mkF m 91 #[.val (.int p1), .val (.int p2), .val (.int p3), .val (.int (2 : Int32)), .val (.int v1096), .val (.ref b1097), .val (.int v1121), .val (.int v1123)] [(.int v1123), (.int (2 : Int32)), (.int v1121)]))
    refine OEnds.st (fun _ k => XS.iadd X1122.here hx rfl (hb hby at_91) rfl k) ?_
    show OEnds p.tables e below G (T1122.setTop (mkF m 92 #[.val (.int p1), .val (.int p2), .val (.int p3), .val (.int (2 : Int32)), .val (.int v1096), .val (.ref b1097), .val (.int v1121), .val (.int v1123)] [(.int ((2 : Int32) + v1123)), (.int v1121)]))
    have hc92_1124 : v1121 = ((2 : Int32) + v1123) := by rw [← hv_v1121, ← hv_v1123, own_cnt_len]
    refine OEnds.st (fun _ k => XS.icmpYes X1122.here hx rfl (pc0 := 92) (pc' := 97) rfl (hb hby at_92) rfl (teq hc92_1124).1 (by decide) (by decide) k) ?_
    show OEnds p.tables e below G (T1122.setTop (mkF m 97 #[.val (.int p1), .val (.int p2), .val (.int p3), .val (.int (2 : Int32)), .val (.int v1096), .val (.ref b1097), .val (.int v1121), .val (.int v1123)] []))
    refine OEnds.st (fun _ k => XS.aload X1122.here hx rfl (hb hby at_97) rfl rfl k) ?_
    show OEnds p.tables e below G (T1122.setTop (mkF m 99 #[.val (.int p1), .val (.int p2), .val (.int p3), .val (.int (2 : Int32)), .val (.int v1096), .val (.ref b1097), .val (.int v1121), .val (.int v1123)] [(.ref b1097)]))
    refine OEnds.st (fun _ k => XS.iconst X1122.here hx rfl (hb hby at_99) k) ?_
    show OEnds p.tables e below G (T1122.setTop (mkF m 100 #[.val (.int p1), .val (.int p2), .val (.int p3), .val (.int (2 : Int32)), .val (.int v1096), .val (.ref b1097), .val (.int v1121), .val (.int v1123)] [(.int (0 : Int32)), (.ref b1097)]))
    refine OEnds.st (fun _ k => XS.iloadN X1122.here hx rfl (hb hby at_100) rfl k) ?_
    show OEnds p.tables e below G (T1122.setTop (mkF m 101 #[.val (.int p1), .val (.int p2), .val (.int p3), .val (.int (2 : Int32)), .val (.int v1096), .val (.ref b1097), .val (.int v1121), .val (.int v1123)] [(.int (2 : Int32)), (.int (0 : Int32)), (.ref b1097)]))
    refine OEnds.st (fun _ k => XS.iload X1122.here hx rfl (hb hby at_101) rfl k) ?_
    show OEnds p.tables e below G (T1122.setTop (mkF m 103 #[.val (.int p1), .val (.int p2), .val (.int p3), .val (.int (2 : Int32)), .val (.int v1096), .val (.ref b1097), .val (.int v1121), .val (.int v1123)] [(.int v1123), (.int (2 : Int32)), (.int (0 : Int32)), (.ref b1097)]))
    refine OEnds.st (fun _ k => XS.iloadN X1122.here hx rfl (hb hby at_103) rfl k) ?_
    show OEnds p.tables e below G (T1122.setTop (mkF m 104 #[.val (.int p1), .val (.int p2), .val (.int p3), .val (.int (2 : Int32)), .val (.int v1096), .val (.ref b1097), .val (.int v1121), .val (.int v1123)] [(.int p1), (.int v1123), (.int (2 : Int32)), (.int (0 : Int32)), (.ref b1097)]))
    refine OEnds.st (fun _ k => XS.iload X1122.here hx rfl (hb hby at_104) rfl k) ?_
    show OEnds p.tables e below G (T1122.setTop (mkF m 106 #[.val (.int p1), .val (.int p2), .val (.int p3), .val (.int (2 : Int32)), .val (.int v1096), .val (.ref b1097), .val (.int v1121), .val (.int v1123)] [(.int v1096), (.int p1), (.int v1123), (.int (2 : Int32)), (.int (0 : Int32)), (.ref b1097)]))
    obtain ⟨_, _, ⟨T1125, L1125, k1125c, n1125c⟩, -, X1125, ⟨Lc1125, hQ1125, l1125, y1125, z1125⟩, st1125⟩ := Jvm.LawKit.callS X1122 hx (y := (⟨"com/example/words_to_weights/wordstoweights/index/IndexFormatPutNumberPinLaw", "at", "([BIIIIB)Z"⟩ : MethodName)) hown (mvT hZ (hw _ (List.mem_of_getElem? (i := 9) rfl))) (mvT hZ (hw _ (List.mem_of_getElem? (i := 10) rfl))) (mvT hZ (hw _ (List.mem_of_getElem? (i := 7) rfl))) (mvT hZ (hw _ (List.mem_of_getElem? (i := 11) rfl))) (by decide) (backOf (W := 0) (rm3 l Z a0 hw [] b1097 (0 : Int32) (2 : Int32) v1123 p1 v1096 k1097 (own_els 2 p1 v1096) (own_el 2 0 p1 v1096) T1117.heap n0 Z1117 p1119 (by decide) (by decide) rfl) hZ (hw _ (List.mem_of_getElem? (i := 11) rfl)) (hw _ (List.mem_of_getElem? (i := 7) rfl)) (by decide) (by decide)) (g := (mkF m 106 #[.val (.int p1), .val (.int p2), .val (.int p3), .val (.int (2 : Int32)), .val (.int v1096), .val (.ref b1097), .val (.int v1121), .val (.int v1123)] [(.int v1096), (.int p1), (.int v1123), (.int (2 : Int32)), (.int (0 : Int32)), (.ref b1097)])) rfl (by rw [hml]; rfl) (argsL := [(.ref b1097), (.int (0 : Int32)), (.int (2 : Int32)), (.int v1123), (.int p1), (.int v1096)]) (rest := []) (lenOf pd_2 rfl) rfl (by show 2 * 0 + _ ≤ _; exact Nat.le_of_eq rfl) (hb hby at_106) (fun _ _ => ⟨rfl, e1122, (by decide : 0 + 1 + 0 + 0 + 0 ≤ _), (by decide : 0 + 9 + 0 + 0 + 0 ≤ _)⟩)
    dsimp only [Pt.U, Pt.locs, Pt.cells, Pt.slots] at X1125 l1125 y1125 z1125 st1125 hQ1125
    subst l1125 y1125 z1125
    obtain ⟨rfl, N1125q, e1125⟩ := hQ1125
    have N1125 := Fr.app N1122 N1125q
    refine OEnds.st st1125 ?_
    show OEnds p.tables e below G (T1125.setTop (mkF m 109 #[.val (.int p1), .val (.int p2), .val (.int p3), .val (.int (2 : Int32)), .val (.int v1096), .val (.ref b1097), .val (.int v1121), .val (.int v1123)] [(.int (own_at (0 : Int32) (2 : Int32) v1123 p1 v1096 (own_el 2 0 p1 v1096)))]))
    have hc109_1126 : ¬ ((own_at (0 : Int32) (2 : Int32) v1123 p1 v1096 (own_el 2 0 p1 v1096)) = (0 : Int32)) := by rw [← hv_v1123, own_ok_2_0 p1 v1096]; decide
    refine OEnds.st (fun _ k => XS.ifNo X1125.here hx rfl (hb hby at_109) rfl ((if0 _ _).trans (feq hc109_1126).1) k) ?_
    show OEnds p.tables e below G (T1125.setTop (mkF m 112 #[.val (.int p1), .val (.int p2), .val (.int p3), .val (.int (2 : Int32)), .val (.int v1096), .val (.ref b1097), .val (.int v1121), .val (.int v1123)] []))
    refine OEnds.st (fun _ k => XS.aload X1125.here hx rfl (hb hby at_112) rfl rfl k) ?_
    show OEnds p.tables e below G (T1125.setTop (mkF m 114 #[.val (.int p1), .val (.int p2), .val (.int p3), .val (.int (2 : Int32)), .val (.int v1096), .val (.ref b1097), .val (.int v1121), .val (.int v1123)] [(.ref b1097)]))
    refine OEnds.st (fun _ k => XS.iconst X1125.here hx rfl (hb hby at_114) k) ?_
    show OEnds p.tables e below G (T1125.setTop (mkF m 115 #[.val (.int p1), .val (.int p2), .val (.int p3), .val (.int (2 : Int32)), .val (.int v1096), .val (.ref b1097), .val (.int v1121), .val (.int v1123)] [(.int (1 : Int32)), (.ref b1097)]))
    refine OEnds.st (fun _ k => XS.iloadN X1125.here hx rfl (hb hby at_115) rfl k) ?_
    show OEnds p.tables e below G (T1125.setTop (mkF m 116 #[.val (.int p1), .val (.int p2), .val (.int p3), .val (.int (2 : Int32)), .val (.int v1096), .val (.ref b1097), .val (.int v1121), .val (.int v1123)] [(.int (2 : Int32)), (.int (1 : Int32)), (.ref b1097)]))
    refine OEnds.st (fun _ k => XS.iload X1125.here hx rfl (hb hby at_116) rfl k) ?_
    show OEnds p.tables e below G (T1125.setTop (mkF m 118 #[.val (.int p1), .val (.int p2), .val (.int p3), .val (.int (2 : Int32)), .val (.int v1096), .val (.ref b1097), .val (.int v1121), .val (.int v1123)] [(.int v1123), (.int (2 : Int32)), (.int (1 : Int32)), (.ref b1097)]))
    refine OEnds.st (fun _ k => XS.iloadN X1125.here hx rfl (hb hby at_118) rfl k) ?_
    show OEnds p.tables e below G (T1125.setTop (mkF m 119 #[.val (.int p1), .val (.int p2), .val (.int p3), .val (.int (2 : Int32)), .val (.int v1096), .val (.ref b1097), .val (.int v1121), .val (.int v1123)] [(.int p1), (.int v1123), (.int (2 : Int32)), (.int (1 : Int32)), (.ref b1097)]))
    refine OEnds.st (fun _ k => XS.iload X1125.here hx rfl (hb hby at_119) rfl k) ?_
    show OEnds p.tables e below G (T1125.setTop (mkF m 121 #[.val (.int p1), .val (.int p2), .val (.int p3), .val (.int (2 : Int32)), .val (.int v1096), .val (.ref b1097), .val (.int v1121), .val (.int v1123)] [(.int v1096), (.int p1), (.int v1123), (.int (2 : Int32)), (.int (1 : Int32)), (.ref b1097)]))
    obtain ⟨_, _, ⟨T1127, L1127, k1127c, n1127c⟩, -, X1127, ⟨Lc1127, hQ1127, l1127, y1127, z1127⟩, st1127⟩ := Jvm.LawKit.callS X1125 hx (y := (⟨"com/example/words_to_weights/wordstoweights/index/IndexFormatPutNumberPinLaw", "at", "([BIIIIB)Z"⟩ : MethodName)) hown (mvT hZ (hw _ (List.mem_of_getElem? (i := 9) rfl))) (mvT hZ (hw _ (List.mem_of_getElem? (i := 10) rfl))) (mvT hZ (hw _ (List.mem_of_getElem? (i := 7) rfl))) (mvT hZ (hw _ (List.mem_of_getElem? (i := 11) rfl))) (by decide) (backOf (W := 0) (rm3 l Z a0 hw [] b1097 (1 : Int32) (2 : Int32) v1123 p1 v1096 k1097 (own_els 2 p1 v1096) (own_el 2 1 p1 v1096) T1117.heap n0 Z1117 p1119 (by decide) (by decide) rfl) hZ (hw _ (List.mem_of_getElem? (i := 11) rfl)) (hw _ (List.mem_of_getElem? (i := 7) rfl)) (by decide) (by decide)) (g := (mkF m 121 #[.val (.int p1), .val (.int p2), .val (.int p3), .val (.int (2 : Int32)), .val (.int v1096), .val (.ref b1097), .val (.int v1121), .val (.int v1123)] [(.int v1096), (.int p1), (.int v1123), (.int (2 : Int32)), (.int (1 : Int32)), (.ref b1097)])) rfl (by rw [hml]; rfl) (argsL := [(.ref b1097), (.int (1 : Int32)), (.int (2 : Int32)), (.int v1123), (.int p1), (.int v1096)]) (rest := []) (lenOf pd_2 rfl) rfl (by show 2 * 0 + _ ≤ _; exact Nat.le_of_eq rfl) (hb hby at_121) (fun _ _ => ⟨rfl, e1125, (by decide : 0 + 1 + 0 + 0 + 0 + 0 ≤ _), (by decide : 0 + 9 + 0 + 0 + 0 + 0 ≤ _)⟩)
    dsimp only [Pt.U, Pt.locs, Pt.cells, Pt.slots] at X1127 l1127 y1127 z1127 st1127 hQ1127
    subst l1127 y1127 z1127
    obtain ⟨rfl, N1127q, e1127⟩ := hQ1127
    have N1127 := Fr.app N1125 N1127q
    refine OEnds.st st1127 ?_
    show OEnds p.tables e below G (T1127.setTop (mkF m 124 #[.val (.int p1), .val (.int p2), .val (.int p3), .val (.int (2 : Int32)), .val (.int v1096), .val (.ref b1097), .val (.int v1121), .val (.int v1123)] [(.int (own_at (1 : Int32) (2 : Int32) v1123 p1 v1096 (own_el 2 1 p1 v1096)))]))
    have hc124_1128 : ¬ ((own_at (1 : Int32) (2 : Int32) v1123 p1 v1096 (own_el 2 1 p1 v1096)) = (0 : Int32)) := by rw [← hv_v1123, own_ok_2_1 p1 v1096]; decide
    refine OEnds.st (fun _ k => XS.ifNo X1127.here hx rfl (hb hby at_124) rfl ((if0 _ _).trans (feq hc124_1128).1) k) ?_
    show OEnds p.tables e below G (T1127.setTop (mkF m 127 #[.val (.int p1), .val (.int p2), .val (.int p3), .val (.int (2 : Int32)), .val (.int v1096), .val (.ref b1097), .val (.int v1121), .val (.int v1123)] []))
    refine OEnds.st (fun _ k => XS.aload X1127.here hx rfl (hb hby at_127) rfl rfl k) ?_
    show OEnds p.tables e below G (T1127.setTop (mkF m 129 #[.val (.int p1), .val (.int p2), .val (.int p3), .val (.int (2 : Int32)), .val (.int v1096), .val (.ref b1097), .val (.int v1121), .val (.int v1123)] [(.ref b1097)]))
    refine OEnds.st (fun _ k => XS.iconst X1127.here hx rfl (hb hby at_129) k) ?_
    show OEnds p.tables e below G (T1127.setTop (mkF m 130 #[.val (.int p1), .val (.int p2), .val (.int p3), .val (.int (2 : Int32)), .val (.int v1096), .val (.ref b1097), .val (.int v1121), .val (.int v1123)] [(.int (2 : Int32)), (.ref b1097)]))
    refine OEnds.st (fun _ k => XS.iloadN X1127.here hx rfl (hb hby at_130) rfl k) ?_
    show OEnds p.tables e below G (T1127.setTop (mkF m 131 #[.val (.int p1), .val (.int p2), .val (.int p3), .val (.int (2 : Int32)), .val (.int v1096), .val (.ref b1097), .val (.int v1121), .val (.int v1123)] [(.int (2 : Int32)), (.int (2 : Int32)), (.ref b1097)]))
    refine OEnds.st (fun _ k => XS.iload X1127.here hx rfl (hb hby at_131) rfl k) ?_
    show OEnds p.tables e below G (T1127.setTop (mkF m 133 #[.val (.int p1), .val (.int p2), .val (.int p3), .val (.int (2 : Int32)), .val (.int v1096), .val (.ref b1097), .val (.int v1121), .val (.int v1123)] [(.int v1123), (.int (2 : Int32)), (.int (2 : Int32)), (.ref b1097)]))
    refine OEnds.st (fun _ k => XS.iloadN X1127.here hx rfl (hb hby at_133) rfl k) ?_
    show OEnds p.tables e below G (T1127.setTop (mkF m 134 #[.val (.int p1), .val (.int p2), .val (.int p3), .val (.int (2 : Int32)), .val (.int v1096), .val (.ref b1097), .val (.int v1121), .val (.int v1123)] [(.int p1), (.int v1123), (.int (2 : Int32)), (.int (2 : Int32)), (.ref b1097)]))
    refine OEnds.st (fun _ k => XS.iload X1127.here hx rfl (hb hby at_134) rfl k) ?_
    show OEnds p.tables e below G (T1127.setTop (mkF m 136 #[.val (.int p1), .val (.int p2), .val (.int p3), .val (.int (2 : Int32)), .val (.int v1096), .val (.ref b1097), .val (.int v1121), .val (.int v1123)] [(.int v1096), (.int p1), (.int v1123), (.int (2 : Int32)), (.int (2 : Int32)), (.ref b1097)]))
    obtain ⟨_, _, ⟨T1129, L1129, k1129c, n1129c⟩, -, X1129, ⟨Lc1129, hQ1129, l1129, y1129, z1129⟩, st1129⟩ := Jvm.LawKit.callS X1127 hx (y := (⟨"com/example/words_to_weights/wordstoweights/index/IndexFormatPutNumberPinLaw", "at", "([BIIIIB)Z"⟩ : MethodName)) hown (mvT hZ (hw _ (List.mem_of_getElem? (i := 9) rfl))) (mvT hZ (hw _ (List.mem_of_getElem? (i := 10) rfl))) (mvT hZ (hw _ (List.mem_of_getElem? (i := 7) rfl))) (mvT hZ (hw _ (List.mem_of_getElem? (i := 11) rfl))) (by decide) (backOf (W := 0) (rm3 l Z a0 hw [] b1097 (2 : Int32) (2 : Int32) v1123 p1 v1096 k1097 (own_els 2 p1 v1096) (own_el 2 2 p1 v1096) T1117.heap n0 Z1117 p1119 (by decide) (by decide) rfl) hZ (hw _ (List.mem_of_getElem? (i := 11) rfl)) (hw _ (List.mem_of_getElem? (i := 7) rfl)) (by decide) (by decide)) (g := (mkF m 136 #[.val (.int p1), .val (.int p2), .val (.int p3), .val (.int (2 : Int32)), .val (.int v1096), .val (.ref b1097), .val (.int v1121), .val (.int v1123)] [(.int v1096), (.int p1), (.int v1123), (.int (2 : Int32)), (.int (2 : Int32)), (.ref b1097)])) rfl (by rw [hml]; rfl) (argsL := [(.ref b1097), (.int (2 : Int32)), (.int (2 : Int32)), (.int v1123), (.int p1), (.int v1096)]) (rest := []) (lenOf pd_2 rfl) rfl (by show 2 * 0 + _ ≤ _; exact Nat.le_of_eq rfl) (hb hby at_136) (fun _ _ => ⟨rfl, e1127, (by decide : 0 + 1 + 0 + 0 + 0 + 0 + 0 ≤ _), (by decide : 0 + 9 + 0 + 0 + 0 + 0 + 0 ≤ _)⟩)
    dsimp only [Pt.U, Pt.locs, Pt.cells, Pt.slots] at X1129 l1129 y1129 z1129 st1129 hQ1129
    subst l1129 y1129 z1129
    obtain ⟨rfl, N1129q, e1129⟩ := hQ1129
    have N1129 := Fr.app N1127 N1129q
    refine OEnds.st st1129 ?_
    show OEnds p.tables e below G (T1129.setTop (mkF m 139 #[.val (.int p1), .val (.int p2), .val (.int p3), .val (.int (2 : Int32)), .val (.int v1096), .val (.ref b1097), .val (.int v1121), .val (.int v1123)] [(.int (own_at (2 : Int32) (2 : Int32) v1123 p1 v1096 (own_el 2 2 p1 v1096)))]))
    have hc139_1130 : ¬ ((own_at (2 : Int32) (2 : Int32) v1123 p1 v1096 (own_el 2 2 p1 v1096)) = (0 : Int32)) := by rw [← hv_v1123, own_ok_2_2 p1 v1096]; decide
    refine OEnds.st (fun _ k => XS.ifNo X1129.here hx rfl (hb hby at_139) rfl ((if0 _ _).trans (feq hc139_1130).1) k) ?_
    show OEnds p.tables e below G (T1129.setTop (mkF m 142 #[.val (.int p1), .val (.int p2), .val (.int p3), .val (.int (2 : Int32)), .val (.int v1096), .val (.ref b1097), .val (.int v1121), .val (.int v1123)] []))
    refine OEnds.st (fun _ k => XS.aload X1129.here hx rfl (hb hby at_142) rfl rfl k) ?_
    show OEnds p.tables e below G (T1129.setTop (mkF m 144 #[.val (.int p1), .val (.int p2), .val (.int p3), .val (.int (2 : Int32)), .val (.int v1096), .val (.ref b1097), .val (.int v1121), .val (.int v1123)] [(.ref b1097)]))
    refine OEnds.st (fun _ k => XS.iconst X1129.here hx rfl (hb hby at_144) k) ?_
    show OEnds p.tables e below G (T1129.setTop (mkF m 145 #[.val (.int p1), .val (.int p2), .val (.int p3), .val (.int (2 : Int32)), .val (.int v1096), .val (.ref b1097), .val (.int v1121), .val (.int v1123)] [(.int (3 : Int32)), (.ref b1097)]))
    refine OEnds.st (fun _ k => XS.iloadN X1129.here hx rfl (hb hby at_145) rfl k) ?_
    show OEnds p.tables e below G (T1129.setTop (mkF m 146 #[.val (.int p1), .val (.int p2), .val (.int p3), .val (.int (2 : Int32)), .val (.int v1096), .val (.ref b1097), .val (.int v1121), .val (.int v1123)] [(.int (2 : Int32)), (.int (3 : Int32)), (.ref b1097)]))
    refine OEnds.st (fun _ k => XS.iload X1129.here hx rfl (hb hby at_146) rfl k) ?_
    show OEnds p.tables e below G (T1129.setTop (mkF m 148 #[.val (.int p1), .val (.int p2), .val (.int p3), .val (.int (2 : Int32)), .val (.int v1096), .val (.ref b1097), .val (.int v1121), .val (.int v1123)] [(.int v1123), (.int (2 : Int32)), (.int (3 : Int32)), (.ref b1097)]))
    refine OEnds.st (fun _ k => XS.iloadN X1129.here hx rfl (hb hby at_148) rfl k) ?_
    show OEnds p.tables e below G (T1129.setTop (mkF m 149 #[.val (.int p1), .val (.int p2), .val (.int p3), .val (.int (2 : Int32)), .val (.int v1096), .val (.ref b1097), .val (.int v1121), .val (.int v1123)] [(.int p1), (.int v1123), (.int (2 : Int32)), (.int (3 : Int32)), (.ref b1097)]))
    refine OEnds.st (fun _ k => XS.iload X1129.here hx rfl (hb hby at_149) rfl k) ?_
    show OEnds p.tables e below G (T1129.setTop (mkF m 151 #[.val (.int p1), .val (.int p2), .val (.int p3), .val (.int (2 : Int32)), .val (.int v1096), .val (.ref b1097), .val (.int v1121), .val (.int v1123)] [(.int v1096), (.int p1), (.int v1123), (.int (2 : Int32)), (.int (3 : Int32)), (.ref b1097)]))
    obtain ⟨_, _, ⟨T1131, L1131, k1131c, n1131c⟩, -, X1131, ⟨Lc1131, hQ1131, l1131, y1131, z1131⟩, st1131⟩ := Jvm.LawKit.callS X1129 hx (y := (⟨"com/example/words_to_weights/wordstoweights/index/IndexFormatPutNumberPinLaw", "at", "([BIIIIB)Z"⟩ : MethodName)) hown (mvT hZ (hw _ (List.mem_of_getElem? (i := 9) rfl))) (mvT hZ (hw _ (List.mem_of_getElem? (i := 10) rfl))) (mvT hZ (hw _ (List.mem_of_getElem? (i := 7) rfl))) (mvT hZ (hw _ (List.mem_of_getElem? (i := 11) rfl))) (by decide) (backOf (W := 0) (rm3 l Z a0 hw [] b1097 (3 : Int32) (2 : Int32) v1123 p1 v1096 k1097 (own_els 2 p1 v1096) (own_el 2 3 p1 v1096) T1117.heap n0 Z1117 p1119 (by decide) (by decide) rfl) hZ (hw _ (List.mem_of_getElem? (i := 11) rfl)) (hw _ (List.mem_of_getElem? (i := 7) rfl)) (by decide) (by decide)) (g := (mkF m 151 #[.val (.int p1), .val (.int p2), .val (.int p3), .val (.int (2 : Int32)), .val (.int v1096), .val (.ref b1097), .val (.int v1121), .val (.int v1123)] [(.int v1096), (.int p1), (.int v1123), (.int (2 : Int32)), (.int (3 : Int32)), (.ref b1097)])) rfl (by rw [hml]; rfl) (argsL := [(.ref b1097), (.int (3 : Int32)), (.int (2 : Int32)), (.int v1123), (.int p1), (.int v1096)]) (rest := []) (lenOf pd_2 rfl) rfl (by show 2 * 0 + _ ≤ _; exact Nat.le_of_eq rfl) (hb hby at_151) (fun _ _ => ⟨rfl, e1129, (by decide : 0 + 1 + 0 + 0 + 0 + 0 + 0 + 0 ≤ _), (by decide : 0 + 9 + 0 + 0 + 0 + 0 + 0 + 0 ≤ _)⟩)
    dsimp only [Pt.U, Pt.locs, Pt.cells, Pt.slots] at X1131 l1131 y1131 z1131 st1131 hQ1131
    subst l1131 y1131 z1131
    obtain ⟨rfl, N1131q, e1131⟩ := hQ1131
    have N1131 := Fr.app N1129 N1131q
    refine OEnds.st st1131 ?_
    show OEnds p.tables e below G (T1131.setTop (mkF m 154 #[.val (.int p1), .val (.int p2), .val (.int p3), .val (.int (2 : Int32)), .val (.int v1096), .val (.ref b1097), .val (.int v1121), .val (.int v1123)] [(.int (own_at (3 : Int32) (2 : Int32) v1123 p1 v1096 (own_el 2 3 p1 v1096)))]))
    have hc154_1132 : ¬ ((own_at (3 : Int32) (2 : Int32) v1123 p1 v1096 (own_el 2 3 p1 v1096)) = (0 : Int32)) := by rw [← hv_v1123, own_ok_2_3 p1 v1096]; decide
    refine OEnds.st (fun _ k => XS.ifNo X1131.here hx rfl (hb hby at_154) rfl ((if0 _ _).trans (feq hc154_1132).1) k) ?_
    show OEnds p.tables e below G (T1131.setTop (mkF m 157 #[.val (.int p1), .val (.int p2), .val (.int p3), .val (.int (2 : Int32)), .val (.int v1096), .val (.ref b1097), .val (.int v1121), .val (.int v1123)] []))
    refine OEnds.st (fun _ k => XS.aload X1131.here hx rfl (hb hby at_157) rfl rfl k) ?_
    show OEnds p.tables e below G (T1131.setTop (mkF m 159 #[.val (.int p1), .val (.int p2), .val (.int p3), .val (.int (2 : Int32)), .val (.int v1096), .val (.ref b1097), .val (.int v1121), .val (.int v1123)] [(.ref b1097)]))
    refine OEnds.st (fun _ k => XS.iconst X1131.here hx rfl (hb hby at_159) k) ?_
    show OEnds p.tables e below G (T1131.setTop (mkF m 160 #[.val (.int p1), .val (.int p2), .val (.int p3), .val (.int (2 : Int32)), .val (.int v1096), .val (.ref b1097), .val (.int v1121), .val (.int v1123)] [(.int (4 : Int32)), (.ref b1097)]))
    refine OEnds.st (fun _ k => XS.iloadN X1131.here hx rfl (hb hby at_160) rfl k) ?_
    show OEnds p.tables e below G (T1131.setTop (mkF m 161 #[.val (.int p1), .val (.int p2), .val (.int p3), .val (.int (2 : Int32)), .val (.int v1096), .val (.ref b1097), .val (.int v1121), .val (.int v1123)] [(.int (2 : Int32)), (.int (4 : Int32)), (.ref b1097)]))
    refine OEnds.st (fun _ k => XS.iload X1131.here hx rfl (hb hby at_161) rfl k) ?_
    show OEnds p.tables e below G (T1131.setTop (mkF m 163 #[.val (.int p1), .val (.int p2), .val (.int p3), .val (.int (2 : Int32)), .val (.int v1096), .val (.ref b1097), .val (.int v1121), .val (.int v1123)] [(.int v1123), (.int (2 : Int32)), (.int (4 : Int32)), (.ref b1097)]))
    refine OEnds.st (fun _ k => XS.iloadN X1131.here hx rfl (hb hby at_163) rfl k) ?_
    show OEnds p.tables e below G (T1131.setTop (mkF m 164 #[.val (.int p1), .val (.int p2), .val (.int p3), .val (.int (2 : Int32)), .val (.int v1096), .val (.ref b1097), .val (.int v1121), .val (.int v1123)] [(.int p1), (.int v1123), (.int (2 : Int32)), (.int (4 : Int32)), (.ref b1097)]))
    refine OEnds.st (fun _ k => XS.iload X1131.here hx rfl (hb hby at_164) rfl k) ?_
    show OEnds p.tables e below G (T1131.setTop (mkF m 166 #[.val (.int p1), .val (.int p2), .val (.int p3), .val (.int (2 : Int32)), .val (.int v1096), .val (.ref b1097), .val (.int v1121), .val (.int v1123)] [(.int v1096), (.int p1), (.int v1123), (.int (2 : Int32)), (.int (4 : Int32)), (.ref b1097)]))
    obtain ⟨_, _, ⟨T1133, L1133, k1133c, n1133c⟩, -, X1133, ⟨Lc1133, hQ1133, l1133, y1133, z1133⟩, st1133⟩ := Jvm.LawKit.callS X1131 hx (y := (⟨"com/example/words_to_weights/wordstoweights/index/IndexFormatPutNumberPinLaw", "at", "([BIIIIB)Z"⟩ : MethodName)) hown (mvT hZ (hw _ (List.mem_of_getElem? (i := 9) rfl))) (mvT hZ (hw _ (List.mem_of_getElem? (i := 10) rfl))) (mvT hZ (hw _ (List.mem_of_getElem? (i := 7) rfl))) (mvT hZ (hw _ (List.mem_of_getElem? (i := 11) rfl))) (by decide) (backOf (W := 0) (rm3 l Z a0 hw [] b1097 (4 : Int32) (2 : Int32) v1123 p1 v1096 k1097 (own_els 2 p1 v1096) (own_el 2 4 p1 v1096) T1117.heap n0 Z1117 p1119 (by decide) (by decide) rfl) hZ (hw _ (List.mem_of_getElem? (i := 11) rfl)) (hw _ (List.mem_of_getElem? (i := 7) rfl)) (by decide) (by decide)) (g := (mkF m 166 #[.val (.int p1), .val (.int p2), .val (.int p3), .val (.int (2 : Int32)), .val (.int v1096), .val (.ref b1097), .val (.int v1121), .val (.int v1123)] [(.int v1096), (.int p1), (.int v1123), (.int (2 : Int32)), (.int (4 : Int32)), (.ref b1097)])) rfl (by rw [hml]; rfl) (argsL := [(.ref b1097), (.int (4 : Int32)), (.int (2 : Int32)), (.int v1123), (.int p1), (.int v1096)]) (rest := []) (lenOf pd_2 rfl) rfl (by show 2 * 0 + _ ≤ _; exact Nat.le_of_eq rfl) (hb hby at_166) (fun _ _ => ⟨rfl, e1131, (by decide : 0 + 1 + 0 + 0 + 0 + 0 + 0 + 0 + 0 ≤ _), (by decide : 0 + 9 + 0 + 0 + 0 + 0 + 0 + 0 + 0 ≤ _)⟩)
    dsimp only [Pt.U, Pt.locs, Pt.cells, Pt.slots] at X1133 l1133 y1133 z1133 st1133 hQ1133
    subst l1133 y1133 z1133
    obtain ⟨rfl, N1133q, e1133⟩ := hQ1133
    have N1133 := Fr.app N1131 N1133q
    refine OEnds.st st1133 ?_
    show OEnds p.tables e below G (T1133.setTop (mkF m 169 #[.val (.int p1), .val (.int p2), .val (.int p3), .val (.int (2 : Int32)), .val (.int v1096), .val (.ref b1097), .val (.int v1121), .val (.int v1123)] [(.int (own_at (4 : Int32) (2 : Int32) v1123 p1 v1096 (own_el 2 4 p1 v1096)))]))
    have hc169_1134 : ¬ ((own_at (4 : Int32) (2 : Int32) v1123 p1 v1096 (own_el 2 4 p1 v1096)) = (0 : Int32)) := by rw [← hv_v1123, own_ok_2_4 p1 v1096]; decide
    refine OEnds.st (fun _ k => XS.ifNo X1133.here hx rfl (hb hby at_169) rfl ((if0 _ _).trans (feq hc169_1134).1) k) ?_
    show OEnds p.tables e below G (T1133.setTop (mkF m 172 #[.val (.int p1), .val (.int p2), .val (.int p3), .val (.int (2 : Int32)), .val (.int v1096), .val (.ref b1097), .val (.int v1121), .val (.int v1123)] []))
    refine OEnds.st (fun _ k => XS.aload X1133.here hx rfl (hb hby at_172) rfl rfl k) ?_
    show OEnds p.tables e below G (T1133.setTop (mkF m 174 #[.val (.int p1), .val (.int p2), .val (.int p3), .val (.int (2 : Int32)), .val (.int v1096), .val (.ref b1097), .val (.int v1121), .val (.int v1123)] [(.ref b1097)]))
    refine OEnds.st (fun _ k => XS.iconst X1133.here hx rfl (hb hby at_174) k) ?_
    show OEnds p.tables e below G (T1133.setTop (mkF m 175 #[.val (.int p1), .val (.int p2), .val (.int p3), .val (.int (2 : Int32)), .val (.int v1096), .val (.ref b1097), .val (.int v1121), .val (.int v1123)] [(.int (5 : Int32)), (.ref b1097)]))
    refine OEnds.st (fun _ k => XS.iloadN X1133.here hx rfl (hb hby at_175) rfl k) ?_
    show OEnds p.tables e below G (T1133.setTop (mkF m 176 #[.val (.int p1), .val (.int p2), .val (.int p3), .val (.int (2 : Int32)), .val (.int v1096), .val (.ref b1097), .val (.int v1121), .val (.int v1123)] [(.int (2 : Int32)), (.int (5 : Int32)), (.ref b1097)]))
    refine OEnds.st (fun _ k => XS.iload X1133.here hx rfl (hb hby at_176) rfl k) ?_
    show OEnds p.tables e below G (T1133.setTop (mkF m 178 #[.val (.int p1), .val (.int p2), .val (.int p3), .val (.int (2 : Int32)), .val (.int v1096), .val (.ref b1097), .val (.int v1121), .val (.int v1123)] [(.int v1123), (.int (2 : Int32)), (.int (5 : Int32)), (.ref b1097)]))
    refine OEnds.st (fun _ k => XS.iloadN X1133.here hx rfl (hb hby at_178) rfl k) ?_
    show OEnds p.tables e below G (T1133.setTop (mkF m 179 #[.val (.int p1), .val (.int p2), .val (.int p3), .val (.int (2 : Int32)), .val (.int v1096), .val (.ref b1097), .val (.int v1121), .val (.int v1123)] [(.int p1), (.int v1123), (.int (2 : Int32)), (.int (5 : Int32)), (.ref b1097)]))
    refine OEnds.st (fun _ k => XS.iload X1133.here hx rfl (hb hby at_179) rfl k) ?_
    show OEnds p.tables e below G (T1133.setTop (mkF m 181 #[.val (.int p1), .val (.int p2), .val (.int p3), .val (.int (2 : Int32)), .val (.int v1096), .val (.ref b1097), .val (.int v1121), .val (.int v1123)] [(.int v1096), (.int p1), (.int v1123), (.int (2 : Int32)), (.int (5 : Int32)), (.ref b1097)]))
    obtain ⟨_, _, ⟨T1135, L1135, k1135c, n1135c⟩, -, X1135, ⟨Lc1135, hQ1135, l1135, y1135, z1135⟩, st1135⟩ := Jvm.LawKit.callS X1133 hx (y := (⟨"com/example/words_to_weights/wordstoweights/index/IndexFormatPutNumberPinLaw", "at", "([BIIIIB)Z"⟩ : MethodName)) hown (mvT hZ (hw _ (List.mem_of_getElem? (i := 9) rfl))) (mvT hZ (hw _ (List.mem_of_getElem? (i := 10) rfl))) (mvT hZ (hw _ (List.mem_of_getElem? (i := 7) rfl))) (mvT hZ (hw _ (List.mem_of_getElem? (i := 11) rfl))) (by decide) (backOf (W := 0) (rm3 l Z a0 hw [] b1097 (5 : Int32) (2 : Int32) v1123 p1 v1096 k1097 (own_els 2 p1 v1096) (own_el 2 5 p1 v1096) T1117.heap n0 Z1117 p1119 (by decide) (by decide) rfl) hZ (hw _ (List.mem_of_getElem? (i := 11) rfl)) (hw _ (List.mem_of_getElem? (i := 7) rfl)) (by decide) (by decide)) (g := (mkF m 181 #[.val (.int p1), .val (.int p2), .val (.int p3), .val (.int (2 : Int32)), .val (.int v1096), .val (.ref b1097), .val (.int v1121), .val (.int v1123)] [(.int v1096), (.int p1), (.int v1123), (.int (2 : Int32)), (.int (5 : Int32)), (.ref b1097)])) rfl (by rw [hml]; rfl) (argsL := [(.ref b1097), (.int (5 : Int32)), (.int (2 : Int32)), (.int v1123), (.int p1), (.int v1096)]) (rest := []) (lenOf pd_2 rfl) rfl (by show 2 * 0 + _ ≤ _; exact Nat.le_of_eq rfl) (hb hby at_181) (fun _ _ => ⟨rfl, e1133, (by decide : 0 + 1 + 0 + 0 + 0 + 0 + 0 + 0 + 0 + 0 ≤ _), (by decide : 0 + 9 + 0 + 0 + 0 + 0 + 0 + 0 + 0 + 0 ≤ _)⟩)
    dsimp only [Pt.U, Pt.locs, Pt.cells, Pt.slots] at X1135 l1135 y1135 z1135 st1135 hQ1135
    subst l1135 y1135 z1135
    obtain ⟨rfl, N1135q, e1135⟩ := hQ1135
    have N1135 := Fr.app N1133 N1135q
    refine OEnds.st st1135 ?_
    show OEnds p.tables e below G (T1135.setTop (mkF m 184 #[.val (.int p1), .val (.int p2), .val (.int p3), .val (.int (2 : Int32)), .val (.int v1096), .val (.ref b1097), .val (.int v1121), .val (.int v1123)] [(.int (own_at (5 : Int32) (2 : Int32) v1123 p1 v1096 (own_el 2 5 p1 v1096)))]))
    have hc184_1136 : ¬ ((own_at (5 : Int32) (2 : Int32) v1123 p1 v1096 (own_el 2 5 p1 v1096)) = (0 : Int32)) := by rw [← hv_v1123, own_ok_2_5 p1 v1096]; decide
    refine OEnds.st (fun _ k => XS.ifNo X1135.here hx rfl (hb hby at_184) rfl ((if0 _ _).trans (feq hc184_1136).1) k) ?_
    show OEnds p.tables e below G (T1135.setTop (mkF m 187 #[.val (.int p1), .val (.int p2), .val (.int p3), .val (.int (2 : Int32)), .val (.int v1096), .val (.ref b1097), .val (.int v1121), .val (.int v1123)] []))
    refine OEnds.st (fun _ k => XS.aload X1135.here hx rfl (hb hby at_187) rfl rfl k) ?_
    show OEnds p.tables e below G (T1135.setTop (mkF m 189 #[.val (.int p1), .val (.int p2), .val (.int p3), .val (.int (2 : Int32)), .val (.int v1096), .val (.ref b1097), .val (.int v1121), .val (.int v1123)] [(.ref b1097)]))
    refine OEnds.st (fun _ k => XS.bipush X1135.here hx rfl (hb hby at_189) k) ?_
    show OEnds p.tables e below G (T1135.setTop (mkF m 191 #[.val (.int p1), .val (.int p2), .val (.int p3), .val (.int (2 : Int32)), .val (.int v1096), .val (.ref b1097), .val (.int v1121), .val (.int v1123)] [(.int (6 : Int32)), (.ref b1097)]))
    refine OEnds.st (fun _ k => XS.iloadN X1135.here hx rfl (hb hby at_191) rfl k) ?_
    show OEnds p.tables e below G (T1135.setTop (mkF m 192 #[.val (.int p1), .val (.int p2), .val (.int p3), .val (.int (2 : Int32)), .val (.int v1096), .val (.ref b1097), .val (.int v1121), .val (.int v1123)] [(.int (2 : Int32)), (.int (6 : Int32)), (.ref b1097)]))
    refine OEnds.st (fun _ k => XS.iload X1135.here hx rfl (hb hby at_192) rfl k) ?_
    show OEnds p.tables e below G (T1135.setTop (mkF m 194 #[.val (.int p1), .val (.int p2), .val (.int p3), .val (.int (2 : Int32)), .val (.int v1096), .val (.ref b1097), .val (.int v1121), .val (.int v1123)] [(.int v1123), (.int (2 : Int32)), (.int (6 : Int32)), (.ref b1097)]))
    refine OEnds.st (fun _ k => XS.iloadN X1135.here hx rfl (hb hby at_194) rfl k) ?_
    show OEnds p.tables e below G (T1135.setTop (mkF m 195 #[.val (.int p1), .val (.int p2), .val (.int p3), .val (.int (2 : Int32)), .val (.int v1096), .val (.ref b1097), .val (.int v1121), .val (.int v1123)] [(.int p1), (.int v1123), (.int (2 : Int32)), (.int (6 : Int32)), (.ref b1097)]))
    refine OEnds.st (fun _ k => XS.iload X1135.here hx rfl (hb hby at_195) rfl k) ?_
    show OEnds p.tables e below G (T1135.setTop (mkF m 197 #[.val (.int p1), .val (.int p2), .val (.int p3), .val (.int (2 : Int32)), .val (.int v1096), .val (.ref b1097), .val (.int v1121), .val (.int v1123)] [(.int v1096), (.int p1), (.int v1123), (.int (2 : Int32)), (.int (6 : Int32)), (.ref b1097)]))
    obtain ⟨_, _, ⟨T1137, L1137, k1137c, n1137c⟩, -, X1137, ⟨Lc1137, hQ1137, l1137, y1137, z1137⟩, st1137⟩ := Jvm.LawKit.callS X1135 hx (y := (⟨"com/example/words_to_weights/wordstoweights/index/IndexFormatPutNumberPinLaw", "at", "([BIIIIB)Z"⟩ : MethodName)) hown (mvT hZ (hw _ (List.mem_of_getElem? (i := 9) rfl))) (mvT hZ (hw _ (List.mem_of_getElem? (i := 10) rfl))) (mvT hZ (hw _ (List.mem_of_getElem? (i := 7) rfl))) (mvT hZ (hw _ (List.mem_of_getElem? (i := 11) rfl))) (by decide) (backOf (W := 0) (rm3 l Z a0 hw [] b1097 (6 : Int32) (2 : Int32) v1123 p1 v1096 k1097 (own_els 2 p1 v1096) (own_el 2 6 p1 v1096) T1117.heap n0 Z1117 p1119 (by decide) (by decide) rfl) hZ (hw _ (List.mem_of_getElem? (i := 11) rfl)) (hw _ (List.mem_of_getElem? (i := 7) rfl)) (by decide) (by decide)) (g := (mkF m 197 #[.val (.int p1), .val (.int p2), .val (.int p3), .val (.int (2 : Int32)), .val (.int v1096), .val (.ref b1097), .val (.int v1121), .val (.int v1123)] [(.int v1096), (.int p1), (.int v1123), (.int (2 : Int32)), (.int (6 : Int32)), (.ref b1097)])) rfl (by rw [hml]; rfl) (argsL := [(.ref b1097), (.int (6 : Int32)), (.int (2 : Int32)), (.int v1123), (.int p1), (.int v1096)]) (rest := []) (lenOf pd_2 rfl) rfl (by show 2 * 0 + _ ≤ _; exact Nat.le_of_eq rfl) (hb hby at_197) (fun _ _ => ⟨rfl, e1135, (by decide : 0 + 1 + 0 + 0 + 0 + 0 + 0 + 0 + 0 + 0 + 0 ≤ _), (by decide : 0 + 9 + 0 + 0 + 0 + 0 + 0 + 0 + 0 + 0 + 0 ≤ _)⟩)
    dsimp only [Pt.U, Pt.locs, Pt.cells, Pt.slots] at X1137 l1137 y1137 z1137 st1137 hQ1137
    subst l1137 y1137 z1137
    obtain ⟨rfl, N1137q, e1137⟩ := hQ1137
    have N1137 := Fr.app N1135 N1137q
    refine OEnds.st st1137 ?_
    show OEnds p.tables e below G (T1137.setTop (mkF m 200 #[.val (.int p1), .val (.int p2), .val (.int p3), .val (.int (2 : Int32)), .val (.int v1096), .val (.ref b1097), .val (.int v1121), .val (.int v1123)] [(.int (own_at (6 : Int32) (2 : Int32) v1123 p1 v1096 (own_el 2 6 p1 v1096)))]))
    have hc200_1138 : ¬ ((own_at (6 : Int32) (2 : Int32) v1123 p1 v1096 (own_el 2 6 p1 v1096)) = (0 : Int32)) := by rw [← hv_v1123, own_ok_2_6 p1 v1096]; decide
    refine OEnds.st (fun _ k => XS.ifNo X1137.here hx rfl (hb hby at_200) rfl ((if0 _ _).trans (feq hc200_1138).1) k) ?_
    show OEnds p.tables e below G (T1137.setTop (mkF m 203 #[.val (.int p1), .val (.int p2), .val (.int p3), .val (.int (2 : Int32)), .val (.int v1096), .val (.ref b1097), .val (.int v1121), .val (.int v1123)] []))
    refine OEnds.st (fun _ k => XS.aload X1137.here hx rfl (hb hby at_203) rfl rfl k) ?_
    show OEnds p.tables e below G (T1137.setTop (mkF m 205 #[.val (.int p1), .val (.int p2), .val (.int p3), .val (.int (2 : Int32)), .val (.int v1096), .val (.ref b1097), .val (.int v1121), .val (.int v1123)] [(.ref b1097)]))
    refine OEnds.st (fun _ k => XS.bipush X1137.here hx rfl (hb hby at_205) k) ?_
    show OEnds p.tables e below G (T1137.setTop (mkF m 207 #[.val (.int p1), .val (.int p2), .val (.int p3), .val (.int (2 : Int32)), .val (.int v1096), .val (.ref b1097), .val (.int v1121), .val (.int v1123)] [(.int (7 : Int32)), (.ref b1097)]))
    refine OEnds.st (fun _ k => XS.iloadN X1137.here hx rfl (hb hby at_207) rfl k) ?_
    show OEnds p.tables e below G (T1137.setTop (mkF m 208 #[.val (.int p1), .val (.int p2), .val (.int p3), .val (.int (2 : Int32)), .val (.int v1096), .val (.ref b1097), .val (.int v1121), .val (.int v1123)] [(.int (2 : Int32)), (.int (7 : Int32)), (.ref b1097)]))
    refine OEnds.st (fun _ k => XS.iload X1137.here hx rfl (hb hby at_208) rfl k) ?_
    show OEnds p.tables e below G (T1137.setTop (mkF m 210 #[.val (.int p1), .val (.int p2), .val (.int p3), .val (.int (2 : Int32)), .val (.int v1096), .val (.ref b1097), .val (.int v1121), .val (.int v1123)] [(.int v1123), (.int (2 : Int32)), (.int (7 : Int32)), (.ref b1097)]))
    refine OEnds.st (fun _ k => XS.iloadN X1137.here hx rfl (hb hby at_210) rfl k) ?_
    show OEnds p.tables e below G (T1137.setTop (mkF m 211 #[.val (.int p1), .val (.int p2), .val (.int p3), .val (.int (2 : Int32)), .val (.int v1096), .val (.ref b1097), .val (.int v1121), .val (.int v1123)] [(.int p1), (.int v1123), (.int (2 : Int32)), (.int (7 : Int32)), (.ref b1097)]))
    refine OEnds.st (fun _ k => XS.iload X1137.here hx rfl (hb hby at_211) rfl k) ?_
    show OEnds p.tables e below G (T1137.setTop (mkF m 213 #[.val (.int p1), .val (.int p2), .val (.int p3), .val (.int (2 : Int32)), .val (.int v1096), .val (.ref b1097), .val (.int v1121), .val (.int v1123)] [(.int v1096), (.int p1), (.int v1123), (.int (2 : Int32)), (.int (7 : Int32)), (.ref b1097)]))
    obtain ⟨_, _, ⟨T1139, L1139, k1139c, n1139c⟩, -, X1139, ⟨Lc1139, hQ1139, l1139, y1139, z1139⟩, st1139⟩ := Jvm.LawKit.callS X1137 hx (y := (⟨"com/example/words_to_weights/wordstoweights/index/IndexFormatPutNumberPinLaw", "at", "([BIIIIB)Z"⟩ : MethodName)) hown (mvT hZ (hw _ (List.mem_of_getElem? (i := 9) rfl))) (mvT hZ (hw _ (List.mem_of_getElem? (i := 10) rfl))) (mvT hZ (hw _ (List.mem_of_getElem? (i := 7) rfl))) (mvT hZ (hw _ (List.mem_of_getElem? (i := 11) rfl))) (by decide) (backOf (W := 0) (rm3 l Z a0 hw [] b1097 (7 : Int32) (2 : Int32) v1123 p1 v1096 k1097 (own_els 2 p1 v1096) (own_el 2 7 p1 v1096) T1117.heap n0 Z1117 p1119 (by decide) (by decide) rfl) hZ (hw _ (List.mem_of_getElem? (i := 11) rfl)) (hw _ (List.mem_of_getElem? (i := 7) rfl)) (by decide) (by decide)) (g := (mkF m 213 #[.val (.int p1), .val (.int p2), .val (.int p3), .val (.int (2 : Int32)), .val (.int v1096), .val (.ref b1097), .val (.int v1121), .val (.int v1123)] [(.int v1096), (.int p1), (.int v1123), (.int (2 : Int32)), (.int (7 : Int32)), (.ref b1097)])) rfl (by rw [hml]; rfl) (argsL := [(.ref b1097), (.int (7 : Int32)), (.int (2 : Int32)), (.int v1123), (.int p1), (.int v1096)]) (rest := []) (lenOf pd_2 rfl) rfl (by show 2 * 0 + _ ≤ _; exact Nat.le_of_eq rfl) (hb hby at_213) (fun _ _ => ⟨rfl, e1137, (by decide : 0 + 1 + 0 + 0 + 0 + 0 + 0 + 0 + 0 + 0 + 0 + 0 ≤ _), (by decide : 0 + 9 + 0 + 0 + 0 + 0 + 0 + 0 + 0 + 0 + 0 + 0 ≤ _)⟩)
    dsimp only [Pt.U, Pt.locs, Pt.cells, Pt.slots] at X1139 l1139 y1139 z1139 st1139 hQ1139
    subst l1139 y1139 z1139
    obtain ⟨rfl, N1139q, e1139⟩ := hQ1139
    have N1139 := Fr.app N1137 N1139q
    refine OEnds.st st1139 ?_
    show OEnds p.tables e below G (T1139.setTop (mkF m 216 #[.val (.int p1), .val (.int p2), .val (.int p3), .val (.int (2 : Int32)), .val (.int v1096), .val (.ref b1097), .val (.int v1121), .val (.int v1123)] [(.int (own_at (7 : Int32) (2 : Int32) v1123 p1 v1096 (own_el 2 7 p1 v1096)))]))
    have hc216_1140 : ¬ ((own_at (7 : Int32) (2 : Int32) v1123 p1 v1096 (own_el 2 7 p1 v1096)) = (0 : Int32)) := by rw [← hv_v1123, own_ok_2_7 p1 v1096]; decide
    refine OEnds.st (fun _ k => XS.ifNo X1139.here hx rfl (hb hby at_216) rfl ((if0 _ _).trans (feq hc216_1140).1) k) ?_
    show OEnds p.tables e below G (T1139.setTop (mkF m 219 #[.val (.int p1), .val (.int p2), .val (.int p3), .val (.int (2 : Int32)), .val (.int v1096), .val (.ref b1097), .val (.int v1121), .val (.int v1123)] []))
    refine OEnds.st (fun _ k => XS.aload X1139.here hx rfl (hb hby at_219) rfl rfl k) ?_
    show OEnds p.tables e below G (T1139.setTop (mkF m 221 #[.val (.int p1), .val (.int p2), .val (.int p3), .val (.int (2 : Int32)), .val (.int v1096), .val (.ref b1097), .val (.int v1121), .val (.int v1123)] [(.ref b1097)]))
    refine OEnds.st (fun _ k => XS.bipush X1139.here hx rfl (hb hby at_221) k) ?_
    show OEnds p.tables e below G (T1139.setTop (mkF m 223 #[.val (.int p1), .val (.int p2), .val (.int p3), .val (.int (2 : Int32)), .val (.int v1096), .val (.ref b1097), .val (.int v1121), .val (.int v1123)] [(.int (8 : Int32)), (.ref b1097)]))
    refine OEnds.st (fun _ k => XS.iloadN X1139.here hx rfl (hb hby at_223) rfl k) ?_
    show OEnds p.tables e below G (T1139.setTop (mkF m 224 #[.val (.int p1), .val (.int p2), .val (.int p3), .val (.int (2 : Int32)), .val (.int v1096), .val (.ref b1097), .val (.int v1121), .val (.int v1123)] [(.int (2 : Int32)), (.int (8 : Int32)), (.ref b1097)]))
    refine OEnds.st (fun _ k => XS.iload X1139.here hx rfl (hb hby at_224) rfl k) ?_
    show OEnds p.tables e below G (T1139.setTop (mkF m 226 #[.val (.int p1), .val (.int p2), .val (.int p3), .val (.int (2 : Int32)), .val (.int v1096), .val (.ref b1097), .val (.int v1121), .val (.int v1123)] [(.int v1123), (.int (2 : Int32)), (.int (8 : Int32)), (.ref b1097)]))
    refine OEnds.st (fun _ k => XS.iloadN X1139.here hx rfl (hb hby at_226) rfl k) ?_
    show OEnds p.tables e below G (T1139.setTop (mkF m 227 #[.val (.int p1), .val (.int p2), .val (.int p3), .val (.int (2 : Int32)), .val (.int v1096), .val (.ref b1097), .val (.int v1121), .val (.int v1123)] [(.int p1), (.int v1123), (.int (2 : Int32)), (.int (8 : Int32)), (.ref b1097)]))
    refine OEnds.st (fun _ k => XS.iload X1139.here hx rfl (hb hby at_227) rfl k) ?_
    show OEnds p.tables e below G (T1139.setTop (mkF m 229 #[.val (.int p1), .val (.int p2), .val (.int p3), .val (.int (2 : Int32)), .val (.int v1096), .val (.ref b1097), .val (.int v1121), .val (.int v1123)] [(.int v1096), (.int p1), (.int v1123), (.int (2 : Int32)), (.int (8 : Int32)), (.ref b1097)]))
    obtain ⟨_, _, ⟨T1141, L1141, k1141c, n1141c⟩, -, X1141, ⟨Lc1141, hQ1141, l1141, y1141, z1141⟩, st1141⟩ := Jvm.LawKit.callS X1139 hx (y := (⟨"com/example/words_to_weights/wordstoweights/index/IndexFormatPutNumberPinLaw", "at", "([BIIIIB)Z"⟩ : MethodName)) hown (mvT hZ (hw _ (List.mem_of_getElem? (i := 9) rfl))) (mvT hZ (hw _ (List.mem_of_getElem? (i := 10) rfl))) (mvT hZ (hw _ (List.mem_of_getElem? (i := 7) rfl))) (mvT hZ (hw _ (List.mem_of_getElem? (i := 11) rfl))) (by decide) (backOf (W := 0) (rm3 l Z a0 hw [] b1097 (8 : Int32) (2 : Int32) v1123 p1 v1096 k1097 (own_els 2 p1 v1096) (own_el 2 8 p1 v1096) T1117.heap n0 Z1117 p1119 (by decide) (by decide) rfl) hZ (hw _ (List.mem_of_getElem? (i := 11) rfl)) (hw _ (List.mem_of_getElem? (i := 7) rfl)) (by decide) (by decide)) (g := (mkF m 229 #[.val (.int p1), .val (.int p2), .val (.int p3), .val (.int (2 : Int32)), .val (.int v1096), .val (.ref b1097), .val (.int v1121), .val (.int v1123)] [(.int v1096), (.int p1), (.int v1123), (.int (2 : Int32)), (.int (8 : Int32)), (.ref b1097)])) rfl (by rw [hml]; rfl) (argsL := [(.ref b1097), (.int (8 : Int32)), (.int (2 : Int32)), (.int v1123), (.int p1), (.int v1096)]) (rest := []) (lenOf pd_2 rfl) rfl (by show 2 * 0 + _ ≤ _; exact Nat.le_of_eq rfl) (hb hby at_229) (fun _ _ => ⟨rfl, e1139, (by decide : 0 + 1 + 0 + 0 + 0 + 0 + 0 + 0 + 0 + 0 + 0 + 0 + 0 ≤ _), (by decide : 0 + 9 + 0 + 0 + 0 + 0 + 0 + 0 + 0 + 0 + 0 + 0 + 0 ≤ _)⟩)
    dsimp only [Pt.U, Pt.locs, Pt.cells, Pt.slots] at X1141 l1141 y1141 z1141 st1141 hQ1141
    subst l1141 y1141 z1141
    obtain ⟨rfl, N1141q, e1141⟩ := hQ1141
    have N1141 := Fr.app N1139 N1141q
    refine OEnds.st st1141 ?_
    show OEnds p.tables e below G (T1141.setTop (mkF m 232 #[.val (.int p1), .val (.int p2), .val (.int p3), .val (.int (2 : Int32)), .val (.int v1096), .val (.ref b1097), .val (.int v1121), .val (.int v1123)] [(.int (own_at (8 : Int32) (2 : Int32) v1123 p1 v1096 (own_el 2 8 p1 v1096)))]))
    have hc232_1142 : ¬ ((own_at (8 : Int32) (2 : Int32) v1123 p1 v1096 (own_el 2 8 p1 v1096)) = (0 : Int32)) := by rw [← hv_v1123, own_ok_2_8 p1 v1096]; decide
    refine OEnds.st (fun _ k => XS.ifNo X1141.here hx rfl (hb hby at_232) rfl ((if0 _ _).trans (feq hc232_1142).1) k) ?_
    show OEnds p.tables e below G (T1141.setTop (mkF m 235 #[.val (.int p1), .val (.int p2), .val (.int p3), .val (.int (2 : Int32)), .val (.int v1096), .val (.ref b1097), .val (.int v1121), .val (.int v1123)] []))
    refine OEnds.st (fun _ k => XS.iconst X1141.here hx rfl (hb hby at_235) k) ?_
    show OEnds p.tables e below G (T1141.setTop (mkF m 236 #[.val (.int p1), .val (.int p2), .val (.int p3), .val (.int (2 : Int32)), .val (.int v1096), .val (.ref b1097), .val (.int v1121), .val (.int v1123)] [(.int (1 : Int32))]))
    refine OEnds.st (fun _ k => XS.goto X1141.here hx rfl (pc0 := 236) (pc' := 240) rfl (hb hby at_236) (by decide) (by decide) k) ?_
    show OEnds p.tables e below G (T1141.setTop (mkF m 240 #[.val (.int p1), .val (.int p2), .val (.int p3), .val (.int (2 : Int32)), .val (.int v1096), .val (.ref b1097), .val (.int v1121), .val (.int v1123)] [(.int (1 : Int32))]))
    rw [← hG]
    refine OEnds.retZ X1141 hx hlk Bd.returns rfl (hb hby at_240) (by decide) (by decide) ?_
    rw [e1141]
    exact ⟨rfl, N1141⟩
  · -- 3
    rw [hi]
    show OEnds p.tables e below G (s₁.setTop (mkF m 4 #[.val (.int p1), .val (.int p2), .val (.int p3), .val (.int (3 : Int32)), .unset, .unset, .unset, .unset] []))
    refine OEnds.st (fun _ k => XS.iloadN X0.here hx rfl (hb hby at_4) rfl k) ?_
    show OEnds p.tables e below G (s₁.setTop (mkF m 5 #[.val (.int p1), .val (.int p2), .val (.int p3), .val (.int (3 : Int32)), .unset, .unset, .unset, .unset] [(.int p3)]))
    refine OEnds.st (fun _ k => XS.i2b X0.here hx rfl (hb hby at_5) rfl k) ?_
    show OEnds p.tables e below G (s₁.setTop (mkF m 6 #[.val (.int p1), .val (.int p2), .val (.int p3), .val (.int (3 : Int32)), .unset, .unset, .unset, .unset] [(.int (p3.toInt8.toInt32))]))
    refine OEnds.st (fun _ k => XS.istore X0.here hx rfl (hb hby at_6) rfl (l' := #[.val (.int p1), .val (.int p2), .val (.int p3), .val (.int (3 : Int32)), .val (.int (p3.toInt8.toInt32)), .unset, .unset, .unset]) rfl k) ?_
    show OEnds p.tables e below G (s₁.setTop (mkF m 8 #[.val (.int p1), .val (.int p2), .val (.int p3), .val (.int (3 : Int32)), .val (.int (p3.toInt8.toInt32)), .unset, .unset, .unset] []))
    generalize hv_v1143 : (p3.toInt8.toInt32) = v1143
    have hf8 : nar .byte v1143 = v1143 := by rw [← hv_v1143]; exact own_b8 p3
    show OEnds p.tables e below G (s₁.setTop (mkF m 8 #[.val (.int p1), .val (.int p2), .val (.int p3), .val (.int (3 : Int32)), .val (.int v1143), .unset, .unset, .unset] []))
    refine OEnds.st (fun _ k => XS.bipush X0.here hx rfl (hb hby at_8) k) ?_
    show OEnds p.tables e below G (s₁.setTop (mkF m 10 #[.val (.int p1), .val (.int p2), .val (.int p3), .val (.int (3 : Int32)), .val (.int v1143), .unset, .unset, .unset] [(.int (9 : Int32))]))
    obtain ⟨T1144, h1144, k1144, X1144, e1144, E1144, A1144, st1144⟩ := newP X0 hx hZ (hw _ (List.mem_of_getElem? (i := 0) rfl)) e0 (g := (mkF m 10 #[.val (.int p1), .val (.int p2), .val (.int p3), .val (.int (3 : Int32)), .val (.int v1143), .unset, .unset, .unset] [(.int (9 : Int32))])) rfl (hb hby at_10) rfl (by decide) (cap := 9) (by decide) (by decide) (by decide) (by decide)
    obtain ⟨b1144, g1144⟩ : ∃ z, z = h0.size := ⟨_, rfl⟩
    rw [← g1144] at A1144 st1144
    refine OEnds.st st1144 ?_
    have ge_b1144 : n0 ≤ b1144 := Nat.le_trans Z0 (Nat.le_of_eq g1144.symm)
    have sz_b1144 : h0.size ≤ b1144 := Nat.le_trans KK0.1 (Nat.le_of_eq g1144.symm)
    have KK1144 : Keep h0 h1144 [] := KK0.ext E1144
    have Z1144 := Nat.le_trans Z0 E1144.1
    have f1145 : Arv Z h1144 b1144 k1144 .byte (9 : Int32) [(.int (0 : Int32)), (.int (0 : Int32)), (.int (0 : Int32)), (.int (0 : Int32)), (.int (0 : Int32)), (.int (0 : Int32)), (.int (0 : Int32)), (.int (0 : Int32)), (.int (0 : Int32))] (.int (0 : Int32)) := (Arv.new A1144 (by decide)).pad (pad_rep [] (.int (0 : Int32)) 9)
    show OEnds p.tables e below G (T1144.setTop (mkF m 12 #[.val (.int p1), .val (.int p2), .val (.int p3), .val (.int (3 : Int32)), .val (.int v1143), .unset, .unset, .unset] [(.ref b1144)]))
    refine OEnds.st (fun _ k => XS.astore X1144.here hx rfl (hb hby at_12) rfl rfl (l' := #[.val (.int p1), .val (.int p2), .val (.int p3), .val (.int (3 : Int32)), .val (.int v1143), .val (.ref b1144), .unset, .unset]) rfl k) ?_
    show OEnds p.tables e below G (T1144.setTop (mkF m 14 #[.val (.int p1), .val (.int p2), .val (.int p3), .val (.int (3 : Int32)), .val (.int v1143), .val (.ref b1144), .unset, .unset] []))
    refine OEnds.st (fun _ k => XS.aload X1144.here hx rfl (hb hby at_14) rfl rfl k) ?_
    show OEnds p.tables e below G (T1144.setTop (mkF m 16 #[.val (.int p1), .val (.int p2), .val (.int p3), .val (.int (3 : Int32)), .val (.int v1143), .val (.ref b1144), .unset, .unset] [(.ref b1144)]))
    refine OEnds.st (fun _ k => XS.iconst X1144.here hx rfl (hb hby at_16) k) ?_
    show OEnds p.tables e below G (T1144.setTop (mkF m 17 #[.val (.int p1), .val (.int p2), .val (.int p3), .val (.int (3 : Int32)), .val (.int v1143), .val (.ref b1144), .unset, .unset] [(.int (0 : Int32)), (.ref b1144)]))
    refine OEnds.st (fun _ k => XS.iload X1144.here hx rfl (hb hby at_17) rfl k) ?_
    show OEnds p.tables e below G (T1144.setTop (mkF m 19 #[.val (.int p1), .val (.int p2), .val (.int p3), .val (.int (3 : Int32)), .val (.int v1143), .val (.ref b1144), .unset, .unset] [(.int v1143), (.int (0 : Int32)), (.ref b1144)]))
    obtain ⟨cl1146, Ar1146, q1146, S1146, N1146n, H1146, G1146⟩ := id f1145
    have hin1146 : ¬ ((0 : Int32) < 0 ∨ cl1146.slots.size ≤ ((0 : Int32)).toNatClampNeg) := inb_of S1146 ⟨by decide, by decide⟩
    obtain ⟨T1146, h1146, X1146, e1146, W1146, st1146⟩ := stB X1144 hx hZ e1144 Ar1146 (j := (0 : Int32)) hin1146 (g := (mkF m 19 #[.val (.int p1), .val (.int p2), .val (.int p3), .val (.int (3 : Int32)), .val (.int v1143), .val (.ref b1144), .unset, .unset] [(.int v1143), (.int (0 : Int32)), (.ref b1144)])) rfl rfl (hb hby at_19)
    refine OEnds.st st1146 ?_
    rw [hf8] at W1146
    have f1147 : Arv Z h1146 b1144 k1144 .byte (9 : Int32) [(.int v1143), (.int (0 : Int32)), (.int (0 : Int32)), (.int (0 : Int32)), (.int (0 : Int32)), (.int (0 : Int32)), (.int (0 : Int32)), (.int (0 : Int32)), (.int (0 : Int32))] (.int (0 : Int32)) := Arv.set Ar1146 q1146 S1146 N1146n H1146 G1146 (by rw [← hf8]; exact fits_nar_byte _) W1146 0 rfl (Nat.le_of_ble_eq_true rfl)
    have N1146 := Fr.snoc X1146 N0 ge_b1144
    have KK1146 : Keep h0 h1146 [] := KK1144.wr W1146 (Or.inr sz_b1144)
    have Z1146 := Nat.le_trans Z1144 (Keep.of_wr W1146).1
    show OEnds p.tables e below G (T1146.setTop (mkF m 20 #[.val (.int p1), .val (.int p2), .val (.int p3), .val (.int (3 : Int32)), .val (.int v1143), .val (.ref b1144), .unset, .unset] []))
    refine OEnds.st (fun _ k => XS.aload X1146.here hx rfl (hb hby at_20) rfl rfl k) ?_
    show OEnds p.tables e below G (T1146.setTop (mkF m 22 #[.val (.int p1), .val (.int p2), .val (.int p3), .val (.int (3 : Int32)), .val (.int v1143), .val (.ref b1144), .unset, .unset] [(.ref b1144)]))
    refine OEnds.st (fun _ k => XS.iconst X1146.here hx rfl (hb hby at_22) k) ?_
    show OEnds p.tables e below G (T1146.setTop (mkF m 23 #[.val (.int p1), .val (.int p2), .val (.int p3), .val (.int (3 : Int32)), .val (.int v1143), .val (.ref b1144), .unset, .unset] [(.int (1 : Int32)), (.ref b1144)]))
    refine OEnds.st (fun _ k => XS.iload X1146.here hx rfl (hb hby at_23) rfl k) ?_
    show OEnds p.tables e below G (T1146.setTop (mkF m 25 #[.val (.int p1), .val (.int p2), .val (.int p3), .val (.int (3 : Int32)), .val (.int v1143), .val (.ref b1144), .unset, .unset] [(.int v1143), (.int (1 : Int32)), (.ref b1144)]))
    obtain ⟨cl1148, Ar1148, q1148, S1148, N1148n, H1148, G1148⟩ := id f1147
    have hin1148 : ¬ ((1 : Int32) < 0 ∨ cl1148.slots.size ≤ ((1 : Int32)).toNatClampNeg) := inb_of S1148 ⟨by decide, by decide⟩
    obtain ⟨T1148, h1148, X1148, e1148, W1148, st1148⟩ := stB X1146 hx hZ e1146 Ar1148 (j := (1 : Int32)) hin1148 (g := (mkF m 25 #[.val (.int p1), .val (.int p2), .val (.int p3), .val (.int (3 : Int32)), .val (.int v1143), .val (.ref b1144), .unset, .unset] [(.int v1143), (.int (1 : Int32)), (.ref b1144)])) rfl rfl (hb hby at_25)
    refine OEnds.st st1148 ?_
    rw [hf8] at W1148
    have f1149 : Arv Z h1148 b1144 k1144 .byte (9 : Int32) [(.int v1143), (.int v1143), (.int (0 : Int32)), (.int (0 : Int32)), (.int (0 : Int32)), (.int (0 : Int32)), (.int (0 : Int32)), (.int (0 : Int32)), (.int (0 : Int32))] (.int (0 : Int32)) := Arv.set Ar1148 q1148 S1148 N1148n H1148 G1148 (by rw [← hf8]; exact fits_nar_byte _) W1148 1 rfl (Nat.le_of_ble_eq_true rfl)
    have N1148 := Fr.snoc X1148 N1146 ge_b1144
    have KK1148 : Keep h0 h1148 [] := KK1146.wr W1148 (Or.inr sz_b1144)
    have Z1148 := Nat.le_trans Z1146 (Keep.of_wr W1148).1
    show OEnds p.tables e below G (T1148.setTop (mkF m 26 #[.val (.int p1), .val (.int p2), .val (.int p3), .val (.int (3 : Int32)), .val (.int v1143), .val (.ref b1144), .unset, .unset] []))
    refine OEnds.st (fun _ k => XS.aload X1148.here hx rfl (hb hby at_26) rfl rfl k) ?_
    show OEnds p.tables e below G (T1148.setTop (mkF m 28 #[.val (.int p1), .val (.int p2), .val (.int p3), .val (.int (3 : Int32)), .val (.int v1143), .val (.ref b1144), .unset, .unset] [(.ref b1144)]))
    refine OEnds.st (fun _ k => XS.iconst X1148.here hx rfl (hb hby at_28) k) ?_
    show OEnds p.tables e below G (T1148.setTop (mkF m 29 #[.val (.int p1), .val (.int p2), .val (.int p3), .val (.int (3 : Int32)), .val (.int v1143), .val (.ref b1144), .unset, .unset] [(.int (2 : Int32)), (.ref b1144)]))
    refine OEnds.st (fun _ k => XS.iload X1148.here hx rfl (hb hby at_29) rfl k) ?_
    show OEnds p.tables e below G (T1148.setTop (mkF m 31 #[.val (.int p1), .val (.int p2), .val (.int p3), .val (.int (3 : Int32)), .val (.int v1143), .val (.ref b1144), .unset, .unset] [(.int v1143), (.int (2 : Int32)), (.ref b1144)]))
    obtain ⟨cl1150, Ar1150, q1150, S1150, N1150n, H1150, G1150⟩ := id f1149
    have hin1150 : ¬ ((2 : Int32) < 0 ∨ cl1150.slots.size ≤ ((2 : Int32)).toNatClampNeg) := inb_of S1150 ⟨by decide, by decide⟩
    obtain ⟨T1150, h1150, X1150, e1150, W1150, st1150⟩ := stB X1148 hx hZ e1148 Ar1150 (j := (2 : Int32)) hin1150 (g := (mkF m 31 #[.val (.int p1), .val (.int p2), .val (.int p3), .val (.int (3 : Int32)), .val (.int v1143), .val (.ref b1144), .unset, .unset] [(.int v1143), (.int (2 : Int32)), (.ref b1144)])) rfl rfl (hb hby at_31)
    refine OEnds.st st1150 ?_
    rw [hf8] at W1150
    have f1151 : Arv Z h1150 b1144 k1144 .byte (9 : Int32) [(.int v1143), (.int v1143), (.int v1143), (.int (0 : Int32)), (.int (0 : Int32)), (.int (0 : Int32)), (.int (0 : Int32)), (.int (0 : Int32)), (.int (0 : Int32))] (.int (0 : Int32)) := Arv.set Ar1150 q1150 S1150 N1150n H1150 G1150 (by rw [← hf8]; exact fits_nar_byte _) W1150 2 rfl (Nat.le_of_ble_eq_true rfl)
    have N1150 := Fr.snoc X1150 N1148 ge_b1144
    have KK1150 : Keep h0 h1150 [] := KK1148.wr W1150 (Or.inr sz_b1144)
    have Z1150 := Nat.le_trans Z1148 (Keep.of_wr W1150).1
    show OEnds p.tables e below G (T1150.setTop (mkF m 32 #[.val (.int p1), .val (.int p2), .val (.int p3), .val (.int (3 : Int32)), .val (.int v1143), .val (.ref b1144), .unset, .unset] []))
    refine OEnds.st (fun _ k => XS.aload X1150.here hx rfl (hb hby at_32) rfl rfl k) ?_
    show OEnds p.tables e below G (T1150.setTop (mkF m 34 #[.val (.int p1), .val (.int p2), .val (.int p3), .val (.int (3 : Int32)), .val (.int v1143), .val (.ref b1144), .unset, .unset] [(.ref b1144)]))
    refine OEnds.st (fun _ k => XS.iconst X1150.here hx rfl (hb hby at_34) k) ?_
    show OEnds p.tables e below G (T1150.setTop (mkF m 35 #[.val (.int p1), .val (.int p2), .val (.int p3), .val (.int (3 : Int32)), .val (.int v1143), .val (.ref b1144), .unset, .unset] [(.int (3 : Int32)), (.ref b1144)]))
    refine OEnds.st (fun _ k => XS.iload X1150.here hx rfl (hb hby at_35) rfl k) ?_
    show OEnds p.tables e below G (T1150.setTop (mkF m 37 #[.val (.int p1), .val (.int p2), .val (.int p3), .val (.int (3 : Int32)), .val (.int v1143), .val (.ref b1144), .unset, .unset] [(.int v1143), (.int (3 : Int32)), (.ref b1144)]))
    obtain ⟨cl1152, Ar1152, q1152, S1152, N1152n, H1152, G1152⟩ := id f1151
    have hin1152 : ¬ ((3 : Int32) < 0 ∨ cl1152.slots.size ≤ ((3 : Int32)).toNatClampNeg) := inb_of S1152 ⟨by decide, by decide⟩
    obtain ⟨T1152, h1152, X1152, e1152, W1152, st1152⟩ := stB X1150 hx hZ e1150 Ar1152 (j := (3 : Int32)) hin1152 (g := (mkF m 37 #[.val (.int p1), .val (.int p2), .val (.int p3), .val (.int (3 : Int32)), .val (.int v1143), .val (.ref b1144), .unset, .unset] [(.int v1143), (.int (3 : Int32)), (.ref b1144)])) rfl rfl (hb hby at_37)
    refine OEnds.st st1152 ?_
    rw [hf8] at W1152
    have f1153 : Arv Z h1152 b1144 k1144 .byte (9 : Int32) [(.int v1143), (.int v1143), (.int v1143), (.int v1143), (.int (0 : Int32)), (.int (0 : Int32)), (.int (0 : Int32)), (.int (0 : Int32)), (.int (0 : Int32))] (.int (0 : Int32)) := Arv.set Ar1152 q1152 S1152 N1152n H1152 G1152 (by rw [← hf8]; exact fits_nar_byte _) W1152 3 rfl (Nat.le_of_ble_eq_true rfl)
    have N1152 := Fr.snoc X1152 N1150 ge_b1144
    have KK1152 : Keep h0 h1152 [] := KK1150.wr W1152 (Or.inr sz_b1144)
    have Z1152 := Nat.le_trans Z1150 (Keep.of_wr W1152).1
    show OEnds p.tables e below G (T1152.setTop (mkF m 38 #[.val (.int p1), .val (.int p2), .val (.int p3), .val (.int (3 : Int32)), .val (.int v1143), .val (.ref b1144), .unset, .unset] []))
    refine OEnds.st (fun _ k => XS.aload X1152.here hx rfl (hb hby at_38) rfl rfl k) ?_
    show OEnds p.tables e below G (T1152.setTop (mkF m 40 #[.val (.int p1), .val (.int p2), .val (.int p3), .val (.int (3 : Int32)), .val (.int v1143), .val (.ref b1144), .unset, .unset] [(.ref b1144)]))
    refine OEnds.st (fun _ k => XS.iconst X1152.here hx rfl (hb hby at_40) k) ?_
    show OEnds p.tables e below G (T1152.setTop (mkF m 41 #[.val (.int p1), .val (.int p2), .val (.int p3), .val (.int (3 : Int32)), .val (.int v1143), .val (.ref b1144), .unset, .unset] [(.int (4 : Int32)), (.ref b1144)]))
    refine OEnds.st (fun _ k => XS.iload X1152.here hx rfl (hb hby at_41) rfl k) ?_
    show OEnds p.tables e below G (T1152.setTop (mkF m 43 #[.val (.int p1), .val (.int p2), .val (.int p3), .val (.int (3 : Int32)), .val (.int v1143), .val (.ref b1144), .unset, .unset] [(.int v1143), (.int (4 : Int32)), (.ref b1144)]))
    obtain ⟨cl1154, Ar1154, q1154, S1154, N1154n, H1154, G1154⟩ := id f1153
    have hin1154 : ¬ ((4 : Int32) < 0 ∨ cl1154.slots.size ≤ ((4 : Int32)).toNatClampNeg) := inb_of S1154 ⟨by decide, by decide⟩
    obtain ⟨T1154, h1154, X1154, e1154, W1154, st1154⟩ := stB X1152 hx hZ e1152 Ar1154 (j := (4 : Int32)) hin1154 (g := (mkF m 43 #[.val (.int p1), .val (.int p2), .val (.int p3), .val (.int (3 : Int32)), .val (.int v1143), .val (.ref b1144), .unset, .unset] [(.int v1143), (.int (4 : Int32)), (.ref b1144)])) rfl rfl (hb hby at_43)
    refine OEnds.st st1154 ?_
    rw [hf8] at W1154
    have f1155 : Arv Z h1154 b1144 k1144 .byte (9 : Int32) [(.int v1143), (.int v1143), (.int v1143), (.int v1143), (.int v1143), (.int (0 : Int32)), (.int (0 : Int32)), (.int (0 : Int32)), (.int (0 : Int32))] (.int (0 : Int32)) := Arv.set Ar1154 q1154 S1154 N1154n H1154 G1154 (by rw [← hf8]; exact fits_nar_byte _) W1154 4 rfl (Nat.le_of_ble_eq_true rfl)
    have N1154 := Fr.snoc X1154 N1152 ge_b1144
    have KK1154 : Keep h0 h1154 [] := KK1152.wr W1154 (Or.inr sz_b1144)
    have Z1154 := Nat.le_trans Z1152 (Keep.of_wr W1154).1
    show OEnds p.tables e below G (T1154.setTop (mkF m 44 #[.val (.int p1), .val (.int p2), .val (.int p3), .val (.int (3 : Int32)), .val (.int v1143), .val (.ref b1144), .unset, .unset] []))
    refine OEnds.st (fun _ k => XS.aload X1154.here hx rfl (hb hby at_44) rfl rfl k) ?_
    show OEnds p.tables e below G (T1154.setTop (mkF m 46 #[.val (.int p1), .val (.int p2), .val (.int p3), .val (.int (3 : Int32)), .val (.int v1143), .val (.ref b1144), .unset, .unset] [(.ref b1144)]))
    refine OEnds.st (fun _ k => XS.iconst X1154.here hx rfl (hb hby at_46) k) ?_
    show OEnds p.tables e below G (T1154.setTop (mkF m 47 #[.val (.int p1), .val (.int p2), .val (.int p3), .val (.int (3 : Int32)), .val (.int v1143), .val (.ref b1144), .unset, .unset] [(.int (5 : Int32)), (.ref b1144)]))
    refine OEnds.st (fun _ k => XS.iload X1154.here hx rfl (hb hby at_47) rfl k) ?_
    show OEnds p.tables e below G (T1154.setTop (mkF m 49 #[.val (.int p1), .val (.int p2), .val (.int p3), .val (.int (3 : Int32)), .val (.int v1143), .val (.ref b1144), .unset, .unset] [(.int v1143), (.int (5 : Int32)), (.ref b1144)]))
    obtain ⟨cl1156, Ar1156, q1156, S1156, N1156n, H1156, G1156⟩ := id f1155
    have hin1156 : ¬ ((5 : Int32) < 0 ∨ cl1156.slots.size ≤ ((5 : Int32)).toNatClampNeg) := inb_of S1156 ⟨by decide, by decide⟩
    obtain ⟨T1156, h1156, X1156, e1156, W1156, st1156⟩ := stB X1154 hx hZ e1154 Ar1156 (j := (5 : Int32)) hin1156 (g := (mkF m 49 #[.val (.int p1), .val (.int p2), .val (.int p3), .val (.int (3 : Int32)), .val (.int v1143), .val (.ref b1144), .unset, .unset] [(.int v1143), (.int (5 : Int32)), (.ref b1144)])) rfl rfl (hb hby at_49)
    refine OEnds.st st1156 ?_
    rw [hf8] at W1156
    have f1157 : Arv Z h1156 b1144 k1144 .byte (9 : Int32) [(.int v1143), (.int v1143), (.int v1143), (.int v1143), (.int v1143), (.int v1143), (.int (0 : Int32)), (.int (0 : Int32)), (.int (0 : Int32))] (.int (0 : Int32)) := Arv.set Ar1156 q1156 S1156 N1156n H1156 G1156 (by rw [← hf8]; exact fits_nar_byte _) W1156 5 rfl (Nat.le_of_ble_eq_true rfl)
    have N1156 := Fr.snoc X1156 N1154 ge_b1144
    have KK1156 : Keep h0 h1156 [] := KK1154.wr W1156 (Or.inr sz_b1144)
    have Z1156 := Nat.le_trans Z1154 (Keep.of_wr W1156).1
    show OEnds p.tables e below G (T1156.setTop (mkF m 50 #[.val (.int p1), .val (.int p2), .val (.int p3), .val (.int (3 : Int32)), .val (.int v1143), .val (.ref b1144), .unset, .unset] []))
    refine OEnds.st (fun _ k => XS.aload X1156.here hx rfl (hb hby at_50) rfl rfl k) ?_
    show OEnds p.tables e below G (T1156.setTop (mkF m 52 #[.val (.int p1), .val (.int p2), .val (.int p3), .val (.int (3 : Int32)), .val (.int v1143), .val (.ref b1144), .unset, .unset] [(.ref b1144)]))
    refine OEnds.st (fun _ k => XS.bipush X1156.here hx rfl (hb hby at_52) k) ?_
    show OEnds p.tables e below G (T1156.setTop (mkF m 54 #[.val (.int p1), .val (.int p2), .val (.int p3), .val (.int (3 : Int32)), .val (.int v1143), .val (.ref b1144), .unset, .unset] [(.int (6 : Int32)), (.ref b1144)]))
    refine OEnds.st (fun _ k => XS.iload X1156.here hx rfl (hb hby at_54) rfl k) ?_
    show OEnds p.tables e below G (T1156.setTop (mkF m 56 #[.val (.int p1), .val (.int p2), .val (.int p3), .val (.int (3 : Int32)), .val (.int v1143), .val (.ref b1144), .unset, .unset] [(.int v1143), (.int (6 : Int32)), (.ref b1144)]))
    obtain ⟨cl1158, Ar1158, q1158, S1158, N1158n, H1158, G1158⟩ := id f1157
    have hin1158 : ¬ ((6 : Int32) < 0 ∨ cl1158.slots.size ≤ ((6 : Int32)).toNatClampNeg) := inb_of S1158 ⟨by decide, by decide⟩
    obtain ⟨T1158, h1158, X1158, e1158, W1158, st1158⟩ := stB X1156 hx hZ e1156 Ar1158 (j := (6 : Int32)) hin1158 (g := (mkF m 56 #[.val (.int p1), .val (.int p2), .val (.int p3), .val (.int (3 : Int32)), .val (.int v1143), .val (.ref b1144), .unset, .unset] [(.int v1143), (.int (6 : Int32)), (.ref b1144)])) rfl rfl (hb hby at_56)
    refine OEnds.st st1158 ?_
    rw [hf8] at W1158
    have f1159 : Arv Z h1158 b1144 k1144 .byte (9 : Int32) [(.int v1143), (.int v1143), (.int v1143), (.int v1143), (.int v1143), (.int v1143), (.int v1143), (.int (0 : Int32)), (.int (0 : Int32))] (.int (0 : Int32)) := Arv.set Ar1158 q1158 S1158 N1158n H1158 G1158 (by rw [← hf8]; exact fits_nar_byte _) W1158 6 rfl (Nat.le_of_ble_eq_true rfl)
    have N1158 := Fr.snoc X1158 N1156 ge_b1144
    have KK1158 : Keep h0 h1158 [] := KK1156.wr W1158 (Or.inr sz_b1144)
    have Z1158 := Nat.le_trans Z1156 (Keep.of_wr W1158).1
    show OEnds p.tables e below G (T1158.setTop (mkF m 57 #[.val (.int p1), .val (.int p2), .val (.int p3), .val (.int (3 : Int32)), .val (.int v1143), .val (.ref b1144), .unset, .unset] []))
    refine OEnds.st (fun _ k => XS.aload X1158.here hx rfl (hb hby at_57) rfl rfl k) ?_
    show OEnds p.tables e below G (T1158.setTop (mkF m 59 #[.val (.int p1), .val (.int p2), .val (.int p3), .val (.int (3 : Int32)), .val (.int v1143), .val (.ref b1144), .unset, .unset] [(.ref b1144)]))
    refine OEnds.st (fun _ k => XS.bipush X1158.here hx rfl (hb hby at_59) k) ?_
    show OEnds p.tables e below G (T1158.setTop (mkF m 61 #[.val (.int p1), .val (.int p2), .val (.int p3), .val (.int (3 : Int32)), .val (.int v1143), .val (.ref b1144), .unset, .unset] [(.int (7 : Int32)), (.ref b1144)]))
    refine OEnds.st (fun _ k => XS.iload X1158.here hx rfl (hb hby at_61) rfl k) ?_
    show OEnds p.tables e below G (T1158.setTop (mkF m 63 #[.val (.int p1), .val (.int p2), .val (.int p3), .val (.int (3 : Int32)), .val (.int v1143), .val (.ref b1144), .unset, .unset] [(.int v1143), (.int (7 : Int32)), (.ref b1144)]))
    obtain ⟨cl1160, Ar1160, q1160, S1160, N1160n, H1160, G1160⟩ := id f1159
    have hin1160 : ¬ ((7 : Int32) < 0 ∨ cl1160.slots.size ≤ ((7 : Int32)).toNatClampNeg) := inb_of S1160 ⟨by decide, by decide⟩
    obtain ⟨T1160, h1160, X1160, e1160, W1160, st1160⟩ := stB X1158 hx hZ e1158 Ar1160 (j := (7 : Int32)) hin1160 (g := (mkF m 63 #[.val (.int p1), .val (.int p2), .val (.int p3), .val (.int (3 : Int32)), .val (.int v1143), .val (.ref b1144), .unset, .unset] [(.int v1143), (.int (7 : Int32)), (.ref b1144)])) rfl rfl (hb hby at_63)
    refine OEnds.st st1160 ?_
    rw [hf8] at W1160
    have f1161 : Arv Z h1160 b1144 k1144 .byte (9 : Int32) [(.int v1143), (.int v1143), (.int v1143), (.int v1143), (.int v1143), (.int v1143), (.int v1143), (.int v1143), (.int (0 : Int32))] (.int (0 : Int32)) := Arv.set Ar1160 q1160 S1160 N1160n H1160 G1160 (by rw [← hf8]; exact fits_nar_byte _) W1160 7 rfl (Nat.le_of_ble_eq_true rfl)
    have N1160 := Fr.snoc X1160 N1158 ge_b1144
    have KK1160 : Keep h0 h1160 [] := KK1158.wr W1160 (Or.inr sz_b1144)
    have Z1160 := Nat.le_trans Z1158 (Keep.of_wr W1160).1
    show OEnds p.tables e below G (T1160.setTop (mkF m 64 #[.val (.int p1), .val (.int p2), .val (.int p3), .val (.int (3 : Int32)), .val (.int v1143), .val (.ref b1144), .unset, .unset] []))
    refine OEnds.st (fun _ k => XS.aload X1160.here hx rfl (hb hby at_64) rfl rfl k) ?_
    show OEnds p.tables e below G (T1160.setTop (mkF m 66 #[.val (.int p1), .val (.int p2), .val (.int p3), .val (.int (3 : Int32)), .val (.int v1143), .val (.ref b1144), .unset, .unset] [(.ref b1144)]))
    refine OEnds.st (fun _ k => XS.bipush X1160.here hx rfl (hb hby at_66) k) ?_
    show OEnds p.tables e below G (T1160.setTop (mkF m 68 #[.val (.int p1), .val (.int p2), .val (.int p3), .val (.int (3 : Int32)), .val (.int v1143), .val (.ref b1144), .unset, .unset] [(.int (8 : Int32)), (.ref b1144)]))
    refine OEnds.st (fun _ k => XS.iload X1160.here hx rfl (hb hby at_68) rfl k) ?_
    show OEnds p.tables e below G (T1160.setTop (mkF m 70 #[.val (.int p1), .val (.int p2), .val (.int p3), .val (.int (3 : Int32)), .val (.int v1143), .val (.ref b1144), .unset, .unset] [(.int v1143), (.int (8 : Int32)), (.ref b1144)]))
    obtain ⟨cl1162, Ar1162, q1162, S1162, N1162n, H1162, G1162⟩ := id f1161
    have hin1162 : ¬ ((8 : Int32) < 0 ∨ cl1162.slots.size ≤ ((8 : Int32)).toNatClampNeg) := inb_of S1162 ⟨by decide, by decide⟩
    obtain ⟨T1162, h1162, X1162, e1162, W1162, st1162⟩ := stB X1160 hx hZ e1160 Ar1162 (j := (8 : Int32)) hin1162 (g := (mkF m 70 #[.val (.int p1), .val (.int p2), .val (.int p3), .val (.int (3 : Int32)), .val (.int v1143), .val (.ref b1144), .unset, .unset] [(.int v1143), (.int (8 : Int32)), (.ref b1144)])) rfl rfl (hb hby at_70)
    refine OEnds.st st1162 ?_
    rw [hf8] at W1162
    have f1163 : Arv Z h1162 b1144 k1144 .byte (9 : Int32) [(.int v1143), (.int v1143), (.int v1143), (.int v1143), (.int v1143), (.int v1143), (.int v1143), (.int v1143), (.int v1143)] (.int (0 : Int32)) := Arv.set Ar1162 q1162 S1162 N1162n H1162 G1162 (by rw [← hf8]; exact fits_nar_byte _) W1162 8 rfl (Nat.le_of_ble_eq_true rfl)
    have N1162 := Fr.snoc X1162 N1160 ge_b1144
    have KK1162 : Keep h0 h1162 [] := KK1160.wr W1162 (Or.inr sz_b1144)
    have Z1162 := Nat.le_trans Z1160 (Keep.of_wr W1162).1
    show OEnds p.tables e below G (T1162.setTop (mkF m 71 #[.val (.int p1), .val (.int p2), .val (.int p3), .val (.int (3 : Int32)), .val (.int v1143), .val (.ref b1144), .unset, .unset] []))
    refine OEnds.st (fun _ k => XS.aload X1162.here hx rfl (hb hby at_71) rfl rfl k) ?_
    show OEnds p.tables e below G (T1162.setTop (mkF m 73 #[.val (.int p1), .val (.int p2), .val (.int p3), .val (.int (3 : Int32)), .val (.int v1143), .val (.ref b1144), .unset, .unset] [(.ref b1144)]))
    refine OEnds.st (fun _ k => XS.iloadN X1162.here hx rfl (hb hby at_73) rfl k) ?_
    show OEnds p.tables e below G (T1162.setTop (mkF m 74 #[.val (.int p1), .val (.int p2), .val (.int p3), .val (.int (3 : Int32)), .val (.int v1143), .val (.ref b1144), .unset, .unset] [(.int (3 : Int32)), (.ref b1144)]))
    refine OEnds.st (fun _ k => XS.iloadN X1162.here hx rfl (hb hby at_74) rfl k) ?_
    show OEnds p.tables e below G (T1162.setTop (mkF m 75 #[.val (.int p1), .val (.int p2), .val (.int p3), .val (.int (3 : Int32)), .val (.int v1143), .val (.ref b1144), .unset, .unset] [(.int p1), (.int (3 : Int32)), (.ref b1144)]))
    obtain ⟨_, _, ⟨T1164, L1164, k1164c, n1164c⟩, -, X1164, ⟨Lc1164, hQ1164, l1164, y1164, z1164⟩, st1164⟩ := Jvm.LawKit.callS X1162 hx (y := (⟨"com/example/words_to_weights/wordstoweights/index/IndexFormat", "putNumber", "([BII)I"⟩ : MethodName)) hown (mvT hZ (hw _ (List.mem_of_getElem? (i := 1) rfl))) (mvT hZ (hw _ (List.mem_of_getElem? (i := 2) rfl))) (mvT hZ (hw _ (List.mem_of_getElem? (i := 3) rfl))) (mvT hZ (hw _ (List.mem_of_getElem? (i := 4) rfl))) (by decide) (backOf (W := 0) (rmput3 l Z a0 hw [] b1144 p1 k1144 v1143 h1162 n0 Z1162 f1163 ge_b1144 hf8) hZ (hw _ (List.mem_of_getElem? (i := 4) rfl)) (hw _ (List.mem_of_getElem? (i := 3) rfl)) (by decide) (by decide)) (g := (mkF m 75 #[.val (.int p1), .val (.int p2), .val (.int p3), .val (.int (3 : Int32)), .val (.int v1143), .val (.ref b1144), .unset, .unset] [(.int p1), (.int (3 : Int32)), (.ref b1144)])) rfl (by rw [hml]; rfl) (argsL := [(.ref b1144), (.int (3 : Int32)), (.int p1)]) (rest := []) (lenOf pd_0 rfl) rfl (by show 2 * 0 + _ ≤ _; exact Nat.le_of_eq rfl) (hb hby at_75) (fun _ _ => ⟨rfl, e1162, (by decide : 0 + 1 + 0 ≤ _), (by decide : 0 + 9 + 0 ≤ _)⟩)
    dsimp only [Pt.U, Pt.locs, Pt.cells, Pt.slots] at X1164 l1164 y1164 z1164 st1164 hQ1164
    subst l1164 y1164 z1164
    obtain ⟨rfl, N1164q, p1165, p1166⟩ := hQ1164
    have N1164 := Fr.app N1162 N1164q
    refine OEnds.st st1164 ?_
    have KK1164 : Keep h0 T1164.heap [] := KK1162.trans p1165 (fun x hx => by cases List.mem_singleton.mp hx; exact Or.inr sz_b1144)
    have Z1164 := Nat.le_trans Z1162 p1165.1
    show OEnds p.tables e below G (T1164.setTop (mkF m 78 #[.val (.int p1), .val (.int p2), .val (.int p3), .val (.int (3 : Int32)), .val (.int v1143), .val (.ref b1144), .unset, .unset] [(.int ((3 : Int32) + own_cnt p1))]))
    refine OEnds.st (fun _ k => XS.istore X1164.here hx rfl (hb hby at_78) rfl (l' := #[.val (.int p1), .val (.int p2), .val (.int p3), .val (.int (3 : Int32)), .val (.int v1143), .val (.ref b1144), .val (.int ((3 : Int32) + own_cnt p1)), .unset]) rfl k) ?_
    show OEnds p.tables e below G (T1164.setTop (mkF m 80 #[.val (.int p1), .val (.int p2), .val (.int p3), .val (.int (3 : Int32)), .val (.int v1143), .val (.ref b1144), .val (.int ((3 : Int32) + own_cnt p1)), .unset] []))
    generalize hv_v1168 : ((3 : Int32) + own_cnt p1) = v1168
    show OEnds p.tables e below G (T1164.setTop (mkF m 80 #[.val (.int p1), .val (.int p2), .val (.int p3), .val (.int (3 : Int32)), .val (.int v1143), .val (.ref b1144), .val (.int v1168), .unset] []))
    refine OEnds.st (fun _ k => XS.iloadN X1164.here hx rfl (hb hby at_80) rfl k) ?_
    show OEnds p.tables e below G (T1164.setTop (mkF m 81 #[.val (.int p1), .val (.int p2), .val (.int p3), .val (.int (3 : Int32)), .val (.int v1143), .val (.ref b1144), .val (.int v1168), .unset] [(.int p1)]))
    obtain ⟨_, _, ⟨T1169, L1169, k1169c, n1169c⟩, -, X1169, ⟨Lc1169, hQ1169, l1169, y1169, z1169⟩, st1169⟩ := Jvm.LawKit.callS X1164 hx (y := (⟨"com/example/words_to_weights/wordstoweights/index/IndexFormatPutNumberPinLaw", "length", "(I)I"⟩ : MethodName)) hown (mvT hZ (hw _ (List.mem_of_getElem? (i := 5) rfl))) (mvT hZ (hw _ (List.mem_of_getElem? (i := 6) rfl))) (mvT hZ (hw _ (List.mem_of_getElem? (i := 7) rfl))) (mvT hZ (hw _ (List.mem_of_getElem? (i := 8) rfl))) (by decide) (backOf (W := 0) (rm2 l Z a0 hw [] p1 T1164.heap n0 Z1164 ) hZ (hw _ (List.mem_of_getElem? (i := 8) rfl)) (hw _ (List.mem_of_getElem? (i := 7) rfl)) (by decide) (by decide)) (g := (mkF m 81 #[.val (.int p1), .val (.int p2), .val (.int p3), .val (.int (3 : Int32)), .val (.int v1143), .val (.ref b1144), .val (.int v1168), .unset] [(.int p1)])) rfl (by rw [hml]; rfl) (argsL := [(.int p1)]) (rest := []) (lenOf pd_1 rfl) rfl (by show 2 * 0 + _ ≤ _; exact Nat.le_of_eq rfl) (hb hby at_81) (fun _ _ => ⟨rfl, rfl, (by decide : 0 + 1 + 0 + 0 ≤ _), (by decide : 0 + 9 + 0 + 0 ≤ _)⟩)
    dsimp only [Pt.U, Pt.locs, Pt.cells, Pt.slots] at X1169 l1169 y1169 z1169 st1169 hQ1169
    subst l1169 y1169 z1169
    obtain ⟨rfl, N1169q, e1169⟩ := hQ1169
    have N1169 := Fr.app N1164 N1169q
    refine OEnds.st st1169 ?_
    show OEnds p.tables e below G (T1169.setTop (mkF m 84 #[.val (.int p1), .val (.int p2), .val (.int p3), .val (.int (3 : Int32)), .val (.int v1143), .val (.ref b1144), .val (.int v1168), .unset] [(.int (own_len p1))]))
    refine OEnds.st (fun _ k => XS.istore X1169.here hx rfl (hb hby at_84) rfl (l' := #[.val (.int p1), .val (.int p2), .val (.int p3), .val (.int (3 : Int32)), .val (.int v1143), .val (.ref b1144), .val (.int v1168), .val (.int (own_len p1))]) rfl k) ?_
    show OEnds p.tables e below G (T1169.setTop (mkF m 86 #[.val (.int p1), .val (.int p2), .val (.int p3), .val (.int (3 : Int32)), .val (.int v1143), .val (.ref b1144), .val (.int v1168), .val (.int (own_len p1))] []))
    generalize hv_v1170 : (own_len p1) = v1170
    show OEnds p.tables e below G (T1169.setTop (mkF m 86 #[.val (.int p1), .val (.int p2), .val (.int p3), .val (.int (3 : Int32)), .val (.int v1143), .val (.ref b1144), .val (.int v1168), .val (.int v1170)] []))
    refine OEnds.st (fun _ k => XS.iload X1169.here hx rfl (hb hby at_86) rfl k) ?_
    show OEnds p.tables e below G (T1169.setTop (mkF m 88 #[.val (.int p1), .val (.int p2), .val (.int p3), .val (.int (3 : Int32)), .val (.int v1143), .val (.ref b1144), .val (.int v1168), .val (.int v1170)] [(.int v1168)]))
    refine OEnds.st (fun _ k => XS.iloadN X1169.here hx rfl (hb hby at_88) rfl k) ?_
    show OEnds p.tables e below G (T1169.setTop (mkF m 89 #[.val (.int p1), .val (.int p2), .val (.int p3), .val (.int (3 : Int32)), .val (.int v1143), .val (.ref b1144), .val (.int v1168), .val (.int v1170)] [(.int (3 : Int32)), (.int v1168)]))
    refine OEnds.st (fun _ k => XS.iload X1169.here hx rfl (hb hby at_89) rfl k) ?_
    show OEnds p.tables e below G (T1169.setTop (mkF m 91 #[.val (.int p1), .val (.int p2), .val (.int p3), .val (.int (3 : Int32)), .val (.int v1143), .val (.ref b1144), .val (.int v1168), .val (.int v1170)] [(.int v1170), (.int (3 : Int32)), (.int v1168)]))
    refine OEnds.st (fun _ k => XS.iadd X1169.here hx rfl (hb hby at_91) rfl k) ?_
    show OEnds p.tables e below G (T1169.setTop (mkF m 92 #[.val (.int p1), .val (.int p2), .val (.int p3), .val (.int (3 : Int32)), .val (.int v1143), .val (.ref b1144), .val (.int v1168), .val (.int v1170)] [(.int ((3 : Int32) + v1170)), (.int v1168)]))
    have hc92_1171 : v1168 = ((3 : Int32) + v1170) := by rw [← hv_v1168, ← hv_v1170, own_cnt_len]
    refine OEnds.st (fun _ k => XS.icmpYes X1169.here hx rfl (pc0 := 92) (pc' := 97) rfl (hb hby at_92) rfl (teq hc92_1171).1 (by decide) (by decide) k) ?_
    show OEnds p.tables e below G (T1169.setTop (mkF m 97 #[.val (.int p1), .val (.int p2), .val (.int p3), .val (.int (3 : Int32)), .val (.int v1143), .val (.ref b1144), .val (.int v1168), .val (.int v1170)] []))
    refine OEnds.st (fun _ k => XS.aload X1169.here hx rfl (hb hby at_97) rfl rfl k) ?_
    show OEnds p.tables e below G (T1169.setTop (mkF m 99 #[.val (.int p1), .val (.int p2), .val (.int p3), .val (.int (3 : Int32)), .val (.int v1143), .val (.ref b1144), .val (.int v1168), .val (.int v1170)] [(.ref b1144)]))
    refine OEnds.st (fun _ k => XS.iconst X1169.here hx rfl (hb hby at_99) k) ?_
    show OEnds p.tables e below G (T1169.setTop (mkF m 100 #[.val (.int p1), .val (.int p2), .val (.int p3), .val (.int (3 : Int32)), .val (.int v1143), .val (.ref b1144), .val (.int v1168), .val (.int v1170)] [(.int (0 : Int32)), (.ref b1144)]))
    refine OEnds.st (fun _ k => XS.iloadN X1169.here hx rfl (hb hby at_100) rfl k) ?_
    show OEnds p.tables e below G (T1169.setTop (mkF m 101 #[.val (.int p1), .val (.int p2), .val (.int p3), .val (.int (3 : Int32)), .val (.int v1143), .val (.ref b1144), .val (.int v1168), .val (.int v1170)] [(.int (3 : Int32)), (.int (0 : Int32)), (.ref b1144)]))
    refine OEnds.st (fun _ k => XS.iload X1169.here hx rfl (hb hby at_101) rfl k) ?_
    show OEnds p.tables e below G (T1169.setTop (mkF m 103 #[.val (.int p1), .val (.int p2), .val (.int p3), .val (.int (3 : Int32)), .val (.int v1143), .val (.ref b1144), .val (.int v1168), .val (.int v1170)] [(.int v1170), (.int (3 : Int32)), (.int (0 : Int32)), (.ref b1144)]))
    refine OEnds.st (fun _ k => XS.iloadN X1169.here hx rfl (hb hby at_103) rfl k) ?_
    show OEnds p.tables e below G (T1169.setTop (mkF m 104 #[.val (.int p1), .val (.int p2), .val (.int p3), .val (.int (3 : Int32)), .val (.int v1143), .val (.ref b1144), .val (.int v1168), .val (.int v1170)] [(.int p1), (.int v1170), (.int (3 : Int32)), (.int (0 : Int32)), (.ref b1144)]))
    refine OEnds.st (fun _ k => XS.iload X1169.here hx rfl (hb hby at_104) rfl k) ?_
    show OEnds p.tables e below G (T1169.setTop (mkF m 106 #[.val (.int p1), .val (.int p2), .val (.int p3), .val (.int (3 : Int32)), .val (.int v1143), .val (.ref b1144), .val (.int v1168), .val (.int v1170)] [(.int v1143), (.int p1), (.int v1170), (.int (3 : Int32)), (.int (0 : Int32)), (.ref b1144)]))
    obtain ⟨_, _, ⟨T1172, L1172, k1172c, n1172c⟩, -, X1172, ⟨Lc1172, hQ1172, l1172, y1172, z1172⟩, st1172⟩ := Jvm.LawKit.callS X1169 hx (y := (⟨"com/example/words_to_weights/wordstoweights/index/IndexFormatPutNumberPinLaw", "at", "([BIIIIB)Z"⟩ : MethodName)) hown (mvT hZ (hw _ (List.mem_of_getElem? (i := 9) rfl))) (mvT hZ (hw _ (List.mem_of_getElem? (i := 10) rfl))) (mvT hZ (hw _ (List.mem_of_getElem? (i := 7) rfl))) (mvT hZ (hw _ (List.mem_of_getElem? (i := 11) rfl))) (by decide) (backOf (W := 0) (rm3 l Z a0 hw [] b1144 (0 : Int32) (3 : Int32) v1170 p1 v1143 k1144 (own_els 3 p1 v1143) (own_el 3 0 p1 v1143) T1164.heap n0 Z1164 p1166 (by decide) (by decide) rfl) hZ (hw _ (List.mem_of_getElem? (i := 11) rfl)) (hw _ (List.mem_of_getElem? (i := 7) rfl)) (by decide) (by decide)) (g := (mkF m 106 #[.val (.int p1), .val (.int p2), .val (.int p3), .val (.int (3 : Int32)), .val (.int v1143), .val (.ref b1144), .val (.int v1168), .val (.int v1170)] [(.int v1143), (.int p1), (.int v1170), (.int (3 : Int32)), (.int (0 : Int32)), (.ref b1144)])) rfl (by rw [hml]; rfl) (argsL := [(.ref b1144), (.int (0 : Int32)), (.int (3 : Int32)), (.int v1170), (.int p1), (.int v1143)]) (rest := []) (lenOf pd_2 rfl) rfl (by show 2 * 0 + _ ≤ _; exact Nat.le_of_eq rfl) (hb hby at_106) (fun _ _ => ⟨rfl, e1169, (by decide : 0 + 1 + 0 + 0 + 0 ≤ _), (by decide : 0 + 9 + 0 + 0 + 0 ≤ _)⟩)
    dsimp only [Pt.U, Pt.locs, Pt.cells, Pt.slots] at X1172 l1172 y1172 z1172 st1172 hQ1172
    subst l1172 y1172 z1172
    obtain ⟨rfl, N1172q, e1172⟩ := hQ1172
    have N1172 := Fr.app N1169 N1172q
    refine OEnds.st st1172 ?_
    show OEnds p.tables e below G (T1172.setTop (mkF m 109 #[.val (.int p1), .val (.int p2), .val (.int p3), .val (.int (3 : Int32)), .val (.int v1143), .val (.ref b1144), .val (.int v1168), .val (.int v1170)] [(.int (own_at (0 : Int32) (3 : Int32) v1170 p1 v1143 (own_el 3 0 p1 v1143)))]))
    have hc109_1173 : ¬ ((own_at (0 : Int32) (3 : Int32) v1170 p1 v1143 (own_el 3 0 p1 v1143)) = (0 : Int32)) := by rw [← hv_v1170, own_ok_3_0 p1 v1143]; decide
    refine OEnds.st (fun _ k => XS.ifNo X1172.here hx rfl (hb hby at_109) rfl ((if0 _ _).trans (feq hc109_1173).1) k) ?_
    show OEnds p.tables e below G (T1172.setTop (mkF m 112 #[.val (.int p1), .val (.int p2), .val (.int p3), .val (.int (3 : Int32)), .val (.int v1143), .val (.ref b1144), .val (.int v1168), .val (.int v1170)] []))
    refine OEnds.st (fun _ k => XS.aload X1172.here hx rfl (hb hby at_112) rfl rfl k) ?_
    show OEnds p.tables e below G (T1172.setTop (mkF m 114 #[.val (.int p1), .val (.int p2), .val (.int p3), .val (.int (3 : Int32)), .val (.int v1143), .val (.ref b1144), .val (.int v1168), .val (.int v1170)] [(.ref b1144)]))
    refine OEnds.st (fun _ k => XS.iconst X1172.here hx rfl (hb hby at_114) k) ?_
    show OEnds p.tables e below G (T1172.setTop (mkF m 115 #[.val (.int p1), .val (.int p2), .val (.int p3), .val (.int (3 : Int32)), .val (.int v1143), .val (.ref b1144), .val (.int v1168), .val (.int v1170)] [(.int (1 : Int32)), (.ref b1144)]))
    refine OEnds.st (fun _ k => XS.iloadN X1172.here hx rfl (hb hby at_115) rfl k) ?_
    show OEnds p.tables e below G (T1172.setTop (mkF m 116 #[.val (.int p1), .val (.int p2), .val (.int p3), .val (.int (3 : Int32)), .val (.int v1143), .val (.ref b1144), .val (.int v1168), .val (.int v1170)] [(.int (3 : Int32)), (.int (1 : Int32)), (.ref b1144)]))
    refine OEnds.st (fun _ k => XS.iload X1172.here hx rfl (hb hby at_116) rfl k) ?_
    show OEnds p.tables e below G (T1172.setTop (mkF m 118 #[.val (.int p1), .val (.int p2), .val (.int p3), .val (.int (3 : Int32)), .val (.int v1143), .val (.ref b1144), .val (.int v1168), .val (.int v1170)] [(.int v1170), (.int (3 : Int32)), (.int (1 : Int32)), (.ref b1144)]))
    refine OEnds.st (fun _ k => XS.iloadN X1172.here hx rfl (hb hby at_118) rfl k) ?_
    show OEnds p.tables e below G (T1172.setTop (mkF m 119 #[.val (.int p1), .val (.int p2), .val (.int p3), .val (.int (3 : Int32)), .val (.int v1143), .val (.ref b1144), .val (.int v1168), .val (.int v1170)] [(.int p1), (.int v1170), (.int (3 : Int32)), (.int (1 : Int32)), (.ref b1144)]))
    refine OEnds.st (fun _ k => XS.iload X1172.here hx rfl (hb hby at_119) rfl k) ?_
    show OEnds p.tables e below G (T1172.setTop (mkF m 121 #[.val (.int p1), .val (.int p2), .val (.int p3), .val (.int (3 : Int32)), .val (.int v1143), .val (.ref b1144), .val (.int v1168), .val (.int v1170)] [(.int v1143), (.int p1), (.int v1170), (.int (3 : Int32)), (.int (1 : Int32)), (.ref b1144)]))
    obtain ⟨_, _, ⟨T1174, L1174, k1174c, n1174c⟩, -, X1174, ⟨Lc1174, hQ1174, l1174, y1174, z1174⟩, st1174⟩ := Jvm.LawKit.callS X1172 hx (y := (⟨"com/example/words_to_weights/wordstoweights/index/IndexFormatPutNumberPinLaw", "at", "([BIIIIB)Z"⟩ : MethodName)) hown (mvT hZ (hw _ (List.mem_of_getElem? (i := 9) rfl))) (mvT hZ (hw _ (List.mem_of_getElem? (i := 10) rfl))) (mvT hZ (hw _ (List.mem_of_getElem? (i := 7) rfl))) (mvT hZ (hw _ (List.mem_of_getElem? (i := 11) rfl))) (by decide) (backOf (W := 0) (rm3 l Z a0 hw [] b1144 (1 : Int32) (3 : Int32) v1170 p1 v1143 k1144 (own_els 3 p1 v1143) (own_el 3 1 p1 v1143) T1164.heap n0 Z1164 p1166 (by decide) (by decide) rfl) hZ (hw _ (List.mem_of_getElem? (i := 11) rfl)) (hw _ (List.mem_of_getElem? (i := 7) rfl)) (by decide) (by decide)) (g := (mkF m 121 #[.val (.int p1), .val (.int p2), .val (.int p3), .val (.int (3 : Int32)), .val (.int v1143), .val (.ref b1144), .val (.int v1168), .val (.int v1170)] [(.int v1143), (.int p1), (.int v1170), (.int (3 : Int32)), (.int (1 : Int32)), (.ref b1144)])) rfl (by rw [hml]; rfl) (argsL := [(.ref b1144), (.int (1 : Int32)), (.int (3 : Int32)), (.int v1170), (.int p1), (.int v1143)]) (rest := []) (lenOf pd_2 rfl) rfl (by show 2 * 0 + _ ≤ _; exact Nat.le_of_eq rfl) (hb hby at_121) (fun _ _ => ⟨rfl, e1172, (by decide : 0 + 1 + 0 + 0 + 0 + 0 ≤ _), (by decide : 0 + 9 + 0 + 0 + 0 + 0 ≤ _)⟩)
    dsimp only [Pt.U, Pt.locs, Pt.cells, Pt.slots] at X1174 l1174 y1174 z1174 st1174 hQ1174
    subst l1174 y1174 z1174
    obtain ⟨rfl, N1174q, e1174⟩ := hQ1174
    have N1174 := Fr.app N1172 N1174q
    refine OEnds.st st1174 ?_
    show OEnds p.tables e below G (T1174.setTop (mkF m 124 #[.val (.int p1), .val (.int p2), .val (.int p3), .val (.int (3 : Int32)), .val (.int v1143), .val (.ref b1144), .val (.int v1168), .val (.int v1170)] [(.int (own_at (1 : Int32) (3 : Int32) v1170 p1 v1143 (own_el 3 1 p1 v1143)))]))
    have hc124_1175 : ¬ ((own_at (1 : Int32) (3 : Int32) v1170 p1 v1143 (own_el 3 1 p1 v1143)) = (0 : Int32)) := by rw [← hv_v1170, own_ok_3_1 p1 v1143]; decide
    refine OEnds.st (fun _ k => XS.ifNo X1174.here hx rfl (hb hby at_124) rfl ((if0 _ _).trans (feq hc124_1175).1) k) ?_
    show OEnds p.tables e below G (T1174.setTop (mkF m 127 #[.val (.int p1), .val (.int p2), .val (.int p3), .val (.int (3 : Int32)), .val (.int v1143), .val (.ref b1144), .val (.int v1168), .val (.int v1170)] []))
    refine OEnds.st (fun _ k => XS.aload X1174.here hx rfl (hb hby at_127) rfl rfl k) ?_
    show OEnds p.tables e below G (T1174.setTop (mkF m 129 #[.val (.int p1), .val (.int p2), .val (.int p3), .val (.int (3 : Int32)), .val (.int v1143), .val (.ref b1144), .val (.int v1168), .val (.int v1170)] [(.ref b1144)]))
    refine OEnds.st (fun _ k => XS.iconst X1174.here hx rfl (hb hby at_129) k) ?_
    show OEnds p.tables e below G (T1174.setTop (mkF m 130 #[.val (.int p1), .val (.int p2), .val (.int p3), .val (.int (3 : Int32)), .val (.int v1143), .val (.ref b1144), .val (.int v1168), .val (.int v1170)] [(.int (2 : Int32)), (.ref b1144)]))
    refine OEnds.st (fun _ k => XS.iloadN X1174.here hx rfl (hb hby at_130) rfl k) ?_
    show OEnds p.tables e below G (T1174.setTop (mkF m 131 #[.val (.int p1), .val (.int p2), .val (.int p3), .val (.int (3 : Int32)), .val (.int v1143), .val (.ref b1144), .val (.int v1168), .val (.int v1170)] [(.int (3 : Int32)), (.int (2 : Int32)), (.ref b1144)]))
    refine OEnds.st (fun _ k => XS.iload X1174.here hx rfl (hb hby at_131) rfl k) ?_
    show OEnds p.tables e below G (T1174.setTop (mkF m 133 #[.val (.int p1), .val (.int p2), .val (.int p3), .val (.int (3 : Int32)), .val (.int v1143), .val (.ref b1144), .val (.int v1168), .val (.int v1170)] [(.int v1170), (.int (3 : Int32)), (.int (2 : Int32)), (.ref b1144)]))
    refine OEnds.st (fun _ k => XS.iloadN X1174.here hx rfl (hb hby at_133) rfl k) ?_
    show OEnds p.tables e below G (T1174.setTop (mkF m 134 #[.val (.int p1), .val (.int p2), .val (.int p3), .val (.int (3 : Int32)), .val (.int v1143), .val (.ref b1144), .val (.int v1168), .val (.int v1170)] [(.int p1), (.int v1170), (.int (3 : Int32)), (.int (2 : Int32)), (.ref b1144)]))
    refine OEnds.st (fun _ k => XS.iload X1174.here hx rfl (hb hby at_134) rfl k) ?_
    show OEnds p.tables e below G (T1174.setTop (mkF m 136 #[.val (.int p1), .val (.int p2), .val (.int p3), .val (.int (3 : Int32)), .val (.int v1143), .val (.ref b1144), .val (.int v1168), .val (.int v1170)] [(.int v1143), (.int p1), (.int v1170), (.int (3 : Int32)), (.int (2 : Int32)), (.ref b1144)]))
    obtain ⟨_, _, ⟨T1176, L1176, k1176c, n1176c⟩, -, X1176, ⟨Lc1176, hQ1176, l1176, y1176, z1176⟩, st1176⟩ := Jvm.LawKit.callS X1174 hx (y := (⟨"com/example/words_to_weights/wordstoweights/index/IndexFormatPutNumberPinLaw", "at", "([BIIIIB)Z"⟩ : MethodName)) hown (mvT hZ (hw _ (List.mem_of_getElem? (i := 9) rfl))) (mvT hZ (hw _ (List.mem_of_getElem? (i := 10) rfl))) (mvT hZ (hw _ (List.mem_of_getElem? (i := 7) rfl))) (mvT hZ (hw _ (List.mem_of_getElem? (i := 11) rfl))) (by decide) (backOf (W := 0) (rm3 l Z a0 hw [] b1144 (2 : Int32) (3 : Int32) v1170 p1 v1143 k1144 (own_els 3 p1 v1143) (own_el 3 2 p1 v1143) T1164.heap n0 Z1164 p1166 (by decide) (by decide) rfl) hZ (hw _ (List.mem_of_getElem? (i := 11) rfl)) (hw _ (List.mem_of_getElem? (i := 7) rfl)) (by decide) (by decide)) (g := (mkF m 136 #[.val (.int p1), .val (.int p2), .val (.int p3), .val (.int (3 : Int32)), .val (.int v1143), .val (.ref b1144), .val (.int v1168), .val (.int v1170)] [(.int v1143), (.int p1), (.int v1170), (.int (3 : Int32)), (.int (2 : Int32)), (.ref b1144)])) rfl (by rw [hml]; rfl) (argsL := [(.ref b1144), (.int (2 : Int32)), (.int (3 : Int32)), (.int v1170), (.int p1), (.int v1143)]) (rest := []) (lenOf pd_2 rfl) rfl (by show 2 * 0 + _ ≤ _; exact Nat.le_of_eq rfl) (hb hby at_136) (fun _ _ => ⟨rfl, e1174, (by decide : 0 + 1 + 0 + 0 + 0 + 0 + 0 ≤ _), (by decide : 0 + 9 + 0 + 0 + 0 + 0 + 0 ≤ _)⟩)
    dsimp only [Pt.U, Pt.locs, Pt.cells, Pt.slots] at X1176 l1176 y1176 z1176 st1176 hQ1176
    subst l1176 y1176 z1176
    obtain ⟨rfl, N1176q, e1176⟩ := hQ1176
    have N1176 := Fr.app N1174 N1176q
    refine OEnds.st st1176 ?_
    show OEnds p.tables e below G (T1176.setTop (mkF m 139 #[.val (.int p1), .val (.int p2), .val (.int p3), .val (.int (3 : Int32)), .val (.int v1143), .val (.ref b1144), .val (.int v1168), .val (.int v1170)] [(.int (own_at (2 : Int32) (3 : Int32) v1170 p1 v1143 (own_el 3 2 p1 v1143)))]))
    have hc139_1177 : ¬ ((own_at (2 : Int32) (3 : Int32) v1170 p1 v1143 (own_el 3 2 p1 v1143)) = (0 : Int32)) := by rw [← hv_v1170, own_ok_3_2 p1 v1143]; decide
    refine OEnds.st (fun _ k => XS.ifNo X1176.here hx rfl (hb hby at_139) rfl ((if0 _ _).trans (feq hc139_1177).1) k) ?_
    show OEnds p.tables e below G (T1176.setTop (mkF m 142 #[.val (.int p1), .val (.int p2), .val (.int p3), .val (.int (3 : Int32)), .val (.int v1143), .val (.ref b1144), .val (.int v1168), .val (.int v1170)] []))
    refine OEnds.st (fun _ k => XS.aload X1176.here hx rfl (hb hby at_142) rfl rfl k) ?_
    show OEnds p.tables e below G (T1176.setTop (mkF m 144 #[.val (.int p1), .val (.int p2), .val (.int p3), .val (.int (3 : Int32)), .val (.int v1143), .val (.ref b1144), .val (.int v1168), .val (.int v1170)] [(.ref b1144)]))
    refine OEnds.st (fun _ k => XS.iconst X1176.here hx rfl (hb hby at_144) k) ?_
    show OEnds p.tables e below G (T1176.setTop (mkF m 145 #[.val (.int p1), .val (.int p2), .val (.int p3), .val (.int (3 : Int32)), .val (.int v1143), .val (.ref b1144), .val (.int v1168), .val (.int v1170)] [(.int (3 : Int32)), (.ref b1144)]))
    refine OEnds.st (fun _ k => XS.iloadN X1176.here hx rfl (hb hby at_145) rfl k) ?_
    show OEnds p.tables e below G (T1176.setTop (mkF m 146 #[.val (.int p1), .val (.int p2), .val (.int p3), .val (.int (3 : Int32)), .val (.int v1143), .val (.ref b1144), .val (.int v1168), .val (.int v1170)] [(.int (3 : Int32)), (.int (3 : Int32)), (.ref b1144)]))
    refine OEnds.st (fun _ k => XS.iload X1176.here hx rfl (hb hby at_146) rfl k) ?_
    show OEnds p.tables e below G (T1176.setTop (mkF m 148 #[.val (.int p1), .val (.int p2), .val (.int p3), .val (.int (3 : Int32)), .val (.int v1143), .val (.ref b1144), .val (.int v1168), .val (.int v1170)] [(.int v1170), (.int (3 : Int32)), (.int (3 : Int32)), (.ref b1144)]))
    refine OEnds.st (fun _ k => XS.iloadN X1176.here hx rfl (hb hby at_148) rfl k) ?_
    show OEnds p.tables e below G (T1176.setTop (mkF m 149 #[.val (.int p1), .val (.int p2), .val (.int p3), .val (.int (3 : Int32)), .val (.int v1143), .val (.ref b1144), .val (.int v1168), .val (.int v1170)] [(.int p1), (.int v1170), (.int (3 : Int32)), (.int (3 : Int32)), (.ref b1144)]))
    refine OEnds.st (fun _ k => XS.iload X1176.here hx rfl (hb hby at_149) rfl k) ?_
    show OEnds p.tables e below G (T1176.setTop (mkF m 151 #[.val (.int p1), .val (.int p2), .val (.int p3), .val (.int (3 : Int32)), .val (.int v1143), .val (.ref b1144), .val (.int v1168), .val (.int v1170)] [(.int v1143), (.int p1), (.int v1170), (.int (3 : Int32)), (.int (3 : Int32)), (.ref b1144)]))
    obtain ⟨_, _, ⟨T1178, L1178, k1178c, n1178c⟩, -, X1178, ⟨Lc1178, hQ1178, l1178, y1178, z1178⟩, st1178⟩ := Jvm.LawKit.callS X1176 hx (y := (⟨"com/example/words_to_weights/wordstoweights/index/IndexFormatPutNumberPinLaw", "at", "([BIIIIB)Z"⟩ : MethodName)) hown (mvT hZ (hw _ (List.mem_of_getElem? (i := 9) rfl))) (mvT hZ (hw _ (List.mem_of_getElem? (i := 10) rfl))) (mvT hZ (hw _ (List.mem_of_getElem? (i := 7) rfl))) (mvT hZ (hw _ (List.mem_of_getElem? (i := 11) rfl))) (by decide) (backOf (W := 0) (rm3 l Z a0 hw [] b1144 (3 : Int32) (3 : Int32) v1170 p1 v1143 k1144 (own_els 3 p1 v1143) (own_el 3 3 p1 v1143) T1164.heap n0 Z1164 p1166 (by decide) (by decide) rfl) hZ (hw _ (List.mem_of_getElem? (i := 11) rfl)) (hw _ (List.mem_of_getElem? (i := 7) rfl)) (by decide) (by decide)) (g := (mkF m 151 #[.val (.int p1), .val (.int p2), .val (.int p3), .val (.int (3 : Int32)), .val (.int v1143), .val (.ref b1144), .val (.int v1168), .val (.int v1170)] [(.int v1143), (.int p1), (.int v1170), (.int (3 : Int32)), (.int (3 : Int32)), (.ref b1144)])) rfl (by rw [hml]; rfl) (argsL := [(.ref b1144), (.int (3 : Int32)), (.int (3 : Int32)), (.int v1170), (.int p1), (.int v1143)]) (rest := []) (lenOf pd_2 rfl) rfl (by show 2 * 0 + _ ≤ _; exact Nat.le_of_eq rfl) (hb hby at_151) (fun _ _ => ⟨rfl, e1176, (by decide : 0 + 1 + 0 + 0 + 0 + 0 + 0 + 0 ≤ _), (by decide : 0 + 9 + 0 + 0 + 0 + 0 + 0 + 0 ≤ _)⟩)
    dsimp only [Pt.U, Pt.locs, Pt.cells, Pt.slots] at X1178 l1178 y1178 z1178 st1178 hQ1178
    subst l1178 y1178 z1178
    obtain ⟨rfl, N1178q, e1178⟩ := hQ1178
    have N1178 := Fr.app N1176 N1178q
    refine OEnds.st st1178 ?_
    show OEnds p.tables e below G (T1178.setTop (mkF m 154 #[.val (.int p1), .val (.int p2), .val (.int p3), .val (.int (3 : Int32)), .val (.int v1143), .val (.ref b1144), .val (.int v1168), .val (.int v1170)] [(.int (own_at (3 : Int32) (3 : Int32) v1170 p1 v1143 (own_el 3 3 p1 v1143)))]))
    have hc154_1179 : ¬ ((own_at (3 : Int32) (3 : Int32) v1170 p1 v1143 (own_el 3 3 p1 v1143)) = (0 : Int32)) := by rw [← hv_v1170, own_ok_3_3 p1 v1143]; decide
    refine OEnds.st (fun _ k => XS.ifNo X1178.here hx rfl (hb hby at_154) rfl ((if0 _ _).trans (feq hc154_1179).1) k) ?_
    show OEnds p.tables e below G (T1178.setTop (mkF m 157 #[.val (.int p1), .val (.int p2), .val (.int p3), .val (.int (3 : Int32)), .val (.int v1143), .val (.ref b1144), .val (.int v1168), .val (.int v1170)] []))
    refine OEnds.st (fun _ k => XS.aload X1178.here hx rfl (hb hby at_157) rfl rfl k) ?_
    show OEnds p.tables e below G (T1178.setTop (mkF m 159 #[.val (.int p1), .val (.int p2), .val (.int p3), .val (.int (3 : Int32)), .val (.int v1143), .val (.ref b1144), .val (.int v1168), .val (.int v1170)] [(.ref b1144)]))
    refine OEnds.st (fun _ k => XS.iconst X1178.here hx rfl (hb hby at_159) k) ?_
    show OEnds p.tables e below G (T1178.setTop (mkF m 160 #[.val (.int p1), .val (.int p2), .val (.int p3), .val (.int (3 : Int32)), .val (.int v1143), .val (.ref b1144), .val (.int v1168), .val (.int v1170)] [(.int (4 : Int32)), (.ref b1144)]))
    refine OEnds.st (fun _ k => XS.iloadN X1178.here hx rfl (hb hby at_160) rfl k) ?_
    show OEnds p.tables e below G (T1178.setTop (mkF m 161 #[.val (.int p1), .val (.int p2), .val (.int p3), .val (.int (3 : Int32)), .val (.int v1143), .val (.ref b1144), .val (.int v1168), .val (.int v1170)] [(.int (3 : Int32)), (.int (4 : Int32)), (.ref b1144)]))
    refine OEnds.st (fun _ k => XS.iload X1178.here hx rfl (hb hby at_161) rfl k) ?_
    show OEnds p.tables e below G (T1178.setTop (mkF m 163 #[.val (.int p1), .val (.int p2), .val (.int p3), .val (.int (3 : Int32)), .val (.int v1143), .val (.ref b1144), .val (.int v1168), .val (.int v1170)] [(.int v1170), (.int (3 : Int32)), (.int (4 : Int32)), (.ref b1144)]))
    refine OEnds.st (fun _ k => XS.iloadN X1178.here hx rfl (hb hby at_163) rfl k) ?_
    show OEnds p.tables e below G (T1178.setTop (mkF m 164 #[.val (.int p1), .val (.int p2), .val (.int p3), .val (.int (3 : Int32)), .val (.int v1143), .val (.ref b1144), .val (.int v1168), .val (.int v1170)] [(.int p1), (.int v1170), (.int (3 : Int32)), (.int (4 : Int32)), (.ref b1144)]))
    refine OEnds.st (fun _ k => XS.iload X1178.here hx rfl (hb hby at_164) rfl k) ?_
    show OEnds p.tables e below G (T1178.setTop (mkF m 166 #[.val (.int p1), .val (.int p2), .val (.int p3), .val (.int (3 : Int32)), .val (.int v1143), .val (.ref b1144), .val (.int v1168), .val (.int v1170)] [(.int v1143), (.int p1), (.int v1170), (.int (3 : Int32)), (.int (4 : Int32)), (.ref b1144)]))
    obtain ⟨_, _, ⟨T1180, L1180, k1180c, n1180c⟩, -, X1180, ⟨Lc1180, hQ1180, l1180, y1180, z1180⟩, st1180⟩ := Jvm.LawKit.callS X1178 hx (y := (⟨"com/example/words_to_weights/wordstoweights/index/IndexFormatPutNumberPinLaw", "at", "([BIIIIB)Z"⟩ : MethodName)) hown (mvT hZ (hw _ (List.mem_of_getElem? (i := 9) rfl))) (mvT hZ (hw _ (List.mem_of_getElem? (i := 10) rfl))) (mvT hZ (hw _ (List.mem_of_getElem? (i := 7) rfl))) (mvT hZ (hw _ (List.mem_of_getElem? (i := 11) rfl))) (by decide) (backOf (W := 0) (rm3 l Z a0 hw [] b1144 (4 : Int32) (3 : Int32) v1170 p1 v1143 k1144 (own_els 3 p1 v1143) (own_el 3 4 p1 v1143) T1164.heap n0 Z1164 p1166 (by decide) (by decide) rfl) hZ (hw _ (List.mem_of_getElem? (i := 11) rfl)) (hw _ (List.mem_of_getElem? (i := 7) rfl)) (by decide) (by decide)) (g := (mkF m 166 #[.val (.int p1), .val (.int p2), .val (.int p3), .val (.int (3 : Int32)), .val (.int v1143), .val (.ref b1144), .val (.int v1168), .val (.int v1170)] [(.int v1143), (.int p1), (.int v1170), (.int (3 : Int32)), (.int (4 : Int32)), (.ref b1144)])) rfl (by rw [hml]; rfl) (argsL := [(.ref b1144), (.int (4 : Int32)), (.int (3 : Int32)), (.int v1170), (.int p1), (.int v1143)]) (rest := []) (lenOf pd_2 rfl) rfl (by show 2 * 0 + _ ≤ _; exact Nat.le_of_eq rfl) (hb hby at_166) (fun _ _ => ⟨rfl, e1178, (by decide : 0 + 1 + 0 + 0 + 0 + 0 + 0 + 0 + 0 ≤ _), (by decide : 0 + 9 + 0 + 0 + 0 + 0 + 0 + 0 + 0 ≤ _)⟩)
    dsimp only [Pt.U, Pt.locs, Pt.cells, Pt.slots] at X1180 l1180 y1180 z1180 st1180 hQ1180
    subst l1180 y1180 z1180
    obtain ⟨rfl, N1180q, e1180⟩ := hQ1180
    have N1180 := Fr.app N1178 N1180q
    refine OEnds.st st1180 ?_
    show OEnds p.tables e below G (T1180.setTop (mkF m 169 #[.val (.int p1), .val (.int p2), .val (.int p3), .val (.int (3 : Int32)), .val (.int v1143), .val (.ref b1144), .val (.int v1168), .val (.int v1170)] [(.int (own_at (4 : Int32) (3 : Int32) v1170 p1 v1143 (own_el 3 4 p1 v1143)))]))
    have hc169_1181 : ¬ ((own_at (4 : Int32) (3 : Int32) v1170 p1 v1143 (own_el 3 4 p1 v1143)) = (0 : Int32)) := by rw [← hv_v1170, own_ok_3_4 p1 v1143]; decide
    refine OEnds.st (fun _ k => XS.ifNo X1180.here hx rfl (hb hby at_169) rfl ((if0 _ _).trans (feq hc169_1181).1) k) ?_
    show OEnds p.tables e below G (T1180.setTop (mkF m 172 #[.val (.int p1), .val (.int p2), .val (.int p3), .val (.int (3 : Int32)), .val (.int v1143), .val (.ref b1144), .val (.int v1168), .val (.int v1170)] []))
    refine OEnds.st (fun _ k => XS.aload X1180.here hx rfl (hb hby at_172) rfl rfl k) ?_
    show OEnds p.tables e below G (T1180.setTop (mkF m 174 #[.val (.int p1), .val (.int p2), .val (.int p3), .val (.int (3 : Int32)), .val (.int v1143), .val (.ref b1144), .val (.int v1168), .val (.int v1170)] [(.ref b1144)]))
    refine OEnds.st (fun _ k => XS.iconst X1180.here hx rfl (hb hby at_174) k) ?_
    show OEnds p.tables e below G (T1180.setTop (mkF m 175 #[.val (.int p1), .val (.int p2), .val (.int p3), .val (.int (3 : Int32)), .val (.int v1143), .val (.ref b1144), .val (.int v1168), .val (.int v1170)] [(.int (5 : Int32)), (.ref b1144)]))
    refine OEnds.st (fun _ k => XS.iloadN X1180.here hx rfl (hb hby at_175) rfl k) ?_
    show OEnds p.tables e below G (T1180.setTop (mkF m 176 #[.val (.int p1), .val (.int p2), .val (.int p3), .val (.int (3 : Int32)), .val (.int v1143), .val (.ref b1144), .val (.int v1168), .val (.int v1170)] [(.int (3 : Int32)), (.int (5 : Int32)), (.ref b1144)]))
    refine OEnds.st (fun _ k => XS.iload X1180.here hx rfl (hb hby at_176) rfl k) ?_
    show OEnds p.tables e below G (T1180.setTop (mkF m 178 #[.val (.int p1), .val (.int p2), .val (.int p3), .val (.int (3 : Int32)), .val (.int v1143), .val (.ref b1144), .val (.int v1168), .val (.int v1170)] [(.int v1170), (.int (3 : Int32)), (.int (5 : Int32)), (.ref b1144)]))
    refine OEnds.st (fun _ k => XS.iloadN X1180.here hx rfl (hb hby at_178) rfl k) ?_
    show OEnds p.tables e below G (T1180.setTop (mkF m 179 #[.val (.int p1), .val (.int p2), .val (.int p3), .val (.int (3 : Int32)), .val (.int v1143), .val (.ref b1144), .val (.int v1168), .val (.int v1170)] [(.int p1), (.int v1170), (.int (3 : Int32)), (.int (5 : Int32)), (.ref b1144)]))
    refine OEnds.st (fun _ k => XS.iload X1180.here hx rfl (hb hby at_179) rfl k) ?_
    show OEnds p.tables e below G (T1180.setTop (mkF m 181 #[.val (.int p1), .val (.int p2), .val (.int p3), .val (.int (3 : Int32)), .val (.int v1143), .val (.ref b1144), .val (.int v1168), .val (.int v1170)] [(.int v1143), (.int p1), (.int v1170), (.int (3 : Int32)), (.int (5 : Int32)), (.ref b1144)]))
    obtain ⟨_, _, ⟨T1182, L1182, k1182c, n1182c⟩, -, X1182, ⟨Lc1182, hQ1182, l1182, y1182, z1182⟩, st1182⟩ := Jvm.LawKit.callS X1180 hx (y := (⟨"com/example/words_to_weights/wordstoweights/index/IndexFormatPutNumberPinLaw", "at", "([BIIIIB)Z"⟩ : MethodName)) hown (mvT hZ (hw _ (List.mem_of_getElem? (i := 9) rfl))) (mvT hZ (hw _ (List.mem_of_getElem? (i := 10) rfl))) (mvT hZ (hw _ (List.mem_of_getElem? (i := 7) rfl))) (mvT hZ (hw _ (List.mem_of_getElem? (i := 11) rfl))) (by decide) (backOf (W := 0) (rm3 l Z a0 hw [] b1144 (5 : Int32) (3 : Int32) v1170 p1 v1143 k1144 (own_els 3 p1 v1143) (own_el 3 5 p1 v1143) T1164.heap n0 Z1164 p1166 (by decide) (by decide) rfl) hZ (hw _ (List.mem_of_getElem? (i := 11) rfl)) (hw _ (List.mem_of_getElem? (i := 7) rfl)) (by decide) (by decide)) (g := (mkF m 181 #[.val (.int p1), .val (.int p2), .val (.int p3), .val (.int (3 : Int32)), .val (.int v1143), .val (.ref b1144), .val (.int v1168), .val (.int v1170)] [(.int v1143), (.int p1), (.int v1170), (.int (3 : Int32)), (.int (5 : Int32)), (.ref b1144)])) rfl (by rw [hml]; rfl) (argsL := [(.ref b1144), (.int (5 : Int32)), (.int (3 : Int32)), (.int v1170), (.int p1), (.int v1143)]) (rest := []) (lenOf pd_2 rfl) rfl (by show 2 * 0 + _ ≤ _; exact Nat.le_of_eq rfl) (hb hby at_181) (fun _ _ => ⟨rfl, e1180, (by decide : 0 + 1 + 0 + 0 + 0 + 0 + 0 + 0 + 0 + 0 ≤ _), (by decide : 0 + 9 + 0 + 0 + 0 + 0 + 0 + 0 + 0 + 0 ≤ _)⟩)
    dsimp only [Pt.U, Pt.locs, Pt.cells, Pt.slots] at X1182 l1182 y1182 z1182 st1182 hQ1182
    subst l1182 y1182 z1182
    obtain ⟨rfl, N1182q, e1182⟩ := hQ1182
    have N1182 := Fr.app N1180 N1182q
    refine OEnds.st st1182 ?_
    show OEnds p.tables e below G (T1182.setTop (mkF m 184 #[.val (.int p1), .val (.int p2), .val (.int p3), .val (.int (3 : Int32)), .val (.int v1143), .val (.ref b1144), .val (.int v1168), .val (.int v1170)] [(.int (own_at (5 : Int32) (3 : Int32) v1170 p1 v1143 (own_el 3 5 p1 v1143)))]))
    have hc184_1183 : ¬ ((own_at (5 : Int32) (3 : Int32) v1170 p1 v1143 (own_el 3 5 p1 v1143)) = (0 : Int32)) := by rw [← hv_v1170, own_ok_3_5 p1 v1143]; decide
    refine OEnds.st (fun _ k => XS.ifNo X1182.here hx rfl (hb hby at_184) rfl ((if0 _ _).trans (feq hc184_1183).1) k) ?_
    show OEnds p.tables e below G (T1182.setTop (mkF m 187 #[.val (.int p1), .val (.int p2), .val (.int p3), .val (.int (3 : Int32)), .val (.int v1143), .val (.ref b1144), .val (.int v1168), .val (.int v1170)] []))
    refine OEnds.st (fun _ k => XS.aload X1182.here hx rfl (hb hby at_187) rfl rfl k) ?_
    show OEnds p.tables e below G (T1182.setTop (mkF m 189 #[.val (.int p1), .val (.int p2), .val (.int p3), .val (.int (3 : Int32)), .val (.int v1143), .val (.ref b1144), .val (.int v1168), .val (.int v1170)] [(.ref b1144)]))
    refine OEnds.st (fun _ k => XS.bipush X1182.here hx rfl (hb hby at_189) k) ?_
    show OEnds p.tables e below G (T1182.setTop (mkF m 191 #[.val (.int p1), .val (.int p2), .val (.int p3), .val (.int (3 : Int32)), .val (.int v1143), .val (.ref b1144), .val (.int v1168), .val (.int v1170)] [(.int (6 : Int32)), (.ref b1144)]))
    refine OEnds.st (fun _ k => XS.iloadN X1182.here hx rfl (hb hby at_191) rfl k) ?_
    show OEnds p.tables e below G (T1182.setTop (mkF m 192 #[.val (.int p1), .val (.int p2), .val (.int p3), .val (.int (3 : Int32)), .val (.int v1143), .val (.ref b1144), .val (.int v1168), .val (.int v1170)] [(.int (3 : Int32)), (.int (6 : Int32)), (.ref b1144)]))
    refine OEnds.st (fun _ k => XS.iload X1182.here hx rfl (hb hby at_192) rfl k) ?_
    show OEnds p.tables e below G (T1182.setTop (mkF m 194 #[.val (.int p1), .val (.int p2), .val (.int p3), .val (.int (3 : Int32)), .val (.int v1143), .val (.ref b1144), .val (.int v1168), .val (.int v1170)] [(.int v1170), (.int (3 : Int32)), (.int (6 : Int32)), (.ref b1144)]))
    refine OEnds.st (fun _ k => XS.iloadN X1182.here hx rfl (hb hby at_194) rfl k) ?_
    show OEnds p.tables e below G (T1182.setTop (mkF m 195 #[.val (.int p1), .val (.int p2), .val (.int p3), .val (.int (3 : Int32)), .val (.int v1143), .val (.ref b1144), .val (.int v1168), .val (.int v1170)] [(.int p1), (.int v1170), (.int (3 : Int32)), (.int (6 : Int32)), (.ref b1144)]))
    refine OEnds.st (fun _ k => XS.iload X1182.here hx rfl (hb hby at_195) rfl k) ?_
    show OEnds p.tables e below G (T1182.setTop (mkF m 197 #[.val (.int p1), .val (.int p2), .val (.int p3), .val (.int (3 : Int32)), .val (.int v1143), .val (.ref b1144), .val (.int v1168), .val (.int v1170)] [(.int v1143), (.int p1), (.int v1170), (.int (3 : Int32)), (.int (6 : Int32)), (.ref b1144)]))
    obtain ⟨_, _, ⟨T1184, L1184, k1184c, n1184c⟩, -, X1184, ⟨Lc1184, hQ1184, l1184, y1184, z1184⟩, st1184⟩ := Jvm.LawKit.callS X1182 hx (y := (⟨"com/example/words_to_weights/wordstoweights/index/IndexFormatPutNumberPinLaw", "at", "([BIIIIB)Z"⟩ : MethodName)) hown (mvT hZ (hw _ (List.mem_of_getElem? (i := 9) rfl))) (mvT hZ (hw _ (List.mem_of_getElem? (i := 10) rfl))) (mvT hZ (hw _ (List.mem_of_getElem? (i := 7) rfl))) (mvT hZ (hw _ (List.mem_of_getElem? (i := 11) rfl))) (by decide) (backOf (W := 0) (rm3 l Z a0 hw [] b1144 (6 : Int32) (3 : Int32) v1170 p1 v1143 k1144 (own_els 3 p1 v1143) (own_el 3 6 p1 v1143) T1164.heap n0 Z1164 p1166 (by decide) (by decide) rfl) hZ (hw _ (List.mem_of_getElem? (i := 11) rfl)) (hw _ (List.mem_of_getElem? (i := 7) rfl)) (by decide) (by decide)) (g := (mkF m 197 #[.val (.int p1), .val (.int p2), .val (.int p3), .val (.int (3 : Int32)), .val (.int v1143), .val (.ref b1144), .val (.int v1168), .val (.int v1170)] [(.int v1143), (.int p1), (.int v1170), (.int (3 : Int32)), (.int (6 : Int32)), (.ref b1144)])) rfl (by rw [hml]; rfl) (argsL := [(.ref b1144), (.int (6 : Int32)), (.int (3 : Int32)), (.int v1170), (.int p1), (.int v1143)]) (rest := []) (lenOf pd_2 rfl) rfl (by show 2 * 0 + _ ≤ _; exact Nat.le_of_eq rfl) (hb hby at_197) (fun _ _ => ⟨rfl, e1182, (by decide : 0 + 1 + 0 + 0 + 0 + 0 + 0 + 0 + 0 + 0 + 0 ≤ _), (by decide : 0 + 9 + 0 + 0 + 0 + 0 + 0 + 0 + 0 + 0 + 0 ≤ _)⟩)
    dsimp only [Pt.U, Pt.locs, Pt.cells, Pt.slots] at X1184 l1184 y1184 z1184 st1184 hQ1184
    subst l1184 y1184 z1184
    obtain ⟨rfl, N1184q, e1184⟩ := hQ1184
    have N1184 := Fr.app N1182 N1184q
    refine OEnds.st st1184 ?_
    show OEnds p.tables e below G (T1184.setTop (mkF m 200 #[.val (.int p1), .val (.int p2), .val (.int p3), .val (.int (3 : Int32)), .val (.int v1143), .val (.ref b1144), .val (.int v1168), .val (.int v1170)] [(.int (own_at (6 : Int32) (3 : Int32) v1170 p1 v1143 (own_el 3 6 p1 v1143)))]))
    have hc200_1185 : ¬ ((own_at (6 : Int32) (3 : Int32) v1170 p1 v1143 (own_el 3 6 p1 v1143)) = (0 : Int32)) := by rw [← hv_v1170, own_ok_3_6 p1 v1143]; decide
    refine OEnds.st (fun _ k => XS.ifNo X1184.here hx rfl (hb hby at_200) rfl ((if0 _ _).trans (feq hc200_1185).1) k) ?_
    show OEnds p.tables e below G (T1184.setTop (mkF m 203 #[.val (.int p1), .val (.int p2), .val (.int p3), .val (.int (3 : Int32)), .val (.int v1143), .val (.ref b1144), .val (.int v1168), .val (.int v1170)] []))
    refine OEnds.st (fun _ k => XS.aload X1184.here hx rfl (hb hby at_203) rfl rfl k) ?_
    show OEnds p.tables e below G (T1184.setTop (mkF m 205 #[.val (.int p1), .val (.int p2), .val (.int p3), .val (.int (3 : Int32)), .val (.int v1143), .val (.ref b1144), .val (.int v1168), .val (.int v1170)] [(.ref b1144)]))
    refine OEnds.st (fun _ k => XS.bipush X1184.here hx rfl (hb hby at_205) k) ?_
    show OEnds p.tables e below G (T1184.setTop (mkF m 207 #[.val (.int p1), .val (.int p2), .val (.int p3), .val (.int (3 : Int32)), .val (.int v1143), .val (.ref b1144), .val (.int v1168), .val (.int v1170)] [(.int (7 : Int32)), (.ref b1144)]))
    refine OEnds.st (fun _ k => XS.iloadN X1184.here hx rfl (hb hby at_207) rfl k) ?_
    show OEnds p.tables e below G (T1184.setTop (mkF m 208 #[.val (.int p1), .val (.int p2), .val (.int p3), .val (.int (3 : Int32)), .val (.int v1143), .val (.ref b1144), .val (.int v1168), .val (.int v1170)] [(.int (3 : Int32)), (.int (7 : Int32)), (.ref b1144)]))
    refine OEnds.st (fun _ k => XS.iload X1184.here hx rfl (hb hby at_208) rfl k) ?_
    show OEnds p.tables e below G (T1184.setTop (mkF m 210 #[.val (.int p1), .val (.int p2), .val (.int p3), .val (.int (3 : Int32)), .val (.int v1143), .val (.ref b1144), .val (.int v1168), .val (.int v1170)] [(.int v1170), (.int (3 : Int32)), (.int (7 : Int32)), (.ref b1144)]))
    refine OEnds.st (fun _ k => XS.iloadN X1184.here hx rfl (hb hby at_210) rfl k) ?_
    show OEnds p.tables e below G (T1184.setTop (mkF m 211 #[.val (.int p1), .val (.int p2), .val (.int p3), .val (.int (3 : Int32)), .val (.int v1143), .val (.ref b1144), .val (.int v1168), .val (.int v1170)] [(.int p1), (.int v1170), (.int (3 : Int32)), (.int (7 : Int32)), (.ref b1144)]))
    refine OEnds.st (fun _ k => XS.iload X1184.here hx rfl (hb hby at_211) rfl k) ?_
    show OEnds p.tables e below G (T1184.setTop (mkF m 213 #[.val (.int p1), .val (.int p2), .val (.int p3), .val (.int (3 : Int32)), .val (.int v1143), .val (.ref b1144), .val (.int v1168), .val (.int v1170)] [(.int v1143), (.int p1), (.int v1170), (.int (3 : Int32)), (.int (7 : Int32)), (.ref b1144)]))
    obtain ⟨_, _, ⟨T1186, L1186, k1186c, n1186c⟩, -, X1186, ⟨Lc1186, hQ1186, l1186, y1186, z1186⟩, st1186⟩ := Jvm.LawKit.callS X1184 hx (y := (⟨"com/example/words_to_weights/wordstoweights/index/IndexFormatPutNumberPinLaw", "at", "([BIIIIB)Z"⟩ : MethodName)) hown (mvT hZ (hw _ (List.mem_of_getElem? (i := 9) rfl))) (mvT hZ (hw _ (List.mem_of_getElem? (i := 10) rfl))) (mvT hZ (hw _ (List.mem_of_getElem? (i := 7) rfl))) (mvT hZ (hw _ (List.mem_of_getElem? (i := 11) rfl))) (by decide) (backOf (W := 0) (rm3 l Z a0 hw [] b1144 (7 : Int32) (3 : Int32) v1170 p1 v1143 k1144 (own_els 3 p1 v1143) (own_el 3 7 p1 v1143) T1164.heap n0 Z1164 p1166 (by decide) (by decide) rfl) hZ (hw _ (List.mem_of_getElem? (i := 11) rfl)) (hw _ (List.mem_of_getElem? (i := 7) rfl)) (by decide) (by decide)) (g := (mkF m 213 #[.val (.int p1), .val (.int p2), .val (.int p3), .val (.int (3 : Int32)), .val (.int v1143), .val (.ref b1144), .val (.int v1168), .val (.int v1170)] [(.int v1143), (.int p1), (.int v1170), (.int (3 : Int32)), (.int (7 : Int32)), (.ref b1144)])) rfl (by rw [hml]; rfl) (argsL := [(.ref b1144), (.int (7 : Int32)), (.int (3 : Int32)), (.int v1170), (.int p1), (.int v1143)]) (rest := []) (lenOf pd_2 rfl) rfl (by show 2 * 0 + _ ≤ _; exact Nat.le_of_eq rfl) (hb hby at_213) (fun _ _ => ⟨rfl, e1184, (by decide : 0 + 1 + 0 + 0 + 0 + 0 + 0 + 0 + 0 + 0 + 0 + 0 ≤ _), (by decide : 0 + 9 + 0 + 0 + 0 + 0 + 0 + 0 + 0 + 0 + 0 + 0 ≤ _)⟩)
    dsimp only [Pt.U, Pt.locs, Pt.cells, Pt.slots] at X1186 l1186 y1186 z1186 st1186 hQ1186
    subst l1186 y1186 z1186
    obtain ⟨rfl, N1186q, e1186⟩ := hQ1186
    have N1186 := Fr.app N1184 N1186q
    refine OEnds.st st1186 ?_
    show OEnds p.tables e below G (T1186.setTop (mkF m 216 #[.val (.int p1), .val (.int p2), .val (.int p3), .val (.int (3 : Int32)), .val (.int v1143), .val (.ref b1144), .val (.int v1168), .val (.int v1170)] [(.int (own_at (7 : Int32) (3 : Int32) v1170 p1 v1143 (own_el 3 7 p1 v1143)))]))
    have hc216_1187 : ¬ ((own_at (7 : Int32) (3 : Int32) v1170 p1 v1143 (own_el 3 7 p1 v1143)) = (0 : Int32)) := by rw [← hv_v1170, own_ok_3_7 p1 v1143]; decide
    refine OEnds.st (fun _ k => XS.ifNo X1186.here hx rfl (hb hby at_216) rfl ((if0 _ _).trans (feq hc216_1187).1) k) ?_
    show OEnds p.tables e below G (T1186.setTop (mkF m 219 #[.val (.int p1), .val (.int p2), .val (.int p3), .val (.int (3 : Int32)), .val (.int v1143), .val (.ref b1144), .val (.int v1168), .val (.int v1170)] []))
    refine OEnds.st (fun _ k => XS.aload X1186.here hx rfl (hb hby at_219) rfl rfl k) ?_
    show OEnds p.tables e below G (T1186.setTop (mkF m 221 #[.val (.int p1), .val (.int p2), .val (.int p3), .val (.int (3 : Int32)), .val (.int v1143), .val (.ref b1144), .val (.int v1168), .val (.int v1170)] [(.ref b1144)]))
    refine OEnds.st (fun _ k => XS.bipush X1186.here hx rfl (hb hby at_221) k) ?_
    show OEnds p.tables e below G (T1186.setTop (mkF m 223 #[.val (.int p1), .val (.int p2), .val (.int p3), .val (.int (3 : Int32)), .val (.int v1143), .val (.ref b1144), .val (.int v1168), .val (.int v1170)] [(.int (8 : Int32)), (.ref b1144)]))
    refine OEnds.st (fun _ k => XS.iloadN X1186.here hx rfl (hb hby at_223) rfl k) ?_
    show OEnds p.tables e below G (T1186.setTop (mkF m 224 #[.val (.int p1), .val (.int p2), .val (.int p3), .val (.int (3 : Int32)), .val (.int v1143), .val (.ref b1144), .val (.int v1168), .val (.int v1170)] [(.int (3 : Int32)), (.int (8 : Int32)), (.ref b1144)]))
    refine OEnds.st (fun _ k => XS.iload X1186.here hx rfl (hb hby at_224) rfl k) ?_
    show OEnds p.tables e below G (T1186.setTop (mkF m 226 #[.val (.int p1), .val (.int p2), .val (.int p3), .val (.int (3 : Int32)), .val (.int v1143), .val (.ref b1144), .val (.int v1168), .val (.int v1170)] [(.int v1170), (.int (3 : Int32)), (.int (8 : Int32)), (.ref b1144)]))
    refine OEnds.st (fun _ k => XS.iloadN X1186.here hx rfl (hb hby at_226) rfl k) ?_
    show OEnds p.tables e below G (T1186.setTop (mkF m 227 #[.val (.int p1), .val (.int p2), .val (.int p3), .val (.int (3 : Int32)), .val (.int v1143), .val (.ref b1144), .val (.int v1168), .val (.int v1170)] [(.int p1), (.int v1170), (.int (3 : Int32)), (.int (8 : Int32)), (.ref b1144)]))
    refine OEnds.st (fun _ k => XS.iload X1186.here hx rfl (hb hby at_227) rfl k) ?_
    show OEnds p.tables e below G (T1186.setTop (mkF m 229 #[.val (.int p1), .val (.int p2), .val (.int p3), .val (.int (3 : Int32)), .val (.int v1143), .val (.ref b1144), .val (.int v1168), .val (.int v1170)] [(.int v1143), (.int p1), (.int v1170), (.int (3 : Int32)), (.int (8 : Int32)), (.ref b1144)]))
    obtain ⟨_, _, ⟨T1188, L1188, k1188c, n1188c⟩, -, X1188, ⟨Lc1188, hQ1188, l1188, y1188, z1188⟩, st1188⟩ := Jvm.LawKit.callS X1186 hx (y := (⟨"com/example/words_to_weights/wordstoweights/index/IndexFormatPutNumberPinLaw", "at", "([BIIIIB)Z"⟩ : MethodName)) hown (mvT hZ (hw _ (List.mem_of_getElem? (i := 9) rfl))) (mvT hZ (hw _ (List.mem_of_getElem? (i := 10) rfl))) (mvT hZ (hw _ (List.mem_of_getElem? (i := 7) rfl))) (mvT hZ (hw _ (List.mem_of_getElem? (i := 11) rfl))) (by decide) (backOf (W := 0) (rm3 l Z a0 hw [] b1144 (8 : Int32) (3 : Int32) v1170 p1 v1143 k1144 (own_els 3 p1 v1143) (own_el 3 8 p1 v1143) T1164.heap n0 Z1164 p1166 (by decide) (by decide) rfl) hZ (hw _ (List.mem_of_getElem? (i := 11) rfl)) (hw _ (List.mem_of_getElem? (i := 7) rfl)) (by decide) (by decide)) (g := (mkF m 229 #[.val (.int p1), .val (.int p2), .val (.int p3), .val (.int (3 : Int32)), .val (.int v1143), .val (.ref b1144), .val (.int v1168), .val (.int v1170)] [(.int v1143), (.int p1), (.int v1170), (.int (3 : Int32)), (.int (8 : Int32)), (.ref b1144)])) rfl (by rw [hml]; rfl) (argsL := [(.ref b1144), (.int (8 : Int32)), (.int (3 : Int32)), (.int v1170), (.int p1), (.int v1143)]) (rest := []) (lenOf pd_2 rfl) rfl (by show 2 * 0 + _ ≤ _; exact Nat.le_of_eq rfl) (hb hby at_229) (fun _ _ => ⟨rfl, e1186, (by decide : 0 + 1 + 0 + 0 + 0 + 0 + 0 + 0 + 0 + 0 + 0 + 0 + 0 ≤ _), (by decide : 0 + 9 + 0 + 0 + 0 + 0 + 0 + 0 + 0 + 0 + 0 + 0 + 0 ≤ _)⟩)
    dsimp only [Pt.U, Pt.locs, Pt.cells, Pt.slots] at X1188 l1188 y1188 z1188 st1188 hQ1188
    subst l1188 y1188 z1188
    obtain ⟨rfl, N1188q, e1188⟩ := hQ1188
    have N1188 := Fr.app N1186 N1188q
    refine OEnds.st st1188 ?_
    show OEnds p.tables e below G (T1188.setTop (mkF m 232 #[.val (.int p1), .val (.int p2), .val (.int p3), .val (.int (3 : Int32)), .val (.int v1143), .val (.ref b1144), .val (.int v1168), .val (.int v1170)] [(.int (own_at (8 : Int32) (3 : Int32) v1170 p1 v1143 (own_el 3 8 p1 v1143)))]))
    have hc232_1189 : ¬ ((own_at (8 : Int32) (3 : Int32) v1170 p1 v1143 (own_el 3 8 p1 v1143)) = (0 : Int32)) := by rw [← hv_v1170, own_ok_3_8 p1 v1143]; decide
    refine OEnds.st (fun _ k => XS.ifNo X1188.here hx rfl (hb hby at_232) rfl ((if0 _ _).trans (feq hc232_1189).1) k) ?_
    show OEnds p.tables e below G (T1188.setTop (mkF m 235 #[.val (.int p1), .val (.int p2), .val (.int p3), .val (.int (3 : Int32)), .val (.int v1143), .val (.ref b1144), .val (.int v1168), .val (.int v1170)] []))
    refine OEnds.st (fun _ k => XS.iconst X1188.here hx rfl (hb hby at_235) k) ?_
    show OEnds p.tables e below G (T1188.setTop (mkF m 236 #[.val (.int p1), .val (.int p2), .val (.int p3), .val (.int (3 : Int32)), .val (.int v1143), .val (.ref b1144), .val (.int v1168), .val (.int v1170)] [(.int (1 : Int32))]))
    refine OEnds.st (fun _ k => XS.goto X1188.here hx rfl (pc0 := 236) (pc' := 240) rfl (hb hby at_236) (by decide) (by decide) k) ?_
    show OEnds p.tables e below G (T1188.setTop (mkF m 240 #[.val (.int p1), .val (.int p2), .val (.int p3), .val (.int (3 : Int32)), .val (.int v1143), .val (.ref b1144), .val (.int v1168), .val (.int v1170)] [(.int (1 : Int32))]))
    rw [← hG]
    refine OEnds.retZ X1188 hx hlk Bd.returns rfl (hb hby at_240) (by decide) (by decide) ?_
    rw [e1188]
    exact ⟨rfl, N1188⟩
set_option maxRecDepth 65536 in
set_option maxHeartbeats 40000000 in
theorem comes_1 {Post : Tables → Env → Array Value → State → Outcome → State → Prop} (hpost : ∀ tb e args s v u, (limb_1_1.after args s (.returned v) u = true ∧ limb_1_2.after args s (.returned v) u = true ∧ True) → FrameEnd s (.returned v) u (Jvm.fieldLocs frame_1_writes args s ++ Jvm.arrayLocs frame_1_arrays args s ++ Jvm.staticLocs frame_1_statics s) 16 128 → Post tb e args s (.returned v) u) :
    ArmFor flags0 classFile x code maxLocals ret World_1 tables_1 room_1 Calls_1 rest_1 Pre_1 Post := by
  intro l hfl _ _ p e ha hc hk s m args below hf hA hF happ hP
  obtain ⟨hcalls, hrest, hpre⟩ := hP
  obtain ⟨-, -, -, hnamed, -, -, -, hat⟩ := (Spec.applies_iff hf).mp happ
  obtain ⟨hg, hn⟩ := and_e (Cond.before_iff.mp (show (Jvm.Cond.and given_1 narrow_1).before args s = true from hpre))
  obtain ⟨gc, gr0⟩ := and_e hg
  obtain ⟨ga0, gr1⟩ := and_e gr0
  obtain ⟨ga1, gr2⟩ := and_e gr1
  obtain ⟨w0, w1, w2, rfl⟩ : ∃ w0 w1 w2 : Value, args = #[w0, w1, w2] := by
    have hs : args.size = 3 := by simpa [Cond.value, given_1] using gc
    obtain ⟨L⟩ := args
    match L, hs with
    | [w0, w1, w2], _ => exact ⟨w0, w1, w2, rfl⟩
  have hw := fun d (hd : d ∈ tables_1) => atoms_spec (ws := Jvm.Cond.code x code maxLocals ret :: tables_1) hat d (List.mem_cons_of_mem _ hd)
  have hfit : Fit s := fun {y c} hc i hi => by
    obtain ⟨ha, rfl⟩ := Array.getElem?_eq_some_iff.mp hc
    have q := List.all_eq_true.mp ((Array.all_eq_true_iff_forall_mem.mp hF) _ (Array.getElem_mem ha)) i (List.mem_range.mpr hi)
    simpa [Array.getElem?_eq_getElem hi] using q
  obtain ⟨i0, ei0⟩ := is_v ga0
  obtain rfl : w0 = (.int i0) := Option.some.inj ei0
  obtain ⟨i1, ei1⟩ := is_v ga1
  obtain rfl : w1 = (.int i1) := Option.some.inj ei1
  obtain ⟨i2, ei2⟩ := is_v gr2
  obtain rfl : w2 = (.int i2) := Option.some.inj ei2
  obtain ⟨n, o, h1, h2, h3, _, L, rfl, ⟨rfl, N⟩, hq⟩ := rm0 l s _ hw tables_1 i0 i1 i2  s.heap s.heap.size (Nat.le_refl _)  p e ha hc hk s m _ below hf ((Spec.applies_iff_loose hf).mp happ).1 ⟨rfl, State.Warmed39.refl s, rfl⟩ trivial
  refine ⟨n, _, h1, h2, h3, hpost _ _ _ _ _ _ ⟨Cond.after_iff.mpr rfl, Cond.after_iff.mpr (eq_i res_at (Term.int_eval (1)) rfl), trivial⟩ ⟨hq.1, hq.2.1, (hq.2.2.sift fun y hy => Or.inr (N y hy)).mono (by decide) (by decide)⟩⟩
theorem main_1_1 : Claimed_1_1 := comes_1 fun _ _ _ _ _ _ h hF => ⟨h.1, hF⟩
theorem main_1_2 : Claimed_1_2 := comes_1 fun _ _ _ _ _ _ h hF => ⟨h.2.1, hF⟩
end Jvm.Pilot.@@N@@
namespace Jvm.Pilot.@@N@@
open Jvm Jvm.ClassFile Sem Op Lib Jvm.Free Jvm.Stand Jvm.Pilot.@@N@@.Jvm.D
/-! MADE BY PROGRAM (witnessworld.py) out of the Statement's table words and the real class files: 9 classes; the members and pool entries that the words name. The judged class is class 1, her method 1. -/
namespace start1
open Jvm.ClassFile
def u (s : String) : CpInfo := .utf8 (stringToUtf16 s)
/-- a pool by its gaps: so many unusable entries, then the entry; so many at the end -/
def gap : Nat → List CpInfo → List CpInfo
  | 0, r => r
  | n + 1, r => .unusable :: gap n r
def poolList (es : List (Nat × CpInfo)) (last : Nat) : List CpInfo := es.foldr (fun e r => gap e.1 (e.2 :: r)) (gap last [])
def pool (es : List (Nat × CpInfo)) (last : Nat) : Array CpInfo := ⟨poolList es last⟩
def fileOf (pool : Array CpInfo) (this : Nat) (attrs : Array Attribute := #[]) (ms : Array MethodInfo := #[]) (fl : Nat := 33) (sup : Nat := 0) (ifs : Array Nat := #[]) (fds : Array FieldInfo := #[]) : ClassFile where
  minorVersion := 0
  majorVersion := 65
  constantPool := pool
  accessFlags := fl
  thisClass := this
  superClass := sup
  interfaces := ifs
  fields := fds
  methods := ms
  attributes := attrs
def plain (name : String) (sup : Option ClassId) : Class where
  name := name
  kind := .ordinary
  loader := none
  accessFlags := 33
  super := sup
  interfaces := #[]
  cf := none
  fields := #[]
  methods := #[]
  instanceTypes := #[]
  staticTypes := #[]
  resolved := #[]
  callSites := []
  init := .initialized
  statics := none
  mirror := none

def pool0 : Array CpInfo := pool [(5, u "<init>"), (0, u "()V"), (1, .class_ 10), (1, u "java/lang/Object")] 113

def k0m0 : Method := { name := "<init>", desc := "()V", sig := { parameters := [], returnType := none }, accessFlags := 1, code := none }
/-- java/lang/Object -/
def k0 : Class := { plain "java/lang/Object" none with
  accessFlags := 33
  interfaces := #[]
  cf := some (fileOf pool0 8 #[] #[{ accessFlags := 1, nameIndex := 5, descriptorIndex := 6, attributes := #[] }] 33 0 #[] #[])
  fields := #[]
  methods := #[k0m0]
  instanceTypes := #[]
  staticTypes := #[]
  resolved := Array.replicate 124 none
  statics := none }

def pool1 : Array CpInfo := pool [(2, .class_ 4), (1, u "java/lang/Object"), (0, u "<init>"), (0, u "()V"), (0, .methodref 8 9), (0, .class_ 10), (0, .nameAndType 11 12), (0, u "com/example/words_to_weights/wordstoweights/index/IndexFormat"), (0, u "putNumber"), (0, u "([BII)I"), (0, .methodref 14 15), (0, .class_ 16), (0, .nameAndType 17 18), (0, u "com/example/words_to_weights/wordstoweights/index/IndexFormatPutNumberPinLaw"), (0, u "length"), (0, u "(I)I"), (0, .methodref 14 20), (0, .nameAndType 21 22), (0, u "at"), (0, u "([BIIIIB)Z"), (0, .integer 4292870144), (0, .integer 4026531840), (2, u "law"), (0, u "(III)Z")] 5

def k1m0 : Method := { name := "<init>", desc := "()V", sig := { parameters := [], returnType := none }, accessFlags := 1, code := none }
def k1c1 : Code := { maxStack := 6, maxLocals := 8, code := code, exceptionTable := #[], attributes := #[] }
def k1m1 : Method := { name := "law", desc := "(III)Z", sig := { parameters := [.int, .int, .int], returnType := some .boolean }, accessFlags := 9, code := some k1c1 }
def k1c2 : Code := { maxStack := 2, maxLocals := 1, code := method_3_code, exceptionTable := #[], attributes := #[] }
def k1m2 : Method := { name := "length", desc := "(I)I", sig := { parameters := [.int], returnType := some .int }, accessFlags := 10, code := some k1c2 }
def k1c3 : Code := { maxStack := 3, maxLocals := 8, code := method_4_code, exceptionTable := #[], attributes := #[] }
def k1m3 : Method := { name := "at", desc := "([BIIIIB)Z", sig := { parameters := [(.array .byte), .int, .int, .int, .int, .byte], returnType := some .boolean }, accessFlags := 10, code := some k1c3 }
/-- com/example/words_to_weights/wordstoweights/index/IndexFormatPutNumberPinLaw -/
def k1 : Class := { plain "com/example/words_to_weights/wordstoweights/index/IndexFormatPutNumberPinLaw" (some 0) with
  accessFlags := 49
  interfaces := #[]
  cf := some (fileOf pool1 14 #[] #[{ accessFlags := 1, nameIndex := 5, descriptorIndex := 6, attributes := #[] }, { accessFlags := 9, nameIndex := 27, descriptorIndex := 28, attributes := #[] }, { accessFlags := 10, nameIndex := 17, descriptorIndex := 18, attributes := #[] }, { accessFlags := 10, nameIndex := 21, descriptorIndex := 22, attributes := #[] }] 49 2 #[] #[])
  fields := #[]
  methods := #[k1m0, k1m1, k1m2, k1m3]
  instanceTypes := #[]
  staticTypes := #[]
  resolved := Array.replicate 34 none
  statics := none }

def pool2 : Array CpInfo := pool [(1, .class_ 2), (0, u "com/example/words_to_weights/wordstoweights/index/IndexFormat"), (1, .class_ 6), (1, u "java/lang/Object"), (0, u "<init>"), (0, u "()V"), (60, u "FILE_NAME"), (0, u "Ljava/lang/String;"), (3, u "PARTIAL_FILE_NAME"), (2, u "LOCK_FILE_NAME"), (2, u "MAGIC"), (0, u "I"), (1, u "VERSION"), (1, u "MAX_NUMBER_BYTES"), (3, u "putNumber"), (0, u "([BII)I"), (9, .class_ 101), (0, u "com/example/words_to_weights/wordstoweights/index/IndexFormat$Bytes")] 16

def k2m0 : Method := { name := "<init>", desc := "()V", sig := { parameters := [], returnType := none }, accessFlags := 2, code := none }
def k2c1 : Code := { maxStack := 4, maxLocals := 5, code := prog_39_method_2_code, exceptionTable := #[], attributes := #[] }
def k2m1 : Method := { name := "putNumber", desc := "([BII)I", sig := { parameters := [(.array .byte), .int, .int], returnType := some .int }, accessFlags := 8, code := some k2c1 }
/-- com/example/words_to_weights/wordstoweights/index/IndexFormat -/
def k2 : Class := { plain "com/example/words_to_weights/wordstoweights/index/IndexFormat" (some 0) with
  accessFlags := 48
  interfaces := #[]
  cf := some (fileOf pool2 1 #[.nestMembers #[100]] #[{ accessFlags := 2, nameIndex := 7, descriptorIndex := 8, attributes := #[] }, { accessFlags := 8, nameIndex := 89, descriptorIndex := 90, attributes := #[] }] 48 4 #[] #[{ accessFlags := 24, nameIndex := 69, descriptorIndex := 70, attributes := #[] }, { accessFlags := 24, nameIndex := 74, descriptorIndex := 70, attributes := #[] }, { accessFlags := 24, nameIndex := 77, descriptorIndex := 70, attributes := #[] }, { accessFlags := 24, nameIndex := 80, descriptorIndex := 81, attributes := #[] }, { accessFlags := 24, nameIndex := 83, descriptorIndex := 81, attributes := #[] }, { accessFlags := 24, nameIndex := 85, descriptorIndex := 81, attributes := #[] }])
  fields := #[{ name := "FILE_NAME", type := (.object "java/lang/String"), accessFlags := 24, slot := 0, constantValue := 0 }, { name := "PARTIAL_FILE_NAME", type := (.object "java/lang/String"), accessFlags := 24, slot := 1, constantValue := 0 }, { name := "LOCK_FILE_NAME", type := (.object "java/lang/String"), accessFlags := 24, slot := 2, constantValue := 0 }, { name := "MAGIC", type := .int, accessFlags := 24, slot := 3, constantValue := 0 }, { name := "VERSION", type := .int, accessFlags := 24, slot := 4, constantValue := 0 }, { name := "MAX_NUMBER_BYTES", type := .int, accessFlags := 24, slot := 5, constantValue := 0 }]
  methods := #[k2m0, k2m1]
  instanceTypes := #[]
  staticTypes := #[(.object "java/lang/String"), (.object "java/lang/String"), (.object "java/lang/String"), .int, .int, .int]
  resolved := Array.replicate 118 none
  statics := none }

def pool3 : Array CpInfo := pool [(1, u "java/lang/Cloneable"), (0, .class_ 1), (0, u "java/lang/Object"), (0, .class_ 3)] 3

/-- java/lang/Cloneable -/
def k3 : Class := { plain "java/lang/Cloneable" (some 0) with
  accessFlags := 1537
  interfaces := #[]
  cf := some (fileOf pool3 2 #[] #[] 1537 4 #[] #[])
  fields := #[]
  methods := #[]
  instanceTypes := #[]
  staticTypes := #[]
  resolved := Array.replicate 8 none
  statics := none }

def pool4 : Array CpInfo := pool [(1, u "java/io/Serializable"), (0, .class_ 1), (0, u "java/lang/Object"), (0, .class_ 3)] 3

/-- java/io/Serializable -/
def k4 : Class := { plain "java/io/Serializable" (some 0) with
  accessFlags := 1537
  interfaces := #[]
  cf := some (fileOf pool4 2 #[] #[] 1537 4 #[] #[])
  fields := #[]
  methods := #[]
  instanceTypes := #[]
  staticTypes := #[]
  resolved := Array.replicate 8 none
  statics := none }

/-- the primitive byte -/
def k5 : Class := { plain "byte" none with kind := .primitive 'B', accessFlags := 0x411 }
/-- [B -/
def k6 : Class := { plain "[B" (some 0) with kind := .array 5 .byte, interfaces := #[3, 4], accessFlags := 1041 }

/-- the primitive int -/
def k7 : Class := { plain "int" none with kind := .primitive 'I', accessFlags := 0x411 }
/-- [I -/
def k8 : Class := { plain "[I" (some 0) with kind := .array 7 .int, interfaces := #[3, 4], accessFlags := 1041 }

def heap : Heap := #[]
def classes : Array Class := #[k0, k1, k2, k3, k4, k5, k6, k7, k8]
def interned : List (Array UInt16 × Addr) := []
def slotsUsed : Nat := 0
def theMethod : MethodId := ⟨1, 1⟩
def args0 : Array Value := #[.int 5, .int 1, .int 7]
def aboutOver (below : List Frame) : State where
  vm := { classes := classes, interned := interned.toArray }
  heap := heap
  slotsUsed := slotsUsed
  threads := #[{ frames := .invoking theMethod args0 :: below }]
def below0 : List Frame := [.native { method := ⟨0, 0⟩, args := #[] }]
def about1 : State := aboutOver below0
def p0 : Program := .bare "" "" ""
def e0 : Env := launch0.env 0 0 0
theorem w_frames : about1.frames = Frame.invoking theMethod args0 :: below0 := rfl
set_option maxRecDepth 65536 in
theorem w_args : argsFit about1.vm theMethod args0 = true := by decide +kernel
set_option maxRecDepth 65536 in
theorem w_heap : heapFits about1 = true := by decide +kernel
set_option maxRecDepth 65536 in
theorem w_runnable : about1.curStatus? = some .runnable := by decide +kernel
set_option maxRecDepth 65536 in
theorem w_alone : about1.alone = true := by decide +kernel
set_option maxRecDepth 65536 in
theorem w_named : about1.methodNamed? x = some theMethod := by decide +kernel
set_option maxRecDepth 65536 in
theorem w_hears : about1.hears theMethod below0 = true := by decide +kernel
set_option maxRecDepth 65536 in
theorem w_ripe : about1.ripe theMethod args0 below0 = true := by decide +kernel
theorem w_running : about1.status = .running := rfl
set_option maxRecDepth 65536 in
theorem w_room : about1.hasRoom e0.platform room_1 = true :=
  launch0.hasRoom_least _ room_1 (by decide +kernel) (by decide +kernel) (by decide +kernel) (by decide +kernel) (by decide +kernel) (by decide +kernel)
theorem allAtoms_all (ts : List Jvm.Cond) (a : Array Jvm.Value) (st : Jvm.State) : (allAtoms ts).before a st = ts.all (fun c => c.before a st) := by
  induction ts with
  | nil => rfl
  | cons c t ih =>
    show (Jvm.Cond.and c (allAtoms t)).before a st = _
    rw [Jvm.Cond.before_and, ih, List.all_cons]
def words1 : List Jvm.Cond := Jvm.Cond.code x code maxLocals ret :: tables_1
/-- a 'code' word, met by the world's own term for the bytes: nothing is compared byte by byte -/
theorem code_word {y : MethodName} {bytes : ByteArray} {mx : Nat} {rt : Option FieldType} {a : Array Value} {s : State} {m : MethodId} {meth : Method} {c : Code} (h1 : s.methodNamed? y = some m) (h2 : s.vm.method? m = some meth) (h3 : meth.code = some c) (h4 : c.code = bytes)
    (h5 : (c.maxLocals == mx && c.exceptionTable.isEmpty && decide (c.maxStack ≤ mostOperands) && decide (meth.sig.returnType = rt) && !meth.locks && decide (parseMethodDescriptor y.desc = some meth.sig)) = true) : (Jvm.Cond.code y bytes mx rt).before a s = true := by
  simp only [Bool.and_eq_true, beq_iff_eq, Bool.not_eq_true', decide_eq_true_eq] at h5
  obtain ⟨⟨⟨⟨⟨g1, g2⟩, g3⟩, g4⟩, g5⟩, g6⟩ := h5
  simp [Cond.before, Cond.holds, Cond.value, h1, h2, h3, h4, g1, g2, g3, g4, g5, g6]
def isCode : Jvm.Cond → Bool
  | .code _ _ _ _ => true
  | _ => false
theorem all_split {L : List Jvm.Cond} {P : Jvm.Cond → Bool} (h1 : L.all (fun c => isCode c || P c) = true) (h2 : ∀ c ∈ L.filter isCode, P c = true) : L.all P = true := by
  refine List.all_eq_true.mpr fun c hc => ?_
  have h := List.all_eq_true.mp h1 c hc
  rcases Bool.eq_false_or_eq_true (isCode c) with hi | hi
  · exact h2 c (List.mem_filter.mpr ⟨hc, hi⟩)
  · simpa [hi] using h
set_option maxRecDepth 65536 in
theorem w_c0 : (Jvm.Cond.code x code maxLocals ret).before args0 about1 = true := code_word (m := ⟨1, 1⟩) (meth := k1m1) (c := k1c1) (by decide +kernel) rfl rfl rfl (by decide +kernel)
set_option maxRecDepth 65536 in
theorem w_c1 : (Jvm.Cond.code ({ cls := "com/example/words_to_weights/wordstoweights/index/IndexFormat", name := "putNumber", desc := "([BII)I" } : Jvm.MethodName) prog_39_method_2_code (5 : Nat) (Option.some Jvm.ClassFile.FieldType.int)).before args0 about1 = true := code_word (m := ⟨2, 1⟩) (meth := k2m1) (c := k2c1) (by decide +kernel) rfl rfl rfl (by decide +kernel)
set_option maxRecDepth 65536 in
theorem w_c2 : (Jvm.Cond.code ({ cls := "com/example/words_to_weights/wordstoweights/index/IndexFormatPutNumberPinLaw", name := "length", desc := "(I)I" } : Jvm.MethodName) method_3_code (1 : Nat) (Option.some Jvm.ClassFile.FieldType.int)).before args0 about1 = true := code_word (m := ⟨1, 2⟩) (meth := k1m2) (c := k1c2) (by decide +kernel) rfl rfl rfl (by decide +kernel)
set_option maxRecDepth 65536 in
theorem w_c3 : (Jvm.Cond.code ({ cls := "com/example/words_to_weights/wordstoweights/index/IndexFormatPutNumberPinLaw", name := "at", desc := "([BIIIIB)Z" } : Jvm.MethodName) method_4_code (8 : Nat) (Option.some Jvm.ClassFile.FieldType.boolean)).before args0 about1 = true := code_word (m := ⟨1, 3⟩) (meth := k1m3) (c := k1c3) (by decide +kernel) rfl rfl rfl (by decide +kernel)
def codes1 : List Jvm.Cond := [Jvm.Cond.code x code maxLocals ret, Jvm.Cond.code ({ cls := "com/example/words_to_weights/wordstoweights/index/IndexFormat", name := "putNumber", desc := "([BII)I" } : Jvm.MethodName) prog_39_method_2_code (5 : Nat) (Option.some Jvm.ClassFile.FieldType.int), Jvm.Cond.code ({ cls := "com/example/words_to_weights/wordstoweights/index/IndexFormatPutNumberPinLaw", name := "length", desc := "(I)I" } : Jvm.MethodName) method_3_code (1 : Nat) (Option.some Jvm.ClassFile.FieldType.int), Jvm.Cond.code ({ cls := "com/example/words_to_weights/wordstoweights/index/IndexFormatPutNumberPinLaw", name := "at", desc := "([BIIIIB)Z" } : Jvm.MethodName) method_4_code (8 : Nat) (Option.some Jvm.ClassFile.FieldType.boolean)]
set_option maxRecDepth 65536 in
theorem codes_eq : words1.filter isCode = codes1 := rfl
theorem w_codes : ∀ c ∈ words1.filter isCode, c.before args0 about1 = true := by
  rw [codes_eq]
  intro c hc
  simp only [codes1, List.mem_cons, List.not_mem_nil, or_false] at hc
  rcases hc with rfl | rfl | rfl | rfl
  · exact w_c0
  · exact w_c1
  · exact w_c2
  · exact w_c3
set_option maxRecDepth 65536 in
theorem w_t1 : words1.all (fun c => isCode c || c.before args0 about1) = true := by decide +kernel
theorem w_tables : (allAtoms (Jvm.Cond.code x code maxLocals ret :: tables_1)).before args0 about1 = true := by
  rw [allAtoms_all]
  show words1.all (fun c => c.before args0 about1) = true
  refine all_split ?_ w_codes
  rw [w_t1]
set_option maxRecDepth 65536 in
theorem w_case : (Jvm.Cond.and given_1 narrow_1).before args0 about1 = true := by decide +kernel
theorem w_applies : (headSpec (Jvm.Cond.code x code maxLocals ret :: tables_1) room_1).applies x e0.platform about1 = true :=
  (Spec.applies_iff w_frames).mpr ⟨w_running, w_runnable, w_alone, w_named, w_hears, w_ripe, w_room, w_tables⟩
theorem atStart : AtStart classFile x code maxLocals ret World_1 tables_1 room_1 Calls_1 rest_1 Pre_1 launch0 p0 e0 about1 theMethod args0 below0 :=
  ⟨lists_1, trivial, launch0.admits_env _ _ _, launch0.least_env, fairChoices_fair.cas, fairChoices_fair.clock, w_frames, w_args, w_heap, w_applies, trivial, trivial, w_case⟩
end start1
theorem witness_1 : WitnessClaimed_1 := ⟨start1.p0, start1.e0, start1.about1, start1.theMethod, start1.args0, start1.below0, start1.atStart⟩
end Jvm.Pilot.@@N@@
