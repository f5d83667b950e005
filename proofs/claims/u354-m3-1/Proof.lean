import JvmDerived
import JvmDerived.Pilot.@@N@@Statement
import JvmDerived.Pilot.@@N@@Code
set_option linter.unusedVariables false
set_option linter.unusedSimpArgs false
namespace Jvm.Pilot.@@N@@
open Jvm Jvm.ClassFile Sem Op Lib Jvm.Free Jvm.Stand Jvm.LawKit Jvm.RoadKit Bundle Jvm.Pilot.@@N@@.Jvm.D
section OwnRoad
variable {p : Program} {l : Launch} {e : Env} {R : Room} {s : State} {m : MethodId} {args : Array Value} {below : List Frame} {meth : Method} {c : Code} {T : State} {locs : List Loc} {cells slots : Nat}
/-- from A the run comes to an end of which G speaks -/
def OEnds (tb : Tables) (e : Env) (below : List Frame) (G : Outcome → State → Prop) (A : State) : Prop := ∃ s₂ o, Steps tb e below A s₂ ∧ s₂.status = .running ∧ Ended s₂ below o ∧ G o s₂
theorem OEnds.st {tb : Tables} {e : Env} {below : List Frame} {G : Outcome → State → Prop} {A B : State} (h : ∀ t, Steps tb e below B t → Steps tb e below A t) (k : OEnds tb e below G B) : OEnds tb e below G A := by
  obtain ⟨s, o, h1, h2⟩ := k
  exact ⟨s, o, h _ h1, h2⟩
def OGoal (Q : Option Value → Heap → List Loc → Prop) (s : State) (C S : Nat) (o : Outcome) (t : State) : Prop := ∃ v L, o = .returned v ∧ Q v t.heap L ∧ FrameEnd s o t L C S
theorem OEnds.out (X : Stand p l e R s m args below meth c T locs cells slots) (hlk : meth.locks = false) {v : Option Value} (hv : meth.sig.returnType = none → v = none) {Q : Option Value → Heap → List Loc → Prop} {C S : Nat} {A : State}
    (st : ∀ fs, (∀ (f : JFrame) (acts : List Action), f.method = m → f.locked = none → f.entered = [] → (doReturn e (T.setTop f) acts v).1 = T.setFrames fs) → Steps p.tables e below A (T.setFrames fs)) (hc : cells ≤ C) (hs : slots ≤ S) (hQ : Q v T.heap locs) : OEnds p.tables e below (OGoal Q s C S) A := by
  obtain ⟨fs, hr, hrun, hended, hW, hsame⟩ := X.leave (v := v) hv hlk
  exact ⟨_, _, st fs hr, hrun, hended, _, _, rfl, hQ, ⟨_, rfl⟩, hW, hsame.mono hc hs⟩
theorem OEnds.retI (X : Stand p l e R s m args below meth c T locs cells slots) (hx : p.tables.exec = Jvm.exec) (hlk : meth.locks = false) (hret : meth.sig.returnType = some .int) {pc : Nat} {Ls : Array Slot} {z : Int32} {rest : List Value} (hd : decode c.code pc = .ok (.ireturn, 1)) {Q : Option Value → Heap → List Loc → Prop} {C S : Nat} (hc : cells ≤ C) (hs : slots ≤ S) (hQ : Q (some (.int z)) T.heap locs) :
    OEnds p.tables e below (OGoal Q s C S) (T.setTop (mkF m pc Ls (.int z :: rest))) :=
  OEnds.out X hlk (fun h => by rw [hret] at h; cases h) (fun fs hr => retOut X hx hret rfl (Or.inl ⟨rfl, Or.inl rfl, _, rfl⟩) hd hr) hc hs hQ
theorem OEnds.retZ (X : Stand p l e R s m args below meth c T locs cells slots) (hx : p.tables.exec = Jvm.exec) (hlk : meth.locks = false) (hret : meth.sig.returnType = some .boolean) {pc : Nat} {Ls : Array Slot} {z : Int32} {rest : List Value} (hz : nar .boolean z = z) (hd : decode c.code pc = .ok (.ireturn, 1)) {Q : Option Value → Heap → List Loc → Prop} {C S : Nat} (hc : cells ≤ C) (hs : slots ≤ S) (hQ : Q (some (.int z)) T.heap locs) :
    OEnds p.tables e below (OGoal Q s C S) (T.setTop (mkF m pc Ls (.int z :: rest))) :=
  OEnds.out X hlk (fun h => by rw [hret] at h; cases h) (fun fs hr => retN X hx (t := .boolean) hret (Or.inl rfl) hd (by rw [hz]; exact hr)) hc hs hQ
theorem OEnds.retB (X : Stand p l e R s m args below meth c T locs cells slots) (hx : p.tables.exec = Jvm.exec) (hlk : meth.locks = false) (hret : meth.sig.returnType = some .byte) {pc : Nat} {Ls : Array Slot} {z : Int32} {rest : List Value} (hz : nar .byte z = z) (hd : decode c.code pc = .ok (.ireturn, 1)) {Q : Option Value → Heap → List Loc → Prop} {C S : Nat} (hc : cells ≤ C) (hs : slots ≤ S) (hQ : Q (some (.int z)) T.heap locs) :
    OEnds p.tables e below (OGoal Q s C S) (T.setTop (mkF m pc Ls (.int z :: rest))) :=
  OEnds.out X hlk (fun h => by rw [hret] at h; cases h) (fun fs hr => retN X hx (t := .byte) hret (Or.inr (Or.inl rfl)) hd (by rw [hz]; exact hr)) hc hs hQ
theorem OEnds.retJ (X : Stand p l e R s m args below meth c T locs cells slots) (hx : p.tables.exec = Jvm.exec) (hlk : meth.locks = false) (hret : meth.sig.returnType = some .long) {pc : Nat} {Ls : Array Slot} {z : Int64} {rest : List Value} (hd : decode c.code pc = .ok (.lreturn, 1)) {Q : Option Value → Heap → List Loc → Prop} {C S : Nat} (hc : cells ≤ C) (hs : slots ≤ S) (hQ : Q (some (.long z)) T.heap locs) :
    OEnds p.tables e below (OGoal Q s C S) (T.setTop (mkF m pc Ls (.long z :: rest))) :=
  OEnds.out X hlk (fun h => by rw [hret] at h; cases h) (fun fs hr => retOut X hx hret rfl (Or.inr (Or.inl ⟨rfl, rfl, _, rfl⟩)) hd hr) hc hs hQ
theorem OEnds.retD (X : Stand p l e R s m args below meth c T locs cells slots) (hx : p.tables.exec = Jvm.exec) (hlk : meth.locks = false) (hret : meth.sig.returnType = some .double) {pc : Nat} {Ls : Array Slot} {z : UInt64} {rest : List Value} (hd : decode c.code pc = .ok (.dreturn, 1)) {Q : Option Value → Heap → List Loc → Prop} {C S : Nat} (hc : cells ≤ C) (hs : slots ≤ S) (hQ : Q (some (.double z)) T.heap locs) :
    OEnds p.tables e below (OGoal Q s C S) (T.setTop (mkF m pc Ls (.double z :: rest))) :=
  OEnds.out X hlk (fun h => by rw [hret] at h; cases h) (fun fs hr => retOut X hx hret rfl (Or.inr (Or.inr (Or.inl ⟨rfl, rfl, _, rfl⟩))) hd hr) hc hs hQ
theorem OEnds.retA (X : Stand p l e R s m args below meth c T locs cells slots) (hx : p.tables.exec = Jvm.exec) (hlk : meth.locks = false) {t : FieldType} (hret : meth.sig.returnType = some t) {pc : Nat} {Ls : Array Slot} {w : Value} {rest : List Value} (hw : w.isRef = true) (ht : t.isReference = true) (hd : decode c.code pc = .ok (.areturn, 1)) {Q : Option Value → Heap → List Loc → Prop} {C S : Nat} (hc : cells ≤ C) (hs : slots ≤ S) (hQ : Q (some w) T.heap locs) :
    OEnds p.tables e below (OGoal Q s C S) (T.setTop (mkF m pc Ls (w :: rest))) :=
  OEnds.out X hlk (fun h => by rw [hret] at h; cases h) (fun fs hr => retOut X hx hret (by cases t <;> cases w <;> first | rfl | (cases ht; done) | (cases hw; done)) (Or.inr (Or.inr (Or.inr (Or.inr ⟨rfl, ht, hw⟩)))) hd hr) hc hs hQ
theorem OEnds.retV (X : Stand p l e R s m args below meth c T locs cells slots) (hx : p.tables.exec = Jvm.exec) (hlk : meth.locks = false) (hret : meth.sig.returnType = none) {pc : Nat} {Ls : Array Slot} (hd : decode c.code pc = .ok (.return_, 1)) {Q : Option Value → Heap → List Loc → Prop} {C S : Nat} (hc : cells ≤ C) (hs : slots ≤ S) (hQ : Q none T.heap locs) :
    OEnds p.tables e below (OGoal Q s C S) (T.setTop (mkF m pc Ls [])) :=
  OEnds.out X hlk (fun _ => rfl) (fun fs hr => X.returnOut hx hret hd hr) hc hs hQ
def OGoalW (Q : Option Value → Heap → List Loc → Prop) (s : State) (C S : Nat) (o : Outcome) (t : State) : Prop := ∃ v L, o = .returned v ∧ Q v t.heap L ∧ Jvm.ReturnedEndW s o t L C S
theorem own_growW {s t : State} {o : Outcome} {L : List Loc} {k n k' n' : Nat} (h : Jvm.ReturnedEndW s o t L k n) (hk : k ≤ k') (hn : n ≤ n') : Jvm.ReturnedEndW s o t L k' n' := ⟨h.1, h.2.1, h.2.2.1, h.2.2.2.mono hk hn⟩
theorem OEnds.retZW {vm0 : Vm} (X : Stand p l e R (s.setVm vm0) m args below meth c T locs cells slots) {n : Nat} (hS : s.Since vm0 n) (hn : n ≤ T.heap.size) (hx : p.tables.exec = Jvm.exec) (hlk : meth.locks = false) (hret : meth.sig.returnType = some .boolean) {pc : Nat} {Ls : Array Slot} {z : Int32} {rest : List Value} (hz : nar .boolean z = z) (hd : decode c.code pc = .ok (.ireturn, 1)) {Q : Option Value → Heap → List Loc → Prop} {C S : Nat} (hc : cells ≤ C) (hs : slots ≤ S) (hQ : Q (some (.int z)) T.heap locs) :
    OEnds p.tables e below (OGoalW Q s C S) (T.setTop (mkF m pc Ls (.int z :: rest))) := by
  obtain ⟨fs, hr, hrun, hended, hW⟩ := X.leaveW hS hn (v := some (.int z)) (fun h => by rw [hret] at h; cases h) hlk
  exact ⟨_, _, retN X hx (t := .boolean) hret (Or.inl rfl) hd (by rw [hz]; exact hr), hrun, hended, _, _, rfl, hQ, own_growW hW hc hs⟩
theorem own_b8 (x : Int32) : nar .byte (x.toInt8.toInt32) = x.toInt8.toInt32 := by
  show (x.toInt8.toInt32).toInt8.toInt32 = _
  rw [Int8.toInt8_toInt32]
theorem own_selP {s : State} {args : Array Value} {n : Nat} {y : MethodName} (hins : (Jvm.Cond.instantiable y.cls n).before args s = true) (hpriv : (Jvm.Cond.privateMethod y).before args s = true) (hinst : (Jvm.Cond.instanceMethod y).before args s = true) (hy : y.cls ≠ "java/lang/invoke/MethodHandle" ∧ y.cls ≠ "java/lang/invoke/VarHandle") :
    (Jvm.Cond.selects y.cls y y).before args s = true := by
  obtain ⟨c, k, hc, hk, -, hniab, -, -⟩ := Cond.instantiable_spec hins
  have hni : k.isInterface = false := (Bool.or_eq_false_iff.mp hniab).1
  obtain ⟨mk, methM, hnamed, hmethM, -, -⟩ := Cond.instanceMethod_spec hinst
  have hfound : s.methodFound? y.cls y.name y.desc = some mk := State.methodFound?_of_named hnamed hy
  have hcls : mk.cls = c := Option.some.inj ((findClass_of_methodNamed hnamed).symm.trans hc)
  have hsel : selectMethod {} s.vm c mk = .method mk := selectMethod_private hmethM (Cond.privateMethod_at hpriv mk methM hnamed hmethM)
  simp only [Cond.before, Cond.holds, Cond.value, hc, hfound, hnamed, hsel, hcls, hk]
  simp; exact hni
theorem own_exa_ns {Z : State} {h : Heap} {a : Addr} {C : String} (E : Exa Z h a C) : ∀ cell : Cell, h[a]? = some cell → cell.vm.isStatics = false := fun cell q => by
  obtain ⟨c, k, h1, -, -, h4, -⟩ := E
  cases h1.symm.trans q
  exact h4
theorem own_Sta_keep {Z : State} {h h' : Heap} {C n d : String} {v : Value} {ws : List Addr} (F : Sta Z h C n d v) (K : Keep h h' ws) (q : ∀ x ∈ ws, ∀ cell : Cell, h[x]? = some cell → cell.vm.isStatics = false) : Sta Z h' C n d v := by
  obtain ⟨cf, i, k, f, st, cell, h1, h2, h3, h4, h5, h6, h7⟩ := F
  refine ⟨cf, i, k, f, st, cell, h1, h2, h3, h4, K.2.1 _ _ h5 (fun hm => ?_), h6, h7⟩
  rw [q _ hm _ h5] at h6
  cases h6
theorem own_grow (X : Stand p l e R s m args below meth c T locs cells slots) {C S : Nat} (hc : cells ≤ C) (hs : slots ≤ S) : Stand p l e R s m args below meth c T locs C S :=
  ⟨X.admits, X.cas, X.clock, X.frames, X.room, X.hears, X.method, X.code, X.here, X.tail, X.warmed, X.limits, X.bytes, X.same.mono hc hs⟩
end OwnRoad
section OwnFloat
open Jvm.FP.Core
/-- a finite double of sign +, its magnitude in units of the least double -/
def Pz (a : UInt64) (M : Nat) : Prop := ∃ c q, val64 a = .fin false c q ∧ inUnits c q b64.qmin = M
theorem own_q0 : b64.qmin ≤ 0 := by rw [qmin_b64]; decide
theorem Pz.ne {a : UInt64} {M : Nat} (h : Pz a M) : val64 a ≠ .nan := by
  obtain ⟨c, q, hv, -⟩ := h
  rw [hv]; exact Datum.noConfusion
theorem Pz.nn {a : UInt64} {M : Nat} (h : Pz a M) : Fl.NoNaN64 a := Fl.val64_no.mpr h.ne
theorem Pz.fin {a : UInt64} {M : Nat} (h : Pz a M) : DFin a := by
  obtain ⟨c, q, hv, -⟩ := h
  exact ⟨false, c, q, hv⟩
theorem Pz.z {a : UInt64} {M : Nat} (h : Pz a M) : zmag b64 (val64 a) = M := by
  obtain ⟨c, q, hv, hm⟩ := h
  rw [hv]; exact hm
theorem Pz.zv {a : UInt64} {M : Nat} (h : Pz a M) : zval b64 (val64 a) = (M : Int) := by
  obtain ⟨c, q, hv, hm⟩ := h
  rw [hv, ← hm]; rfl
theorem Pz.uniq {a : UInt64} {M N : Nat} (h : Pz a M) (k : Pz a N) : M = N := by rw [← h.z, ← k.z]
theorem own_cmp {a b : UInt64} {A B : Nat} (ha : Pz a A) (hb : Pz b B) : FP.dcmp a b = some (compare (A : Int) (B : Int)) := by
  have q := dcmp_zval ha.ne hb.ne
  rw [ha.zv, hb.zv] at q
  exact q
theorem own_c3 {a b : UInt64} {A B : Nat} (ha : Pz a A) (hb : Pz b B) (o : CmpOp) : (A < B ∧ cmpValue (FP.dcmp a b) o = -1) ∨ (A = B ∧ cmpValue (FP.dcmp a b) o = 0) ∨ (B < A ∧ cmpValue (FP.dcmp a b) o = 1) := by
  rw [own_cmp ha hb]
  by_cases h1 : A < B
  · exact Or.inl ⟨h1, by rw [(compare_lt_iff (A : Int) (B : Int)).mpr (by omega)]; rfl⟩
  · by_cases h2 : A = B
    · exact Or.inr (Or.inl ⟨h2, by rw [(compare_eq_iff (A : Int) (B : Int)).mpr (by omega)]; rfl⟩)
    · exact Or.inr (Or.inr ⟨by omega, by rw [(compare_gt_iff (A : Int) (B : Int)).mpr (by omega)]; rfl⟩)
theorem own_ceq {a b : UInt64} {A B : Nat} (ha : Pz a A) (hb : Pz b B) (o : CmpOp) : cmpValue (FP.dcmp a b) o = (0 : Int32) ↔ A = B := by
  rcases own_c3 ha hb o with ⟨h, e⟩ | ⟨h, e⟩ | ⟨h, e⟩ <;> rw [e]
  · exact ⟨fun q => absurd q (by decide), fun q => by omega⟩
  · exact ⟨fun _ => h, fun _ => rfl⟩
  · exact ⟨fun q => absurd q (by decide), fun q => by omega⟩
theorem own_clt {a b : UInt64} {A B : Nat} (ha : Pz a A) (hb : Pz b B) (o : CmpOp) : cmpValue (FP.dcmp a b) o < (0 : Int32) ↔ A < B := by
  rcases own_c3 ha hb o with ⟨h, e⟩ | ⟨h, e⟩ | ⟨h, e⟩ <;> rw [e]
  · exact ⟨fun _ => h, fun _ => by decide⟩
  · exact ⟨fun q => absurd q (by decide), fun q => by omega⟩
  · exact ⟨fun q => absurd q (by decide), fun q => by omega⟩
theorem own_cgt {a b : UInt64} {A B : Nat} (ha : Pz a A) (hb : Pz b B) (o : CmpOp) : (0 : Int32) < cmpValue (FP.dcmp a b) o ↔ B < A := by
  rcases own_c3 ha hb o with ⟨h, e⟩ | ⟨h, e⟩ | ⟨h, e⟩ <;> rw [e]
  · exact ⟨fun q => absurd q (by decide), fun q => by omega⟩
  · exact ⟨fun q => absurd q (by decide), fun q => by omega⟩
  · exact ⟨fun _ => h, fun _ => by decide⟩
theorem own_Pz0 : Pz (0 : UInt64) 0 := ⟨0, b64.qmin, val64_zero, by show 0 * 2 ^ (b64.qmin - b64.qmin).toNat = 0; rw [Nat.zero_mul]⟩
theorem own_l2d {a : Int64} (h0 : 0 ≤ a.toInt) (h1 : a.toInt < 9007199254740992) : Pz (FP.l2d a) (a.toInt.toNat * one64) := by
  obtain ⟨c, q, hv⟩ := l2d_shape a
  rw [show decide (a.toInt < 0) = false from decide_eq_false (by omega)] at hv
  refine ⟨c, q, hv, ?_⟩
  have w : DInt a.toInt (FP.Core.l2d a) := l2d_whole (a := a) ⟨by omega, h1⟩
  have z := DInt_zval w
  rw [hv] at z
  have z2 : ((inUnits c q b64.qmin : Nat) : Int) = a.toInt * (one64 : Int) := z
  have e : ((a.toInt.toNat : Nat) : Int) = a.toInt := Int.toNat_of_nonneg h0
  have z3 : ((inUnits c q b64.qmin : Nat) : Int) = ((a.toInt.toNat * one64 : Nat) : Int) := by rw [Int.natCast_mul, e]; exact z2
  exact Int.ofNat_inj.mp z3
theorem own_i2d {a : Int32} (h0 : 0 ≤ a.toInt) : Pz (FP.i2d a) (a.toInt.toNat * one64) := by
  have e : FP.i2d a = FP.l2d a.toInt64 := FP.Core.i2d_l2d a
  have t : a.toInt64.toInt = a.toInt := Int32.toInt_toInt64 a
  have b := rng32 a
  rw [e, ← t]
  exact own_l2d (by omega) (by omega)
theorem own_div {a b : UInt64} {A B : Nat} (ha : Pz a A) (hb : Pz b B) (hB : 0 < B) : val64 (FP.ddiv a b) = roundRatio b64 false A B 0 := by
  obtain ⟨c, q, hv, hm⟩ := ha
  obtain ⟨d, r, hw, hn⟩ := hb
  have f1 := val64_fits a
  have f2 := val64_fits b
  rw [hv] at f1
  rw [hw] at f2
  have hq : b64.qmin ≤ q := f1.2.1
  have hr : b64.qmin ≤ r := f2.2.1
  have hd : ¬ d = 0 := by
    intro h
    subst h
    rw [← hn] at hB
    have : (0 : Nat) * 2 ^ (r - b64.qmin).toNat = 0 := Nat.zero_mul _
    exact absurd hB (by show ¬ 0 < 0 * 2 ^ (r - b64.qmin).toNat; rw [this]; exact Nat.lt_irrefl 0)
  have e0 : val64 (FP.ddiv a b) = quotient b64 (val64 a) (val64 b) := val64_ddiv a b
  rw [e0, hv, hw]
  have e1 : quotient b64 (.fin false c q) (.fin false d r) = if d = 0 then (if c = 0 then .nan else .inf (false != false)) else roundRatio b64 (false != false) c d (q - r) := rfl
  rw [e1, if_neg hd]
  have e2 : roundRatio b64 (false != false) c d (q - r) = roundRatio b64 false c d (q - r) := rfl
  rw [e2]
  refine roundRatio_congr (Nat.pos_of_ne_zero hd) hB ?_
  rw [← hm, ← hn]
  show c * (d * 2 ^ (r - b64.qmin).toNat) * 2 ^ (q - r - 0).toNat = (c * 2 ^ (q - b64.qmin).toNat) * d * 2 ^ (0 - (q - r)).toNat
  have e : (r - b64.qmin).toNat + (q - r - 0).toNat = (q - b64.qmin).toNat + (0 - (q - r)).toNat := by omega
  have e3 : c * (d * 2 ^ (r - b64.qmin).toNat) * 2 ^ (q - r - 0).toNat = c * d * 2 ^ ((r - b64.qmin).toNat + (q - r - 0).toNat) := by rw [Nat.pow_add]; ac_rfl
  rw [e3, e, Nat.pow_add]
  ac_rfl
theorem own_rep {k j : Nat} (hk : k < 9007199254740992) (hj : j ≤ 1074) : ∃ V : Datum, FP.Core.fits b64 V ∧ (∃ c q, V = .fin false c q) ∧ zmag b64 V = k * 2 ^ (1074 - j) := by
  have q1 : b64.qmin = -1074 := qmin_b64
  have q2 : b64.qmax = 971 := by decide
  obtain ⟨c', q', h1, h2⟩ := round_exact good_b64 false (c := k) (q := -(j : Int)) (Nat.lt_of_lt_of_le hk (Nat.le_of_eq (by decide +kernel))) (by omega) (by omega)
  refine ⟨FP.Core.round b64 (.fin false k (-(j : Int))), round_fits good_b64 _, ⟨c', q', h1⟩, ?_⟩
  rw [h1]
  show inUnits c' q' b64.qmin = _
  rw [h2]
  show k * 2 ^ (-(j : Int) - b64.qmin).toNat = _
  rw [show (-(j : Int) - b64.qmin).toNat = 1074 - j by omega]
theorem own_units (A j : Nat) (hj : j ≤ 1074) : inUnits A 0 b64.qmin = A * 2 ^ j * 2 ^ (1074 - j) := by
  have q1 : b64.qmin = -1074 := qmin_b64
  show A * 2 ^ (0 - b64.qmin).toNat = _
  rw [show (0 - b64.qmin).toNat = j + (1074 - j) by omega, Nat.pow_add, Nat.mul_assoc]
theorem own_le {A B k j : Nat} (hB : 0 < B) (hk : k < 9007199254740992) (hj : j ≤ 1074) (h : A * 2 ^ j ≤ k * B) : zmag b64 (roundRatio b64 false A B 0) ≤ k * 2 ^ (1074 - j) := by
  obtain ⟨V, h1, ⟨c, q, h2⟩, h4⟩ := own_rep hk hj
  have hn : V ≠ .nan := by rw [h2]; exact Datum.noConfusion
  have r := zmag_roundRatio_le good_b64 (s := false) (A := A) (e := 0) (e0 := b64.qmin) hB h1 hn (Int.le_refl _) own_q0 (by
    rw [h4, own_units A j hj, Int.sub_self, Int.toNat_zero, Nat.pow_zero, Nat.mul_one, Nat.mul_right_comm k]
    exact Nat.mul_le_mul_right _ h)
  rw [h4] at r
  exact r
theorem own_ge {A B k j : Nat} (hB : 0 < B) (hk : k < 9007199254740992) (hj : j ≤ 1074) (h : k * B ≤ A * 2 ^ j) : k * 2 ^ (1074 - j) ≤ zmag b64 (roundRatio b64 false A B 0) := by
  obtain ⟨V, h1, ⟨c, q, h2⟩, h4⟩ := own_rep hk hj
  have r := zmag_roundRatio_ge good_b64 (s := false) (A := A) (e := 0) (e0 := b64.qmin) hB h1 (Int.le_refl _) own_q0 (by
    rw [h4, own_units A j hj, Int.sub_self, Int.toNat_zero, Nat.pow_zero, Nat.mul_one, Nat.mul_right_comm k]
    exact Nat.mul_le_mul_right _ h)
  rw [h4] at r
  exact r
theorem own_topR {k j : Nat} (hk : k < 9007199254740992) (hj : j ≤ 1074) : k * 2 ^ (1074 - j) < b64.tails * 2 ^ (b64.exps - 2) := by
  obtain ⟨V, h1, ⟨c, q, h2⟩, h4⟩ := own_rep hk hj
  rw [← h4, h2]
  rw [h2] at h1
  exact zmag_lt_top good_b64 h1
/-- a quotient that isn't above k / 2^j -/
theorem own_quot {a b : UInt64} {A B k j : Nat} (ha : Pz a A) (hb : Pz b B) (hB : 0 < B) (hk : k < 9007199254740992) (hj : j ≤ 1074) (h : A * 2 ^ j ≤ k * B) : Pz (FP.ddiv a b) (zmag b64 (roundRatio b64 false A B 0)) := by
  have e := own_div ha hb hB
  have l := own_le hB hk hj h
  rcases roundRatio_cases b64 false A B 0 with ⟨c, q, r⟩ | r
  · rw [r] at e ⊢
    exact ⟨c, q, e, rfl⟩
  · rw [r] at l
    have l' : b64.tails * 2 ^ (b64.exps - 2) ≤ k * 2 ^ (1074 - j) := l
    exact absurd (own_topR hk hj) (Nat.not_lt.mpr l')
theorem own_scale {n r k j : Nat} (h : n * 2 ^ j ≤ k * r) : n * one64 * 2 ^ j ≤ k * (r * one64) := by
  rw [Nat.mul_right_comm n, ← Nat.mul_assoc k]
  exact Nat.mul_le_mul_right _ h
theorem own_scale' {n r k j : Nat} (h : k * r ≤ n * 2 ^ j) : k * (r * one64) ≤ n * one64 * 2 ^ j := by
  rw [Nat.mul_right_comm n, ← Nat.mul_assoc k]
  exact Nat.mul_le_mul_right _ h
theorem own_one (k : Nat) : k * one64 = k * 2 ^ (1074 - 0) := rfl
/-- rounding is monotone -/
theorem own_mono {A A' B : Nat} (hB : 0 < B) (hA : A ≤ A') : zmag b64 (roundRatio b64 false A B 0) ≤ zmag b64 (roundRatio b64 false A' B 0) := by
  rcases roundRatio_cases b64 false A' B 0 with ⟨c', q', r'⟩ | r'
  · rcases roundRatio_cases b64 false A B 0 with ⟨c, q, r⟩ | r
    · have f := roundRatio_fits good_b64 false A hB 0
      have f' := roundRatio_fits good_b64 false A' hB 0
      have h1 := r
      have h2 := r'
      rw [r] at f ⊢
      rw [r'] at f' ⊢
      have d1 := roundRatio_nearest good_b64 (e0 := b64.qmin) hB h1 f'.1 f'.2.1 (Int.le_refl _) own_q0
      have d2 := roundRatio_nearest good_b64 (e0 := b64.qmin) hB h2 f.1 f.2.1 (Int.le_refl _) own_q0
      show inUnits c q b64.qmin ≤ inUnits c' q' b64.qmin
      have d1' : ((inUnits A 0 b64.qmin : Int) - (inUnits c q b64.qmin : Int) * (B : Int)).natAbs ≤ ((inUnits A 0 b64.qmin : Int) - (inUnits c' q' b64.qmin : Int) * (B : Int)).natAbs := d1
      have d2' : ((inUnits A' 0 b64.qmin : Int) - (inUnits c' q' b64.qmin : Int) * (B : Int)).natAbs ≤ ((inUnits A' 0 b64.qmin : Int) - (inUnits c q b64.qmin : Int) * (B : Int)).natAbs := d2
      rw [← Int.natCast_mul, ← Int.natCast_mul] at d1' d2'
      refine Nat.le_of_not_lt fun hlt => ?_
      have k1 := Nat.mul_lt_mul_of_pos_right hlt hB
      have e1 := own_units A 0 (by decide)
      have e2 := own_units A' 0 (by decide)
      rw [Nat.pow_zero, Nat.mul_one] at e1 e2
      have k2 : inUnits A 0 b64.qmin ≤ inUnits A' 0 b64.qmin := by rw [e1, e2]; exact Nat.mul_le_mul_right _ hA
      have k3 : inUnits A 0 b64.qmin = inUnits A' 0 b64.qmin := by
        generalize inUnits A 0 b64.qmin = x at *
        generalize inUnits A' 0 b64.qmin = x' at *
        generalize inUnits c q b64.qmin * B = u at *
        generalize inUnits c' q' b64.qmin * B = v at *
        omega
      rw [e1, e2] at k3
      have k4 : A = A' := Nat.eq_of_mul_eq_mul_right (Nat.two_pow_pos _) k3
      subst k4
      rw [h1] at h2
      cases h2
      exact Nat.lt_irrefl _ hlt
    · exfalso
      have i1 := (roundRatio_inf good_b64 (e0 := b64.qmin - 1) hB (by omega) (by have := own_q0; omega)).mp r
      have i3 : inUnits A 0 (b64.qmin - 1) ≤ inUnits A' 0 (b64.qmin - 1) := Nat.mul_le_mul_right (2 ^ (0 - (b64.qmin - 1)).toNat) hA
      have i2 : roundRatio b64 false A' B 0 = .inf false := (roundRatio_inf good_b64 (e0 := b64.qmin - 1) hB (by omega) (by have := own_q0; omega)).mpr (Nat.le_trans i1 i3)
      rw [r'] at i2
      cases i2
  · rw [r']
    exact zmag_le_top good_b64 (roundRatio_fits good_b64 false A hB 0)
theorem own_sum (c d : Nat) (q r : Int) : ∃ n e, exactSum (.fin false c q) (.fin false d r) = .fin false n e := by
  have h : 0 ≤ sumUnits false c q false d r (min q r) := by
    show (0 : Int) ≤ ((inUnits c q (min q r) : Nat) : Int) + ((inUnits d r (min q r) : Nat) : Int)
    omega
  have e1 : exactSum (.fin false c q) (.fin false d r) = .fin (sumSign false false (sumUnits false c q false d r (min q r))) (sumUnits false c q false d r (min q r)).natAbs (min q r) := rfl
  have e2 : sumSign false false (sumUnits false c q false d r (min q r)) = if sumUnits false c q false d r (min q r) = 0 then (false && false) else decide (sumUnits false c q false d r (min q r) < 0) := rfl
  have e3 : sumSign false false (sumUnits false c q false d r (min q r)) = false := by
    rw [e2]
    by_cases z : sumUnits false c q false d r (min q r) = 0
    · rw [if_pos z]; rfl
    · rw [if_neg z]; exact decide_eq_false (by omega)
  rw [e3] at e1
  exact ⟨_, _, e1⟩
/-- a sum that isn't above k -/
theorem own_add {a b : UInt64} {A B k : Nat} (ha : Pz a A) (hb : Pz b B) (hk : k < 9007199254740992) (h : A + B ≤ k * one64) : ∃ M, Pz (FP.dadd a b) M ∧ M ≤ k * one64 := by
  have za := ha.zv
  have zb := hb.zv
  obtain ⟨c, q, hv, hm⟩ := ha
  obtain ⟨d, r, hw, hn⟩ := hb
  have f1 := val64_fits a
  have f2 := val64_fits b
  rw [hv] at f1 za
  rw [hw] at f2 zb
  obtain ⟨sg, n, e, h1, h2, h3⟩ := sum_units f1 f2
  obtain ⟨n', e', h4⟩ := own_sum c d q r
  rw [h1] at h4
  have hs : sg = false := by cases h4; rfl
  subst hs
  rw [za, zb] at h3
  have h5 : ((inUnits n e b64.qmin : Nat) : Int) = (A : Int) + (B : Int) := h3
  have e0 : val64 (FP.dadd a b) = FP.Core.round b64 (exactSum (val64 a) (val64 b)) := val64_dadd a b
  rw [hv, hw, h1] at e0
  have e1 : FP.Core.round b64 (.fin false n e) = roundRatio b64 false n 1 e := rfl
  rw [e1] at e0
  obtain ⟨V, v1, ⟨vc, vq, v2⟩, v4⟩ := own_rep hk (Nat.zero_le 1074)
  have hn : V ≠ .nan := by rw [v2]; exact Datum.noConfusion
  have l := zmag_roundRatio_le good_b64 (s := false) (A := n) (B := 1) (e := e) (e0 := b64.qmin) (by decide) v1 hn (Int.le_refl _) h2 (by
    rw [v4, Int.sub_self, Int.toNat_zero, Nat.pow_zero, Nat.mul_one, Nat.mul_one, ← own_one k]
    omega)
  rw [v4, ← own_one k] at l
  rcases roundRatio_cases b64 false n 1 e with ⟨c2, q2, r2⟩ | r2
  · rw [r2] at e0 l
    exact ⟨_, ⟨c2, q2, e0, rfl⟩, l⟩
  · rw [r2] at l
    have l' : b64.tails * 2 ^ (b64.exps - 2) ≤ k * 2 ^ (1074 - 0) := l
    exact absurd (own_topR hk (Nat.zero_le 1074)) (Nat.not_lt.mpr l')
end OwnFloat
def own_mx (a b : Int32) : Int32 := if a < b then b else a
def own_rc (b : UInt64) (rel : Int32) : UInt64 := if rel = (0 : Int32) then 0 else FP.ddiv b (FP.i2d rel)
theorem own_mxge (a b : Int32) : a.toInt ≤ (own_mx a b).toInt ∧ b.toInt ≤ (own_mx a b).toInt := by
  unfold own_mx
  by_cases h : a < b
  · rw [if_pos h]; rw [Int32.lt_iff_toInt_lt] at h; omega
  · rw [if_neg h]; rw [Int32.lt_iff_toInt_lt] at h; omega
theorem own_bd {g1 g2 g3 r1 r2 r3 : Int32} (h1 : (1 : Int32) + (g1 &&& (255 : Int32)) = r1) (h2 : (r1 + (1 : Int32)) + (g2 &&& (255 : Int32)) = r2) (h3 : (r2 + (1 : Int32)) + (g3 &&& (255 : Int32)) = r3) : 1 ≤ r1.toInt ∧ r1.toInt ≤ 256 ∧ r1.toInt < r2.toInt ∧ r2.toInt ≤ 512 ∧ r2.toInt < r3.toInt ∧ r3.toInt ≤ 768 := by
  have e1 := c_mask g1 (255 : Int32) 8 (by decide) (by decide)
  have e2 := c_mask g2 (255 : Int32) 8 (by decide) (by decide)
  have e3 := c_mask g3 (255 : Int32) 8 (by decide) (by decide)
  generalize (g1 &&& (255 : Int32)) = x1 at *
  generalize (g2 &&& (255 : Int32)) = x2 at *
  generalize (g3 &&& (255 : Int32)) = x3 at *
  have k1 : (1 : Int32).toInt = 1 := by decide
  have a1 := c_iadd (1 : Int32) x1
  have a2 := c_iadd r1 (1 : Int32)
  have a3 := c_iadd (r1 + (1 : Int32)) x2
  have a4 := c_iadd r2 (1 : Int32)
  have a5 := c_iadd (r2 + (1 : Int32)) x3
  rw [h1] at a1
  rw [h2] at a3
  rw [h3] at a5
  have b1 := rng32 r1
  have b2 := rng32 r2
  have b3 := rng32 r3
  have b4 := rng32 (r1 + (1 : Int32))
  have b5 := rng32 (r2 + (1 : Int32))
  have f1 : r1.toInt = 1 + x1.toInt := by omega
  have f2 : (r1 + (1 : Int32)).toInt = r1.toInt + 1 := by omega
  have f3 : r2.toInt = r1.toInt + 1 + x2.toInt := by omega
  have f4 : (r2 + (1 : Int32)).toInt = r2.toInt + 1 := by omega
  have f5 : r3.toInt = r2.toInt + 1 + x3.toInt := by omega
  omega
theorem own_ret {last w v : Int32} (h : 0 ≤ last.toInt ∧ last.toInt ≤ 768) (hv : own_mx (1 : Int32) (last + (w &&& (65535 : Int32))) = v) {r : Int32} (hr : r.toInt ≤ last.toInt) : ¬ (v < r) := by
  have e1 := c_mask w (65535 : Int32) 16 (by decide) (by decide)
  generalize (w &&& (65535 : Int32)) = x at *
  have a1 := c_iadd last x
  have b1 := rng32 (last + x)
  have b2 := (own_mxge (1 : Int32) (last + x)).2
  rw [hv] at b2
  rw [Int32.lt_iff_toInt_lt]
  omega
theorem own_inc {v w : Int32} (h : ¬ v = (2147483647 : Int32)) (hw : v + (1 : Int32) = w) : w.toInt = v.toInt + 1 := by
  have a1 := c_iadd v (1 : Int32)
  have k1 : (1 : Int32).toInt = 1 := by decide
  have k2 : (2147483647 : Int32).toInt = 2147483647 := by decide
  have b1 := rng32 v
  have b2 := rng32 w
  have b3 : v.toInt ≠ 2147483647 := fun q => h (Int32.toInt_inj.mp (q.trans k2.symm))
  rw [hw] at a1
  omega
theorem own_ltM {v : Int32} (h : ¬ v = (2147483647 : Int32)) : v < (2147483647 : Int32) := by
  have k2 : (2147483647 : Int32).toInt = 2147483647 := by decide
  have b1 := rng32 v
  have b3 : v.toInt ≠ 2147483647 := fun q => h (Int32.toInt_inj.mp (q.trans k2.symm))
  rw [Int32.lt_iff_toInt_lt]
  omega
theorem own_gtM {v : Int32} (h : v = (2147483647 : Int32)) : ¬ v < (2147483647 : Int32) := by
  subst h; decide
section OwnRecall
open Jvm.FP.Core
theorem own_bits {a : Int32} {n : Nat} {b : UInt64} (e : FP.i2d a = b) (h0 : 0 ≤ a.toInt) (t : a.toInt.toNat = n) : Pz b (n * one64) := by
  have h := own_i2d h0
  rw [e, t] at h
  exact h
theorem own_B0 : Pz (0 : UInt64) (0 * one64) := by rw [Nat.zero_mul]; exact own_Pz0
theorem own_B1 : Pz (4607182418800017408 : UInt64) (1 * one64) := own_bits (a := 1) (by decide +kernel) (by decide) (by decide)
theorem own_B2 : Pz (4611686018427387904 : UInt64) (2 * one64) := own_bits (a := 2) (by decide +kernel) (by decide) (by decide)
theorem own_B3 : Pz (4613937818241073152 : UInt64) (3 * one64) := own_bits (a := 3) (by decide +kernel) (by decide) (by decide)
theorem own_31 : 2147483647 * 2 ^ (1074 - 31) < 1 * one64 := by decide +kernel
theorem own_rc0 (b : UInt64) {rel : Int32} (h : ¬ rel = (0 : Int32)) : own_rc b rel = FP.ddiv b (FP.i2d rel) := by rw [own_rc, if_neg h]
theorem own_R {n : Nat} {b : UInt64} (hb : Pz b (n * one64)) (hn : n ≤ 3) {rel : Int32} (h : (n : Int) ≤ rel.toInt) : ∃ M, Pz (own_rc b rel) M ∧ M ≤ 1 * one64 ∧ (M = 0 ↔ n = 0) ∧ (M = 1 * one64 ↔ n ≠ 0 ∧ (n : Int) = rel.toInt) := by
  have o1 := one64_pos
  by_cases h0 : rel = (0 : Int32)
  · subst h0
    have k0 : (0 : Int32).toInt = 0 := by decide
    have n0 : n = 0 := by omega
    have e : own_rc b (0 : Int32) = 0 := by rw [own_rc, if_pos rfl]
    rw [e]
    exact ⟨0, own_Pz0, Nat.zero_le _, ⟨fun _ => n0, fun _ => rfl⟩, ⟨fun q => by omega, fun q => absurd n0 q.1⟩⟩
  · have k0 : (0 : Int32).toInt = 0 := by decide
    have r0 : rel.toInt ≠ 0 := fun q => h0 (Int32.toInt_inj.mp (q.trans k0.symm))
    have rb := rng32 rel
    have hr := own_i2d (a := rel) (by omega)
    have er : ((rel.toInt.toNat : Nat) : Int) = rel.toInt := Int.toNat_of_nonneg (by omega)
    generalize rel.toInt.toNat = r at hr er
    have r1 : 0 < r := by omega
    have rB : 0 < r * one64 := Nat.mul_pos r1 o1
    have p31 : (2 : Nat) ^ 31 = 2147483648 := by decide
    have s0 : n * 2 ^ 0 ≤ 1 * r := by rw [Nat.pow_zero]; omega
    have P := own_quot hb hr rB (k := 1) (j := 0) (by decide) (by decide) (own_scale s0)
    have l1 := own_le (A := n * one64) rB (k := 1) (j := 0) (by decide) (by decide) (own_scale s0)
    rw [← own_rc0 b h0] at P
    rw [← own_one] at l1
    have z1 : ¬ n = 0 → 1 * 2 ^ (1074 - 31) ≤ zmag b64 (roundRatio b64 false (n * one64) (r * one64) 0) := fun q =>
      own_ge (A := n * one64) rB (k := 1) (j := 31) (by decide) (by decide) (own_scale' (by rw [p31]; omega))
    have z2 : n = 0 → zmag b64 (roundRatio b64 false (n * one64) (r * one64) 0) ≤ 0 * 2 ^ (1074 - 0) := fun q =>
      own_le (A := n * one64) rB (k := 0) (j := 0) (by decide) (by decide) (own_scale (by rw [Nat.pow_zero]; omega))
    have z3 : n = r → 1 * 2 ^ (1074 - 0) ≤ zmag b64 (roundRatio b64 false (n * one64) (r * one64) 0) := fun q =>
      own_ge (A := n * one64) rB (k := 1) (j := 0) (by decide) (by decide) (own_scale' (by rw [Nat.pow_zero]; omega))
    have z4 : n < r → zmag b64 (roundRatio b64 false (n * one64) (r * one64) 0) ≤ 2147483647 * 2 ^ (1074 - 31) := fun q =>
      own_le (A := n * one64) rB (k := 2147483647) (j := 31) (by decide) (by decide) (own_scale (by rw [p31]; omega))
    have t31 := own_31
    have w31 : 0 < 2 ^ (1074 - 31) := Nat.two_pow_pos _
    rw [← own_one] at z3
    generalize zmag b64 (roundRatio b64 false (n * one64) (r * one64) 0) = M at *
    generalize 2 ^ (1074 - 31) = P31 at *
    refine ⟨M, P, l1, ⟨fun q => Classical.byContradiction fun y => ?_, fun q => ?_⟩, ⟨fun q => ⟨fun y => ?_, Classical.byContradiction fun y => ?_⟩, fun q => ?_⟩⟩
    · have := z1 y; omega
    · have := z2 q; rw [Nat.zero_mul] at this; omega
    · have := z2 y; rw [Nat.zero_mul] at this; omega
    · have := z4 (by omega); omega
    · have := z3 (by omega); omega
theorem own_S {n : Nat} {b : UInt64} (hb : Pz b (n * one64)) (hn1 : 1 ≤ n) (hn3 : n ≤ 3) {rel rel2 : Int32} (h : (n : Int) ≤ rel.toInt) (h2 : rel2.toInt = rel.toInt + 1) {M M2 : Nat} (p : Pz (own_rc b rel) M) (p2 : Pz (own_rc b rel2) M2) : M2 < M := by
  have o1 := one64_pos
  have k0 : (0 : Int32).toInt = 0 := by decide
  have rb := rng32 rel
  have rb2 := rng32 rel2
  have z1 : ¬ rel = (0 : Int32) := fun q => by rw [q] at h; omega
  have z2 : ¬ rel2 = (0 : Int32) := fun q => by rw [q] at h2; omega
  have hr := own_i2d (a := rel) (by omega)
  have hr2 := own_i2d (a := rel2) (by omega)
  have er2 : rel2.toInt.toNat = rel.toInt.toNat + 1 := by omega
  have er : ((rel.toInt.toNat : Nat) : Int) = rel.toInt := Int.toNat_of_nonneg (by omega)
  rw [er2] at hr2
  generalize rel.toInt.toNat = r at hr hr2 er
  have r1 : 0 < r := by omega
  have rlt : r < 2147483647 := by omega
  have rB : 0 < r * one64 := Nat.mul_pos r1 o1
  have rB2 : 0 < (r + 1) * one64 := Nat.mul_pos (Nat.succ_pos r) o1
  have P := own_quot hb hr rB (k := 1) (j := 0) (by decide) (by decide) (own_scale (by rw [Nat.pow_zero]; omega))
  have P2 := own_quot hb hr2 rB2 (k := 1) (j := 0) (by decide) (by decide) (own_scale (by rw [Nat.pow_zero]; omega))
  rw [← own_rc0 b z1] at P
  rw [← own_rc0 b z2] at P2
  have m1 := p.uniq P
  have m2 := p2.uniq P2
  rw [m1, m2]
  clear P P2 m1 m2 p p2 hr hr2 hb
  have a1 : 2 ^ r.log2 ≤ r := Nat.log2_self_le (by omega)
  have a2 : r < 2 ^ (r.log2 + 1) := Nat.lt_log2_self
  have a3 : r.log2 < 31 := (Nat.pow_lt_pow_iff_right (by decide : 1 < 2)).mp (Nat.lt_of_le_of_lt a1 (Nat.lt_of_lt_of_le rlt (by decide)))
  generalize r.log2 = L at a1 a2 a3
  have c1 : n * 2 ^ (L + 50) / r * r ≤ n * 2 ^ (L + 50) := Nat.div_mul_le_self _ _
  have c2 : n * 2 ^ (L + 50) < (n * 2 ^ (L + 50) / r + 1) * r := (Nat.div_lt_iff_lt_mul r1).mp (Nat.lt_succ_self _)
  have c3 : n * 2 ^ (L + 50) / r ≤ 3 * 2 ^ 50 := by
    refine Nat.div_le_of_le_mul ?_
    have u := Nat.mul_le_mul hn3 (Nat.mul_le_mul_right (2 ^ 50) a1)
    rw [← Nat.pow_add, Nat.mul_left_comm] at u
    exact u
  have c4 : 2 ^ 49 ≤ n * 2 ^ (L + 50) / r := by
    refine (Nat.le_div_iff_mul_le r1).mpr ?_
    have u := Nat.mul_le_mul_left (2 ^ 49) (Nat.le_of_lt a2)
    rw [← Nat.pow_add, show 49 + (L + 1) = L + 50 by omega] at u
    exact Nat.le_trans u (Nat.le_mul_of_pos_left _ hn1)
  have j1 : L + 50 ≤ 1074 := by omega
  have p50 : (2 : Nat) ^ 50 = 1125899906842624 := by decide
  have p49 : (2 : Nat) ^ 49 = 562949953421312 := by decide
  rw [p50] at c3
  rw [p49] at c4
  generalize n * 2 ^ (L + 50) / r = k at c1 c2 c3 c4
  obtain ⟨k', rfl⟩ : ∃ k', k = k' + 1 := ⟨k - 1, by omega⟩
  have g := own_ge (A := n * one64) rB (k := k' + 1) (j := L + 50) (by omega) j1 (own_scale' c1)
  have s2 : n * 2 ^ (L + 50) ≤ k' * (r + 1) := by
    rw [Nat.add_mul, Nat.one_mul] at c2
    rw [Nat.add_mul, Nat.one_mul] at c2
    rw [Nat.mul_add, Nat.mul_one]
    generalize n * 2 ^ (L + 50) = N at *
    generalize k' * r = t at *
    omega
  have l := own_le (A := n * one64) rB2 (k := k') (j := L + 50) (by omega) j1 (own_scale s2)
  refine Nat.lt_of_le_of_lt l (Nat.lt_of_lt_of_le ?_ g)
  exact Nat.mul_lt_mul_of_pos_right (Nat.lt_succ_self k') (Nat.two_pow_pos _)
end OwnRecall
theorem own_four (k : Int32) : (k &&& (3 : Int32)) = (0 : Int32) ∨ (k &&& (3 : Int32)) = (1 : Int32) ∨ (k &&& (3 : Int32)) = (2 : Int32) ∨ (k &&& (3 : Int32)) = (3 : Int32) := by
  have e1 := c_mask k (3 : Int32) 2 (by decide) (by decide)
  generalize (k &&& (3 : Int32)) = v at *
  have z : ∀ n : Int32, v.toInt = n.toInt → v = n := fun n h => Int32.toInt_inj.mp h
  have b : v.toInt = 0 ∨ v.toInt = 1 ∨ v.toInt = 2 ∨ v.toInt = 3 := by omega
  rcases b with b | b | b | b
  · exact Or.inl (z 0 b)
  · exact Or.inr (Or.inl (z 1 b))
  · exact Or.inr (Or.inr (Or.inl (z 2 b)))
  · exact Or.inr (Or.inr (Or.inr (z 3 b)))
theorem own_nnL {x : UInt64} (h : x &&& 0x7fffffffffffffff ≤ 0x7ff0000000000000) : Fl.NoNaN64 x := h
theorem ef_1 (m : MethodId) (p1 : Int32) (p2 : Int32) : entryFrame m #[(.int p1), (.int p2)] 2 = mkF m 0 #[.val (.int p1), .val (.int p2)] [] := by first | (simp [entryFrame, mkF, argsToLocals, Value.category]; done) | rfl
def Q1 (Z : State) (p1 : Int32) (p2 : Int32) (h0 : Heap) (n0 : Nat) (v : Option Value) (h : Heap) (L : List Loc) : Prop := v = some (.int (own_mx p1 p2)) ∧ Fr n0 L ∧ h = h0
theorem d1_0 : decode jdk_29_method_65_code 0 = .ok (.iload_n 0, 1) := by decide +kernel
theorem d1_1 : decode jdk_29_method_65_code 1 = .ok (.iload_n 1, 1) := by decide +kernel
theorem d1_2 : decode jdk_29_method_65_code 2 = .ok (.if_icmp .lt 7, 3) := by decide +kernel
theorem d1_5 : decode jdk_29_method_65_code 5 = .ok (.iload_n 0, 1) := by decide +kernel
theorem d1_6 : decode jdk_29_method_65_code 6 = .ok (.goto 4, 3) := by decide +kernel
theorem d1_9 : decode jdk_29_method_65_code 9 = .ok (.iload_n 1, 1) := by decide +kernel
theorem d1_10 : decode jdk_29_method_65_code 10 = .ok (.ireturn, 1) := by decide +kernel
set_option maxRecDepth 65536 in
set_option maxHeartbeats 40000000 in
theorem rm1 (l : Launch) (Z : State) (a0 : Array Value) (hw : ∀ d ∈ tables_1, d.before a0 Z = true) (ws : List Jvm.Cond) (p1 : Int32) (p2 : Int32) (h0 : Heap) (n0 : Nat) (Z0 : n0 ≤ h0.size) :
    MetFree l (⟨"java/lang/Math", "max", "(II)I"⟩ : MethodName) (head1 (Jvm.Cond.code (⟨"java/lang/Math", "max", "(II)I"⟩ : MethodName) jdk_29_method_65_code 2 (some .int) :: ws) ({ frames := 0, cells := 0, slots := 0, locals := 0 } : Room)) (fun a U => a = #[(.int p1), (.int p2)] ∧ Z.Warmed39 U.vm ∧ U.heap = h0) (fun _ _ _ _ _ => True) (fun _ U o U' => ∃ v L, o = .returned v ∧ Q1 Z p1 p2 h0 n0 v U'.heap L ∧ FrameEnd U o U' L ({ frames := 0, cells := 0, slots := 0, locals := 0 } : Room).cells ({ frames := 0, cells := 0, slots := 0, locals := 0 } : Room).slots) := by
  refine MetFree.of_bodySF (Jvm.Free.JP.mathPlain rfl (by decide +kernel)) hisR ?_
  intro p e s m args below meth c s₁ Bd hml0 hP hK
  obtain ⟨rfl, hZ, hh⟩ := hP
  have hx := Bd.exec
  have hby := Bd.bytes
  have hml : c.maxLocals = 2 := hml0
  have hown : s.vm.findClass "java/lang/Math" = some m.cls := findClass_of_methodNamed Bd.named
  have hnm := (name_of_methodNamed Bd.named Bd.method).1
  have hlk : meth.locks = false := BodyLoose.notSynchronized Bd
  have X0 : Stand p l e ({ frames := 0, cells := 0, slots := 0, locals := 0 } : Room) s m #[(.int p1), (.int p2)] below meth c s₁ [] 0 0 := Stand.of_body Bd
  have e0 : s₁.heap = h0 := by rw [← hh, Bd.state]; rfl
  have N0 := Fr.nil n0
  show OEnds p.tables e below (OGoal (Q1 Z p1 p2 h0 n0) s 0 0) (s₁.setTop (entryFrame m #[(.int p1), (.int p2)] 2))
  refine OEnds.st (fun t k => castTop (ef_1 m p1 p2) k) ?_
  generalize hG : OGoal (Q1 Z p1 p2 h0 n0) s 0 0 = G
  have KK0 : Keep h0 h0 [] := Keep.refl h0 []
  show OEnds p.tables e below G (s₁.setTop (mkF m 0 #[.val (.int p1), .val (.int p2)] []))
  refine OEnds.st (fun _ k => XS.iloadN X0.here hx rfl (hb hby d1_0) rfl k) ?_
  show OEnds p.tables e below G (s₁.setTop (mkF m 1 #[.val (.int p1), .val (.int p2)] [(.int p1)]))
  refine OEnds.st (fun _ k => XS.iloadN X0.here hx rfl (hb hby d1_1) rfl k) ?_
  show OEnds p.tables e below G (s₁.setTop (mkF m 2 #[.val (.int p1), .val (.int p2)] [(.int p2), (.int p1)]))
  by_cases hc2_1001 : p1 < p2
  · -- pc 2: yes
    refine OEnds.st (fun _ k => XS.icmpYes X0.here hx rfl (pc0 := 2) (pc' := 9) rfl (hb hby d1_2) rfl (tlt hc2_1001).1 (by decide) (by decide) k) ?_
    show OEnds p.tables e below G (s₁.setTop (mkF m 9 #[.val (.int p1), .val (.int p2)] []))
    refine OEnds.st (fun _ k => XS.iloadN X0.here hx rfl (hb hby d1_9) rfl k) ?_
    show OEnds p.tables e below G (s₁.setTop (mkF m 10 #[.val (.int p1), .val (.int p2)] [(.int p2)]))
    rw [← hG]
    refine OEnds.retI X0 hx hlk Bd.returns (hb hby d1_10) (by decide) (by decide) ?_
    rw [e0]
    exact ⟨by simp only [own_mx, hc2_1001, if_true, if_false], N0, rfl⟩
  · -- pc 2: no
    refine OEnds.st (fun _ k => XS.icmpNo X0.here hx rfl (hb hby d1_2) rfl (flt hc2_1001).1 k) ?_
    show OEnds p.tables e below G (s₁.setTop (mkF m 5 #[.val (.int p1), .val (.int p2)] []))
    refine OEnds.st (fun _ k => XS.iloadN X0.here hx rfl (hb hby d1_5) rfl k) ?_
    show OEnds p.tables e below G (s₁.setTop (mkF m 6 #[.val (.int p1), .val (.int p2)] [(.int p1)]))
    refine OEnds.st (fun _ k => XS.goto X0.here hx rfl (pc0 := 6) (pc' := 10) rfl (hb hby d1_6) (by decide) (by decide) k) ?_
    show OEnds p.tables e below G (s₁.setTop (mkF m 10 #[.val (.int p1), .val (.int p2)] [(.int p1)]))
    rw [← hG]
    refine OEnds.retI X0 hx hlk Bd.returns (hb hby d1_10) (by decide) (by decide) ?_
    rw [e0]
    exact ⟨by simp only [own_mx, hc2_1001, if_true, if_false], N0, rfl⟩
theorem pn_0 : plainName "com/example/words_to_weights/wordstoweights/evaluation/JudgedRanking" = true := by first | (simp [plainName, overriddenIn]; done) | decide +kernel
theorem ef_3 (m : MethodId) (a1 : Addr) (p2 : Int32) (p3 : Int32) (a4 : Addr) : entryFrame m #[(.ref a1), (.int p2), (.int p3), (.ref a4)] 4 = mkF m 0 #[.val (.ref a1), .val (.int p2), .val (.int p3), .val (.ref a4)] [] := by first | (simp [entryFrame, mkF, argsToLocals, Value.category]; done) | rfl
def Q3 (Z : State) (a1 : Addr) (p2 : Int32) (p3 : Int32) (a4 : Addr) (h0 : Heap) (n0 : Nat) (v : Option Value) (h : Heap) (L : List Loc) : Prop := v = none ∧ Fr n0 L ∧ Keep h0 h [a1] ∧ Exa Z h a1 "com/example/words_to_weights/wordstoweights/evaluation/JudgedRanking" ∧ Fld Z h a1 "com/example/words_to_weights/wordstoweights/evaluation/JudgedRanking" "relevant" "I" (.int p3) ∧ Fld Z h a1 "com/example/words_to_weights/wordstoweights/evaluation/JudgedRanking" "relevantRanks" "[I" (.ref a4)
theorem d3_0 : decode prog_30_method_1_code 0 = .ok (.aload_n 0, 1) := by decide +kernel
theorem d3_1 : decode prog_30_method_1_code 1 = .ok (.invokespecial 1, 3) := by decide +kernel
theorem d3_4 : decode prog_30_method_1_code 4 = .ok (.aload_n 0, 1) := by decide +kernel
theorem d3_5 : decode prog_30_method_1_code 5 = .ok (.iload_n 1, 1) := by decide +kernel
theorem d3_6 : decode prog_30_method_1_code 6 = .ok (.putfield 7, 3) := by decide +kernel
theorem d3_9 : decode prog_30_method_1_code 9 = .ok (.aload_n 0, 1) := by decide +kernel
theorem d3_10 : decode prog_30_method_1_code 10 = .ok (.iload_n 2, 1) := by decide +kernel
theorem d3_11 : decode prog_30_method_1_code 11 = .ok (.putfield 13, 3) := by decide +kernel
theorem d3_14 : decode prog_30_method_1_code 14 = .ok (.aload_n 0, 1) := by decide +kernel
theorem d3_15 : decode prog_30_method_1_code 15 = .ok (.aload_n 3, 1) := by decide +kernel
theorem d3_16 : decode prog_30_method_1_code 16 = .ok (.putfield 16, 3) := by decide +kernel
theorem d3_19 : decode prog_30_method_1_code 19 = .ok (.return_, 1) := by decide +kernel
set_option maxRecDepth 65536 in
set_option maxHeartbeats 40000000 in
theorem rm3 (l : Launch) (Z : State) (a0 : Array Value) (hw : ∀ d ∈ tables_1, d.before a0 Z = true) (ws : List Jvm.Cond) (a1 : Addr) (p2 : Int32) (p3 : Int32) (a4 : Addr) (h0 : Heap) (n0 : Nat) (Z0 : n0 ≤ h0.size) (E1 : Exa Z h0 a1 "com/example/words_to_weights/wordstoweights/evaluation/JudgedRanking") (F1 : Fld Z h0 a1 "com/example/words_to_weights/wordstoweights/evaluation/JudgedRanking" "retrieved" "I" (.int (0 : Int32))) (F2 : Fld Z h0 a1 "com/example/words_to_weights/wordstoweights/evaluation/JudgedRanking" "relevant" "I" (.int (0 : Int32))) (F3 : Fld Z h0 a1 "com/example/words_to_weights/wordstoweights/evaluation/JudgedRanking" "relevantRanks" "[I" .null) (g_a1 : n0 ≤ a1) :
    MetFree l (⟨"com/example/words_to_weights/wordstoweights/evaluation/JudgedRanking", "<init>", "(II[I)V"⟩ : MethodName) (head1 (Jvm.Cond.code (⟨"com/example/words_to_weights/wordstoweights/evaluation/JudgedRanking", "<init>", "(II[I)V"⟩ : MethodName) prog_30_method_1_code 4 none :: ws) ({ frames := 1, cells := 0, slots := 0, locals := 12 } : Room)) (fun a U => a = #[(.ref a1), (.int p2), (.int p3), (.ref a4)] ∧ Z.Warmed39 U.vm ∧ U.heap = h0) (fun _ _ _ _ _ => True) (fun _ U o U' => ∃ v L, o = .returned v ∧ Q3 Z a1 p2 p3 a4 h0 n0 v U'.heap L ∧ FrameEnd U o U' L ({ frames := 1, cells := 0, slots := 0, locals := 12 } : Room).cells ({ frames := 1, cells := 0, slots := 0, locals := 12 } : Room).slots) := by
  refine MetFree.of_bodySF (plainFor_of_name pn_0) hisR ?_
  intro p e s m args below meth c s₁ Bd hml0 hP hK
  obtain ⟨rfl, hZ, hh⟩ := hP
  have hx := Bd.exec
  have hby := Bd.bytes
  have hml : c.maxLocals = 4 := hml0
  have hown : s.vm.findClass "com/example/words_to_weights/wordstoweights/evaluation/JudgedRanking" = some m.cls := findClass_of_methodNamed Bd.named
  have hnm := (name_of_methodNamed Bd.named Bd.method).1
  have hlk : meth.locks = false := BodyLoose.notSynchronized Bd
  have X0 : Stand p l e ({ frames := 1, cells := 0, slots := 0, locals := 12 } : Room) s m #[(.ref a1), (.int p2), (.int p3), (.ref a4)] below meth c s₁ [] 0 0 := Stand.of_body Bd
  have e0 : s₁.heap = h0 := by rw [← hh, Bd.state]; rfl
  have N0 := Fr.nil n0
  show OEnds p.tables e below (OGoal (Q3 Z a1 p2 p3 a4 h0 n0) s 0 0) (s₁.setTop (entryFrame m #[(.ref a1), (.int p2), (.int p3), (.ref a4)] 4))
  refine OEnds.st (fun t k => castTop (ef_3 m a1 p2 p3 a4) k) ?_
  generalize hG : OGoal (Q3 Z a1 p2 p3 a4 h0 n0) s 0 0 = G
  have KK0 : Keep h0 h0 [a1] := Keep.refl h0 [a1]
  show OEnds p.tables e below G (s₁.setTop (mkF m 0 #[.val (.ref a1), .val (.int p2), .val (.int p3), .val (.ref a4)] []))
  refine OEnds.st (fun _ k => XS.aloadN X0.here hx rfl (hb hby d3_0) rfl rfl k) ?_
  show OEnds p.tables e below G (s₁.setTop (mkF m 1 #[.val (.ref a1), .val (.int p2), .val (.int p3), .val (.ref a4)] [(.ref a1)]))
  obtain ⟨T1001, X1001, e1001, st1001⟩ := initO X0 hx hZ hown (hw _ (List.mem_of_getElem? (i := 17) rfl)) (hw _ (List.mem_of_getElem? (i := 18) rfl)) (hw _ (List.mem_of_getElem? (i := 19) rfl)) e0 (g := (mkF m 1 #[.val (.ref a1), .val (.int p2), .val (.int p3), .val (.ref a4)] [(.ref a1)])) rfl (by rw [hml]; rfl) rfl (hb hby d3_1) (by decide) (W := 0) (by show 2 * 0 + _ ≤ _; exact Nat.le_of_eq rfl) (by decide)
  refine OEnds.st st1001 ?_
  clear st1001
  show OEnds p.tables e below G (T1001.setTop (mkF m 4 #[.val (.ref a1), .val (.int p2), .val (.int p3), .val (.ref a4)] []))
  refine OEnds.st (fun _ k => XS.aloadN X1001.here hx rfl (hb hby d3_4) rfl rfl k) ?_
  show OEnds p.tables e below G (T1001.setTop (mkF m 5 #[.val (.ref a1), .val (.int p2), .val (.int p3), .val (.ref a4)] [(.ref a1)]))
  refine OEnds.st (fun _ k => XS.iloadN X1001.here hx rfl (hb hby d3_5) rfl k) ?_
  show OEnds p.tables e below G (T1001.setTop (mkF m 6 #[.val (.ref a1), .val (.int p2), .val (.int p3), .val (.ref a4)] [(.int p2), (.ref a1)]))
  obtain ⟨T1002, h1002, X1002, e1002, W1002, st1002⟩ := putF X1001 hx hZ hown (host := "") (Or.inl (hw _ (List.mem_of_getElem? (i := 20) rfl))) Via.refl e1001 F1 E1 (Or.inr ⟨(hw _ (List.mem_of_getElem? (i := 21) rfl)), rfl, hnm⟩) (hw _ (List.mem_of_getElem? (i := 12) rfl)) (ty := .int) (by decide) rfl rfl (g := (mkF m 6 #[.val (.ref a1), .val (.int p2), .val (.int p3), .val (.ref a4)] [(.int p2), (.ref a1)])) rfl rfl (hb hby d3_6)
  refine OEnds.st st1002 ?_
  clear st1002
  have f1003 : Fld Z h1002 a1 "com/example/words_to_weights/wordstoweights/evaluation/JudgedRanking" "retrieved" "I" (.int p2) := F1.same W1002
  have f1004 : Exa Z h1002 a1 "com/example/words_to_weights/wordstoweights/evaluation/JudgedRanking" := E1.wr W1002
  have f1006 : Fld Z h1002 a1 "com/example/words_to_weights/wordstoweights/evaluation/JudgedRanking" "relevant" "I" (.int (0 : Int32)) := F2.other W1002 (Or.inr (slot_ne (Or.inr (hw _ (List.mem_of_getElem? (i := 23) rfl))) (Or.inr (hw _ (List.mem_of_getElem? (i := 21) rfl))) (by decide) (t := .int) (t' := .int) (by decide) (by decide)))
  have f1007 : Fld Z h1002 a1 "com/example/words_to_weights/wordstoweights/evaluation/JudgedRanking" "relevantRanks" "[I" .null := F3.other W1002 (Or.inr (slot_ne (Or.inr (hw _ (List.mem_of_getElem? (i := 25) rfl))) (Or.inr (hw _ (List.mem_of_getElem? (i := 21) rfl))) (by decide) (t := (.array .int)) (t' := .int) (by decide) (by decide)))
  have N1002 := Fr.snoc X1002 N0 g_a1
  have KK1002 : Keep h0 h1002 [a1] := KK0.wr W1002 (Or.inl (List.mem_of_getElem? (i := 0) rfl))
  have Z1002 := Nat.le_trans Z0 (Keep.of_wr W1002).1
  show OEnds p.tables e below G (T1002.setTop (mkF m 9 #[.val (.ref a1), .val (.int p2), .val (.int p3), .val (.ref a4)] []))
  refine OEnds.st (fun _ k => XS.aloadN X1002.here hx rfl (hb hby d3_9) rfl rfl k) ?_
  show OEnds p.tables e below G (T1002.setTop (mkF m 10 #[.val (.ref a1), .val (.int p2), .val (.int p3), .val (.ref a4)] [(.ref a1)]))
  refine OEnds.st (fun _ k => XS.iloadN X1002.here hx rfl (hb hby d3_10) rfl k) ?_
  show OEnds p.tables e below G (T1002.setTop (mkF m 11 #[.val (.ref a1), .val (.int p2), .val (.int p3), .val (.ref a4)] [(.int p3), (.ref a1)]))
  obtain ⟨T1008, h1008, X1008, e1008, W1008, st1008⟩ := putF X1002 hx hZ hown (host := "") (Or.inl (hw _ (List.mem_of_getElem? (i := 22) rfl))) Via.refl e1002 f1006 f1004 (Or.inr ⟨(hw _ (List.mem_of_getElem? (i := 23) rfl)), rfl, hnm⟩) (hw _ (List.mem_of_getElem? (i := 12) rfl)) (ty := .int) (by decide) rfl rfl (g := (mkF m 11 #[.val (.ref a1), .val (.int p2), .val (.int p3), .val (.ref a4)] [(.int p3), (.ref a1)])) rfl rfl (hb hby d3_11)
  refine OEnds.st st1008 ?_
  clear st1008
  have f1009 : Fld Z h1008 a1 "com/example/words_to_weights/wordstoweights/evaluation/JudgedRanking" "relevant" "I" (.int p3) := f1006.same W1008
  have f1010 : Exa Z h1008 a1 "com/example/words_to_weights/wordstoweights/evaluation/JudgedRanking" := f1004.wr W1008
  have f1012 : Fld Z h1008 a1 "com/example/words_to_weights/wordstoweights/evaluation/JudgedRanking" "relevantRanks" "[I" .null := f1007.other W1008 (Or.inr (slot_ne (Or.inr (hw _ (List.mem_of_getElem? (i := 25) rfl))) (Or.inr (hw _ (List.mem_of_getElem? (i := 23) rfl))) (by decide) (t := (.array .int)) (t' := .int) (by decide) (by decide)))
  have f1013 : Fld Z h1008 a1 "com/example/words_to_weights/wordstoweights/evaluation/JudgedRanking" "retrieved" "I" (.int p2) := f1003.other W1008 (Or.inr (slot_ne (Or.inr (hw _ (List.mem_of_getElem? (i := 21) rfl))) (Or.inr (hw _ (List.mem_of_getElem? (i := 23) rfl))) (by decide) (t := .int) (t' := .int) (by decide) (by decide)))
  have N1008 := Fr.snoc X1008 N1002 g_a1
  have KK1008 : Keep h0 h1008 [a1] := KK1002.wr W1008 (Or.inl (List.mem_of_getElem? (i := 0) rfl))
  have Z1008 := Nat.le_trans Z1002 (Keep.of_wr W1008).1
  show OEnds p.tables e below G (T1008.setTop (mkF m 14 #[.val (.ref a1), .val (.int p2), .val (.int p3), .val (.ref a4)] []))
  refine OEnds.st (fun _ k => XS.aloadN X1008.here hx rfl (hb hby d3_14) rfl rfl k) ?_
  show OEnds p.tables e below G (T1008.setTop (mkF m 15 #[.val (.ref a1), .val (.int p2), .val (.int p3), .val (.ref a4)] [(.ref a1)]))
  refine OEnds.st (fun _ k => XS.aloadN X1008.here hx rfl (hb hby d3_15) rfl rfl k) ?_
  show OEnds p.tables e below G (T1008.setTop (mkF m 16 #[.val (.ref a1), .val (.int p2), .val (.int p3), .val (.ref a4)] [(.ref a4), (.ref a1)]))
  obtain ⟨T1014, h1014, X1014, e1014, W1014, st1014⟩ := putF X1008 hx hZ hown (host := "") (Or.inl (hw _ (List.mem_of_getElem? (i := 24) rfl))) Via.refl e1008 f1012 f1010 (Or.inr ⟨(hw _ (List.mem_of_getElem? (i := 25) rfl)), rfl, hnm⟩) (hw _ (List.mem_of_getElem? (i := 12) rfl)) (ty := (.array .int)) (by decide) rfl rfl (g := (mkF m 16 #[.val (.ref a1), .val (.int p2), .val (.int p3), .val (.ref a4)] [(.ref a4), (.ref a1)])) rfl rfl (hb hby d3_16)
  refine OEnds.st st1014 ?_
  clear st1014
  have f1015 : Fld Z h1014 a1 "com/example/words_to_weights/wordstoweights/evaluation/JudgedRanking" "relevantRanks" "[I" (.ref a4) := f1012.same W1014
  have f1016 : Exa Z h1014 a1 "com/example/words_to_weights/wordstoweights/evaluation/JudgedRanking" := f1010.wr W1014
  have f1018 : Fld Z h1014 a1 "com/example/words_to_weights/wordstoweights/evaluation/JudgedRanking" "retrieved" "I" (.int p2) := f1013.other W1014 (Or.inr (slot_ne (Or.inr (hw _ (List.mem_of_getElem? (i := 21) rfl))) (Or.inr (hw _ (List.mem_of_getElem? (i := 25) rfl))) (by decide) (t := .int) (t' := (.array .int)) (by decide) (by decide)))
  have f1019 : Fld Z h1014 a1 "com/example/words_to_weights/wordstoweights/evaluation/JudgedRanking" "relevant" "I" (.int p3) := f1009.other W1014 (Or.inr (slot_ne (Or.inr (hw _ (List.mem_of_getElem? (i := 23) rfl))) (Or.inr (hw _ (List.mem_of_getElem? (i := 25) rfl))) (by decide) (t := .int) (t' := (.array .int)) (by decide) (by decide)))
  have N1014 := Fr.snoc X1014 N1008 g_a1
  have KK1014 : Keep h0 h1014 [a1] := KK1008.wr W1014 (Or.inl (List.mem_of_getElem? (i := 0) rfl))
  have Z1014 := Nat.le_trans Z1008 (Keep.of_wr W1014).1
  show OEnds p.tables e below G (T1014.setTop (mkF m 19 #[.val (.ref a1), .val (.int p2), .val (.int p3), .val (.ref a4)] []))
  rw [← hG]
  refine OEnds.retV X1014 hx hlk Bd.returns (hb hby d3_19) (by decide) (by decide) ?_
  rw [e1014]
  exact ⟨rfl, N1014, KK1014, f1016, f1019, f1015⟩
theorem pn_1 : plainName "com/example/words_to_weights/wordstoweights/evaluation/JudgedRankingSetRecallPinLaw" = true := by first | (simp [plainName, overriddenIn]; done) | decide +kernel
theorem ef_rk0 (m : MethodId) (e1 : Int32) (e2 : Int32) (e3 : Int32) : entryFrame m #[(.int (0 : Int32)), (.int e1), (.int e2), (.int e3)] 4 = mkF m 0 #[.val (.int (0 : Int32)), .val (.int e1), .val (.int e2), .val (.int e3)] [] := by first | (simp [entryFrame, mkF, argsToLocals, Value.category]; done) | rfl
def Qrk0 (Z : State) (e1 : Int32) (e2 : Int32) (e3 : Int32) (h0 : Heap) (n0 : Nat) (v : Option Value) (h : Heap) (L : List Loc) : Prop := ∃ (b : Addr) (kb : ClassId), v = some (.ref b) ∧ Fr n0 L ∧ Keep h0 h [] ∧ h0.size ≤ b ∧ Arv Z h b kb .int (0 : Int32) [] (.int (0 : Int32))
theorem d2_0 : decode method_2_code 0 = .ok (.iload_n 0, 1) := by decide +kernel
theorem d2_1 : decode method_2_code 1 = .ok (.ifCond .ne 7, 3) := by decide +kernel
theorem d2_4 : decode method_2_code 4 = .ok (.iconst 0, 1) := by decide +kernel
theorem d2_5 : decode method_2_code 5 = .ok (.newarray .int, 2) := by decide +kernel
theorem d2_7 : decode method_2_code 7 = .ok (.areturn, 1) := by decide +kernel
set_option maxRecDepth 65536 in
set_option maxHeartbeats 40000000 in
theorem rmrk0 (l : Launch) (Z : State) (a0 : Array Value) (hw : ∀ d ∈ tables_1, d.before a0 Z = true) (ws : List Jvm.Cond) (e1 : Int32) (e2 : Int32) (e3 : Int32) (h0 : Heap) (n0 : Nat) (Z0 : n0 ≤ h0.size) :
    MetFree l (⟨"com/example/words_to_weights/wordstoweights/evaluation/JudgedRankingSetRecallPinLaw", "ranks", "(IIII)[I"⟩ : MethodName) (head1 (Jvm.Cond.code (⟨"com/example/words_to_weights/wordstoweights/evaluation/JudgedRankingSetRecallPinLaw", "ranks", "(IIII)[I"⟩ : MethodName) method_2_code 4 (some (.array .int)) :: ws) ({ frames := 0, cells := 1, slots := 0, locals := 0 } : Room)) (fun a U => a = #[(.int (0 : Int32)), (.int e1), (.int e2), (.int e3)] ∧ Z.Warmed39 U.vm ∧ U.heap = h0) (fun _ _ _ _ _ => True) (fun _ U o U' => ∃ v L, o = .returned v ∧ Qrk0 Z e1 e2 e3 h0 n0 v U'.heap L ∧ FrameEnd U o U' L ({ frames := 0, cells := 1, slots := 0, locals := 0 } : Room).cells ({ frames := 0, cells := 1, slots := 0, locals := 0 } : Room).slots) := by
  refine MetFree.of_bodySF (plainFor_of_name pn_1) hisR ?_
  intro p e s m args below meth c s₁ Bd hml0 hP hK
  obtain ⟨rfl, hZ, hh⟩ := hP
  have hx := Bd.exec
  have hby := Bd.bytes
  have hml : c.maxLocals = 4 := hml0
  have hown : s.vm.findClass "com/example/words_to_weights/wordstoweights/evaluation/JudgedRankingSetRecallPinLaw" = some m.cls := findClass_of_methodNamed Bd.named
  have hnm := (name_of_methodNamed Bd.named Bd.method).1
  have hlk : meth.locks = false := BodyLoose.notSynchronized Bd
  have X0 : Stand p l e ({ frames := 0, cells := 1, slots := 0, locals := 0 } : Room) s m #[(.int (0 : Int32)), (.int e1), (.int e2), (.int e3)] below meth c s₁ [] 0 0 := Stand.of_body Bd
  have e0 : s₁.heap = h0 := by rw [← hh, Bd.state]; rfl
  have N0 := Fr.nil n0
  show OEnds p.tables e below (OGoal (Qrk0 Z e1 e2 e3 h0 n0) s 1 0) (s₁.setTop (entryFrame m #[(.int (0 : Int32)), (.int e1), (.int e2), (.int e3)] 4))
  refine OEnds.st (fun t k => castTop (ef_rk0 m e1 e2 e3) k) ?_
  generalize hG : OGoal (Qrk0 Z e1 e2 e3 h0 n0) s 1 0 = G
  have KK0 : Keep h0 h0 [] := Keep.refl h0 []
  show OEnds p.tables e below G (s₁.setTop (mkF m 0 #[.val (.int (0 : Int32)), .val (.int e1), .val (.int e2), .val (.int e3)] []))
  refine OEnds.st (fun _ k => XS.iloadN X0.here hx rfl (hb hby d2_0) rfl k) ?_
  show OEnds p.tables e below G (s₁.setTop (mkF m 1 #[.val (.int (0 : Int32)), .val (.int e1), .val (.int e2), .val (.int e3)] [(.int (0 : Int32))]))
  refine OEnds.st (fun _ k => XS.ifNo X0.here hx rfl (hb hby d2_1) rfl ((if0 _ _).trans (teq (by decide : (0 : Int32) = (0 : Int32))).2) k) ?_
  show OEnds p.tables e below G (s₁.setTop (mkF m 4 #[.val (.int (0 : Int32)), .val (.int e1), .val (.int e2), .val (.int e3)] []))
  refine OEnds.st (fun _ k => XS.iconst X0.here hx rfl (hb hby d2_4) k) ?_
  show OEnds p.tables e below G (s₁.setTop (mkF m 5 #[.val (.int (0 : Int32)), .val (.int e1), .val (.int e2), .val (.int e3)] [(.int (0 : Int32))]))
  obtain ⟨T1001, h1001, k1001, X1001, e1001, E1001, A1001, st1001⟩ := newP X0 hx hZ (hw _ (List.mem_of_getElem? (i := 10) rfl)) e0 (g := (mkF m 5 #[.val (.int (0 : Int32)), .val (.int e1), .val (.int e2), .val (.int e3)] [(.int (0 : Int32))])) rfl (hb hby d2_5) rfl (by decide) (cap := 0) (by decide) (by decide) (by decide) (by decide)
  obtain ⟨b1001, g1001⟩ : ∃ z, z = h0.size := ⟨_, rfl⟩
  rw [← g1001] at A1001 st1001
  refine OEnds.st st1001 ?_
  clear st1001
  have ge_b1001 : n0 ≤ b1001 := Nat.le_trans Z0 (Nat.le_of_eq g1001.symm)
  have sz_b1001 : h0.size ≤ b1001 := Nat.le_trans KK0.1 (Nat.le_of_eq g1001.symm)
  have KK1001 : Keep h0 h1001 [] := KK0.ext E1001
  have Z1001 := Nat.le_trans Z0 E1001.1
  have f1002 : Arv Z h1001 b1001 k1001 .int (0 : Int32) [] (.int (0 : Int32)) := Arv.new A1001 (by decide)
  show OEnds p.tables e below G (T1001.setTop (mkF m 7 #[.val (.int (0 : Int32)), .val (.int e1), .val (.int e2), .val (.int e3)] [(.ref b1001)]))
  rw [← hG]
  refine OEnds.retA X1001 hx hlk Bd.returns (by first | rfl | exact rfl) rfl (hb hby d2_7) (by decide) (by decide) ?_
  rw [e1001]
  exact ⟨b1001, k1001, rfl, N0, KK1001, sz_b1001, f1002⟩
theorem ef_sr0 (m : MethodId) (a1 : Addr) : entryFrame m #[(.ref a1)] 1 = mkF m 0 #[.val (.ref a1)] [] := by first | (simp [entryFrame, mkF, argsToLocals, Value.category]; done) | rfl
def Qsr0 (Z : State) (a1 : Addr) (r : Int32) (a2 : Addr) (k : ClassId) (vs : List Value) (h0 : Heap) (n0 : Nat) (v : Option Value) (h : Heap) (L : List Loc) : Prop := v = some (.double (own_rc (0 : UInt64) r)) ∧ Fr n0 L ∧ h = h0
theorem d5_0 : decode prog_30_method_14_code 0 = .ok (.aload_n 0, 1) := by decide +kernel
theorem d5_1 : decode prog_30_method_14_code 1 = .ok (.getfield 13, 3) := by decide +kernel
theorem d5_4 : decode prog_30_method_14_code 4 = .ok (.ifCond .ne 7, 3) := by decide +kernel
theorem d5_7 : decode prog_30_method_14_code 7 = .ok (.dconst 0, 1) := by decide +kernel
theorem d5_8 : decode prog_30_method_14_code 8 = .ok (.goto 15, 3) := by decide +kernel
theorem d5_11 : decode prog_30_method_14_code 11 = .ok (.aload_n 0, 1) := by decide +kernel
theorem d5_12 : decode prog_30_method_14_code 12 = .ok (.getfield 16, 3) := by decide +kernel
theorem d5_15 : decode prog_30_method_14_code 15 = .ok (.arraylength, 1) := by decide +kernel
theorem d5_16 : decode prog_30_method_14_code 16 = .ok (.i2d, 1) := by decide +kernel
theorem d5_17 : decode prog_30_method_14_code 17 = .ok (.aload_n 0, 1) := by decide +kernel
theorem d5_18 : decode prog_30_method_14_code 18 = .ok (.getfield 13, 3) := by decide +kernel
theorem d5_21 : decode prog_30_method_14_code 21 = .ok (.i2d, 1) := by decide +kernel
theorem d5_22 : decode prog_30_method_14_code 22 = .ok (.ddiv, 1) := by decide +kernel
theorem d5_23 : decode prog_30_method_14_code 23 = .ok (.dreturn, 1) := by decide +kernel
set_option maxRecDepth 65536 in
set_option maxHeartbeats 40000000 in
theorem rmsr0 (l : Launch) (Z : State) (a0 : Array Value) (hw : ∀ d ∈ tables_1, d.before a0 Z = true) (ws : List Jvm.Cond) (a1 : Addr) (r : Int32) (a2 : Addr) (k : ClassId) (vs : List Value) (h0 : Heap) (n0 : Nat) (Z0 : n0 ≤ h0.size) (Fre : Fld Z h0 a1 "com/example/words_to_weights/wordstoweights/evaluation/JudgedRanking" "relevant" "I" (.int r)) (Fk : Fld Z h0 a1 "com/example/words_to_weights/wordstoweights/evaluation/JudgedRanking" "relevantRanks" "[I" (.ref a2)) (V : Arv Z h0 a2 k .int (0 : Int32) vs (.int (0 : Int32))) :
    MetFree l (⟨"com/example/words_to_weights/wordstoweights/evaluation/JudgedRanking", "setRecall", "()D"⟩ : MethodName) (head1 (Jvm.Cond.code (⟨"com/example/words_to_weights/wordstoweights/evaluation/JudgedRanking", "setRecall", "()D"⟩ : MethodName) prog_30_method_14_code 1 (some .double) :: ws) ({ frames := 0, cells := 0, slots := 0, locals := 0 } : Room)) (fun a U => a = #[(.ref a1)] ∧ Z.Warmed39 U.vm ∧ U.heap = h0) (fun _ _ _ _ _ => True) (fun _ U o U' => ∃ v L, o = .returned v ∧ Qsr0 Z a1 r a2 k vs h0 n0 v U'.heap L ∧ FrameEnd U o U' L ({ frames := 0, cells := 0, slots := 0, locals := 0 } : Room).cells ({ frames := 0, cells := 0, slots := 0, locals := 0 } : Room).slots) := by
  refine MetFree.of_bodySF (plainFor_of_name pn_0) hisR ?_
  intro p e s m args below meth c s₁ Bd hml0 hP hK
  obtain ⟨rfl, hZ, hh⟩ := hP
  have hx := Bd.exec
  have hby := Bd.bytes
  have hml : c.maxLocals = 1 := hml0
  have hown : s.vm.findClass "com/example/words_to_weights/wordstoweights/evaluation/JudgedRanking" = some m.cls := findClass_of_methodNamed Bd.named
  have hnm := (name_of_methodNamed Bd.named Bd.method).1
  have hlk : meth.locks = false := BodyLoose.notSynchronized Bd
  have X0 : Stand p l e ({ frames := 0, cells := 0, slots := 0, locals := 0 } : Room) s m #[(.ref a1)] below meth c s₁ [] 0 0 := Stand.of_body Bd
  have e0 : s₁.heap = h0 := by rw [← hh, Bd.state]; rfl
  have N0 := Fr.nil n0
  show OEnds p.tables e below (OGoal (Qsr0 Z a1 r a2 k vs h0 n0) s 0 0) (s₁.setTop (entryFrame m #[(.ref a1)] 1))
  refine OEnds.st (fun t k => castTop (ef_sr0 m a1) k) ?_
  generalize hG : OGoal (Qsr0 Z a1 r a2 k vs h0 n0) s 0 0 = G
  have KK0 : Keep h0 h0 [] := Keep.refl h0 []
  show OEnds p.tables e below G (s₁.setTop (mkF m 0 #[.val (.ref a1)] []))
  refine OEnds.st (fun _ k => XS.aloadN X0.here hx rfl (hb hby d5_0) rfl rfl k) ?_
  show OEnds p.tables e below G (s₁.setTop (mkF m 1 #[.val (.ref a1)] [(.ref a1)]))
  obtain ⟨T1001, X1001, e1001, st1001⟩ := getF X0 hx hZ hown (host := "") (Or.inl (hw _ (List.mem_of_getElem? (i := 22) rfl))) Via.refl e0 Fre (g := (mkF m 1 #[.val (.ref a1)] [(.ref a1)])) rfl rfl (hb hby d5_1)
  refine OEnds.st st1001 ?_
  clear st1001
  show OEnds p.tables e below G (T1001.setTop (mkF m 4 #[.val (.ref a1)] [(.int r)]))
  by_cases hc4_1002 : r = (0 : Int32)
  · -- pc 4: yes
    refine OEnds.st (fun _ k => XS.ifNo X1001.here hx rfl (hb hby d5_4) rfl ((if0 _ _).trans (teq hc4_1002).2) k) ?_
    show OEnds p.tables e below G (T1001.setTop (mkF m 7 #[.val (.ref a1)] []))
    refine OEnds.st (fun _ k => XS.dconst0 X1001.here hx rfl (hb hby d5_7) (v := (0 : UInt64)) rfl k) ?_
    show OEnds p.tables e below G (T1001.setTop (mkF m 8 #[.val (.ref a1)] [(.double (0 : UInt64))]))
    refine OEnds.st (fun _ k => XS.goto X1001.here hx rfl (pc0 := 8) (pc' := 23) rfl (hb hby d5_8) (by decide) (by decide) k) ?_
    show OEnds p.tables e below G (T1001.setTop (mkF m 23 #[.val (.ref a1)] [(.double (0 : UInt64))]))
    rw [← hG]
    refine OEnds.retD X1001 hx hlk Bd.returns (hb hby d5_23) (by decide) (by decide) ?_
    rw [e1001]
    exact ⟨congrArg (fun z => some (Value.double z)) (by rw [own_rc, if_pos hc4_1002]), N0, rfl⟩
  · -- pc 4: no
    refine OEnds.st (fun _ k => XS.ifYes X1001.here hx rfl (pc0 := 4) (pc' := 11) rfl (hb hby d5_4) rfl ((if0 _ _).trans (feq hc4_1002).2) (by decide) (by decide) k) ?_
    show OEnds p.tables e below G (T1001.setTop (mkF m 11 #[.val (.ref a1)] []))
    refine OEnds.st (fun _ k => XS.aloadN X1001.here hx rfl (hb hby d5_11) rfl rfl k) ?_
    show OEnds p.tables e below G (T1001.setTop (mkF m 12 #[.val (.ref a1)] [(.ref a1)]))
    obtain ⟨T1003, X1003, e1003, st1003⟩ := getF X1001 hx hZ hown (host := "") (Or.inl (hw _ (List.mem_of_getElem? (i := 24) rfl))) Via.refl e1001 Fk (g := (mkF m 12 #[.val (.ref a1)] [(.ref a1)])) rfl rfl (hb hby d5_12)
    refine OEnds.st st1003 ?_
    clear st1003
    show OEnds p.tables e below G (T1003.setTop (mkF m 15 #[.val (.ref a1)] [(.ref a2)]))
    obtain ⟨cl1004, Ar1004, -, S1004, N1004n, -, -⟩ := id V
    refine OEnds.st (X1003.arraylength hx (by rw [e1003]; exact Ar1004.1) (State.isArrayOf_alike hZ.alike Ar1004.2.1) (g := (mkF m 15 #[.val (.ref a1)] [(.ref a2)])) rfl rfl (hb hby d5_15)) ?_
    rw [len_of S1004 N1004n]
    show OEnds p.tables e below G (T1003.setTop (mkF m 16 #[.val (.ref a1)] [(.int (0 : Int32))]))
    refine OEnds.st (fun _ k => XS.i2dS X1003.here hx rfl (hb hby d5_16) rfl (v := (0 : UInt64)) (by decide +kernel) k) ?_
    show OEnds p.tables e below G (T1003.setTop (mkF m 17 #[.val (.ref a1)] [(.double (0 : UInt64))]))
    refine OEnds.st (fun _ k => XS.aloadN X1003.here hx rfl (hb hby d5_17) rfl rfl k) ?_
    show OEnds p.tables e below G (T1003.setTop (mkF m 18 #[.val (.ref a1)] [(.ref a1), (.double (0 : UInt64))]))
    obtain ⟨T1005, X1005, e1005, st1005⟩ := getF X1003 hx hZ hown (host := "") (Or.inl (hw _ (List.mem_of_getElem? (i := 22) rfl))) Via.refl e1003 Fre (g := (mkF m 18 #[.val (.ref a1)] [(.ref a1), (.double (0 : UInt64))])) rfl rfl (hb hby d5_18)
    refine OEnds.st st1005 ?_
    clear st1005
    show OEnds p.tables e below G (T1005.setTop (mkF m 21 #[.val (.ref a1)] [(.int r), (.double (0 : UInt64))]))
    refine OEnds.st (fun _ k => XS.i2dS X1005.here hx rfl (hb hby d5_21) rfl (v := (FP.i2d r)) rfl k) ?_
    show OEnds p.tables e below G (T1005.setTop (mkF m 22 #[.val (.ref a1)] [(.double (FP.i2d r)), (.double (0 : UInt64))]))
    refine OEnds.st (fun _ k => XS.ddivS X1005.here hx rfl (hb hby d5_22) rfl (Fl.ddiv_out (own_nnL (by decide)) (Fl.i2d_fin _) (Fl.i2d_nz hc4_1002)) rfl k) ?_
    show OEnds p.tables e below G (T1005.setTop (mkF m 23 #[.val (.ref a1)] [(.double (FP.ddiv (0 : UInt64) (FP.i2d r)))]))
    rw [← hG]
    refine OEnds.retD X1005 hx hlk Bd.returns (hb hby d5_23) (by decide) (by decide) ?_
    rw [e1005]
    exact ⟨congrArg (fun z => some (Value.double z)) (by rw [own_rc, if_neg hc4_1002]), N0, rfl⟩
theorem ef_rw0 (m : MethodId) (a1 : Addr) (p2 : Int32) : entryFrame m #[(.ref a1), (.int p2)] 3 = mkF m 0 #[.val (.ref a1), .val (.int p2), .unset] [] := by first | (simp [entryFrame, mkF, argsToLocals, Value.category]; done) | rfl
def Qrw0 (Z : State) (a1 : Addr) (p2 : Int32) (a2 : Addr) (k : ClassId) (h0 : Heap) (n0 : Nat) (v : Option Value) (h : Heap) (L : List Loc) : Prop := v = some (.int (0 : Int32)) ∧ Fr n0 L ∧ h = h0
theorem d7_0 : decode prog_30_method_16_code 0 = .ok (.iconst 0, 1) := by decide +kernel
theorem d7_1 : decode prog_30_method_16_code 1 = .ok (.istore_n 2, 1) := by decide +kernel
theorem d7_2 : decode prog_30_method_16_code 2 = .ok (.iload_n 2, 1) := by decide +kernel
theorem d7_3 : decode prog_30_method_16_code 3 = .ok (.aload_n 0, 1) := by decide +kernel
theorem d7_4 : decode prog_30_method_16_code 4 = .ok (.getfield 16, 3) := by decide +kernel
theorem d7_7 : decode prog_30_method_16_code 7 = .ok (.arraylength, 1) := by decide +kernel
theorem d7_8 : decode prog_30_method_16_code 8 = .ok (.if_icmp .ge 19, 3) := by decide +kernel
theorem d7_27 : decode prog_30_method_16_code 27 = .ok (.iload_n 2, 1) := by decide +kernel
theorem d7_28 : decode prog_30_method_16_code 28 = .ok (.ireturn, 1) := by decide +kernel
set_option maxRecDepth 65536 in
set_option maxHeartbeats 40000000 in
theorem rmrw0 (l : Launch) (Z : State) (a0 : Array Value) (hw : ∀ d ∈ tables_1, d.before a0 Z = true) (ws : List Jvm.Cond) (a1 : Addr) (p2 : Int32) (a2 : Addr) (k : ClassId) (h0 : Heap) (n0 : Nat) (Z0 : n0 ≤ h0.size) (Fk : Fld Z h0 a1 "com/example/words_to_weights/wordstoweights/evaluation/JudgedRanking" "relevantRanks" "[I" (.ref a2)) (V : Arv Z h0 a2 k .int (0 : Int32) [] (.int (0 : Int32))) :
    MetFree l (⟨"com/example/words_to_weights/wordstoweights/evaluation/JudgedRanking", "relevantWithin", "(I)I"⟩ : MethodName) (head1 (Jvm.Cond.code (⟨"com/example/words_to_weights/wordstoweights/evaluation/JudgedRanking", "relevantWithin", "(I)I"⟩ : MethodName) prog_30_method_16_code 3 (some .int) :: ws) ({ frames := 0, cells := 0, slots := 0, locals := 0 } : Room)) (fun a U => a = #[(.ref a1), (.int p2)] ∧ Z.Warmed39 U.vm ∧ U.heap = h0) (fun _ _ _ _ _ => True) (fun _ U o U' => ∃ v L, o = .returned v ∧ Qrw0 Z a1 p2 a2 k h0 n0 v U'.heap L ∧ FrameEnd U o U' L ({ frames := 0, cells := 0, slots := 0, locals := 0 } : Room).cells ({ frames := 0, cells := 0, slots := 0, locals := 0 } : Room).slots) := by
  refine MetFree.of_bodySF (plainFor_of_name pn_0) hisR ?_
  intro p e s m args below meth c s₁ Bd hml0 hP hK
  obtain ⟨rfl, hZ, hh⟩ := hP
  have hx := Bd.exec
  have hby := Bd.bytes
  have hml : c.maxLocals = 3 := hml0
  have hown : s.vm.findClass "com/example/words_to_weights/wordstoweights/evaluation/JudgedRanking" = some m.cls := findClass_of_methodNamed Bd.named
  have hnm := (name_of_methodNamed Bd.named Bd.method).1
  have hlk : meth.locks = false := BodyLoose.notSynchronized Bd
  have X0 : Stand p l e ({ frames := 0, cells := 0, slots := 0, locals := 0 } : Room) s m #[(.ref a1), (.int p2)] below meth c s₁ [] 0 0 := Stand.of_body Bd
  have e0 : s₁.heap = h0 := by rw [← hh, Bd.state]; rfl
  have N0 := Fr.nil n0
  show OEnds p.tables e below (OGoal (Qrw0 Z a1 p2 a2 k h0 n0) s 0 0) (s₁.setTop (entryFrame m #[(.ref a1), (.int p2)] 3))
  refine OEnds.st (fun t k => castTop (ef_rw0 m a1 p2) k) ?_
  generalize hG : OGoal (Qrw0 Z a1 p2 a2 k h0 n0) s 0 0 = G
  have KK0 : Keep h0 h0 [] := Keep.refl h0 []
  show OEnds p.tables e below G (s₁.setTop (mkF m 0 #[.val (.ref a1), .val (.int p2), .unset] []))
  refine OEnds.st (fun _ k => XS.iconst X0.here hx rfl (hb hby d7_0) k) ?_
  show OEnds p.tables e below G (s₁.setTop (mkF m 1 #[.val (.ref a1), .val (.int p2), .unset] [(.int (0 : Int32))]))
  refine OEnds.st (fun _ k => XS.istoreN X0.here hx rfl (hb hby d7_1) rfl (l' := #[.val (.ref a1), .val (.int p2), .val (.int (0 : Int32))]) rfl k) ?_
  show OEnds p.tables e below G (s₁.setTop (mkF m 2 #[.val (.ref a1), .val (.int p2), .val (.int (0 : Int32))] []))
  refine OEnds.st (fun _ k => XS.iloadN X0.here hx rfl (hb hby d7_2) rfl k) ?_
  show OEnds p.tables e below G (s₁.setTop (mkF m 3 #[.val (.ref a1), .val (.int p2), .val (.int (0 : Int32))] [(.int (0 : Int32))]))
  refine OEnds.st (fun _ k => XS.aloadN X0.here hx rfl (hb hby d7_3) rfl rfl k) ?_
  show OEnds p.tables e below G (s₁.setTop (mkF m 4 #[.val (.ref a1), .val (.int p2), .val (.int (0 : Int32))] [(.ref a1), (.int (0 : Int32))]))
  obtain ⟨T1001, X1001, e1001, st1001⟩ := getF X0 hx hZ hown (host := "") (Or.inl (hw _ (List.mem_of_getElem? (i := 24) rfl))) Via.refl e0 Fk (g := (mkF m 4 #[.val (.ref a1), .val (.int p2), .val (.int (0 : Int32))] [(.ref a1), (.int (0 : Int32))])) rfl rfl (hb hby d7_4)
  refine OEnds.st st1001 ?_
  clear st1001
  show OEnds p.tables e below G (T1001.setTop (mkF m 7 #[.val (.ref a1), .val (.int p2), .val (.int (0 : Int32))] [(.ref a2), (.int (0 : Int32))]))
  obtain ⟨cl1002, Ar1002, -, S1002, N1002n, -, -⟩ := id V
  refine OEnds.st (X1001.arraylength hx (by rw [e1001]; exact Ar1002.1) (State.isArrayOf_alike hZ.alike Ar1002.2.1) (g := (mkF m 7 #[.val (.ref a1), .val (.int p2), .val (.int (0 : Int32))] [(.ref a2), (.int (0 : Int32))])) rfl rfl (hb hby d7_7)) ?_
  rw [len_of S1002 N1002n]
  show OEnds p.tables e below G (T1001.setTop (mkF m 8 #[.val (.ref a1), .val (.int p2), .val (.int (0 : Int32))] [(.int (0 : Int32)), (.int (0 : Int32))]))
  refine OEnds.st (fun _ k => XS.icmpYes X1001.here hx rfl (pc0 := 8) (pc' := 27) rfl (hb hby d7_8) rfl (flt (by decide : ¬ ((0 : Int32) < (0 : Int32)))).2.1 (by decide) (by decide) k) ?_
  show OEnds p.tables e below G (T1001.setTop (mkF m 27 #[.val (.ref a1), .val (.int p2), .val (.int (0 : Int32))] []))
  refine OEnds.st (fun _ k => XS.iloadN X1001.here hx rfl (hb hby d7_27) rfl k) ?_
  show OEnds p.tables e below G (T1001.setTop (mkF m 28 #[.val (.ref a1), .val (.int p2), .val (.int (0 : Int32))] [(.int (0 : Int32))]))
  rw [← hG]
  refine OEnds.retI X1001 hx hlk Bd.returns (hb hby d7_28) (by decide) (by decide) ?_
  rw [e1001]
  exact ⟨rfl, N0, rfl⟩
theorem ef_ra0 (m : MethodId) (a1 : Addr) (p2 : Int32) : entryFrame m #[(.ref a1), (.int p2)] 2 = mkF m 0 #[.val (.ref a1), .val (.int p2)] [] := by first | (simp [entryFrame, mkF, argsToLocals, Value.category]; done) | rfl
def Qra0 (Z : State) (a1 : Addr) (p2 : Int32) (r : Int32) (a2 : Addr) (k : ClassId) (h0 : Heap) (n0 : Nat) (v : Option Value) (h : Heap) (L : List Loc) : Prop := v = some (.double (own_rc (0 : UInt64) r)) ∧ Fr n0 L ∧ h = h0
theorem pd_0 : parseMethodDescriptor "(I)I" = some ⟨[.int], some .int⟩ := by decide +kernel
theorem d6_0 : decode prog_30_method_12_code 0 = .ok (.aload_n 0, 1) := by decide +kernel
theorem d6_1 : decode prog_30_method_12_code 1 = .ok (.getfield 13, 3) := by decide +kernel
theorem d6_4 : decode prog_30_method_12_code 4 = .ok (.ifCond .ne 7, 3) := by decide +kernel
theorem d6_7 : decode prog_30_method_12_code 7 = .ok (.dconst 0, 1) := by decide +kernel
theorem d6_8 : decode prog_30_method_12_code 8 = .ok (.goto 15, 3) := by decide +kernel
theorem d6_11 : decode prog_30_method_12_code 11 = .ok (.aload_n 0, 1) := by decide +kernel
theorem d6_12 : decode prog_30_method_12_code 12 = .ok (.iload_n 1, 1) := by decide +kernel
theorem d6_13 : decode prog_30_method_12_code 13 = .ok (.invokevirtual 22, 3) := by decide +kernel
theorem d6_16 : decode prog_30_method_12_code 16 = .ok (.i2d, 1) := by decide +kernel
theorem d6_17 : decode prog_30_method_12_code 17 = .ok (.aload_n 0, 1) := by decide +kernel
theorem d6_18 : decode prog_30_method_12_code 18 = .ok (.getfield 13, 3) := by decide +kernel
theorem d6_21 : decode prog_30_method_12_code 21 = .ok (.i2d, 1) := by decide +kernel
theorem d6_22 : decode prog_30_method_12_code 22 = .ok (.ddiv, 1) := by decide +kernel
theorem d6_23 : decode prog_30_method_12_code 23 = .ok (.dreturn, 1) := by decide +kernel
set_option maxRecDepth 65536 in
set_option maxHeartbeats 40000000 in
theorem rmra0 (l : Launch) (Z : State) (a0 : Array Value) (hw : ∀ d ∈ tables_1, d.before a0 Z = true) (ws : List Jvm.Cond) (a1 : Addr) (p2 : Int32) (r : Int32) (a2 : Addr) (k : ClassId) (h0 : Heap) (n0 : Nat) (Z0 : n0 ≤ h0.size) (E1 : Exa Z h0 a1 "com/example/words_to_weights/wordstoweights/evaluation/JudgedRanking") (Fre : Fld Z h0 a1 "com/example/words_to_weights/wordstoweights/evaluation/JudgedRanking" "relevant" "I" (.int r)) (Fk : Fld Z h0 a1 "com/example/words_to_weights/wordstoweights/evaluation/JudgedRanking" "relevantRanks" "[I" (.ref a2)) (V : Arv Z h0 a2 k .int (0 : Int32) [] (.int (0 : Int32))) :
    MetFree l (⟨"com/example/words_to_weights/wordstoweights/evaluation/JudgedRanking", "recallAt", "(I)D"⟩ : MethodName) (head1 (Jvm.Cond.code (⟨"com/example/words_to_weights/wordstoweights/evaluation/JudgedRanking", "recallAt", "(I)D"⟩ : MethodName) prog_30_method_12_code 2 (some .double) :: ws) ({ frames := 1, cells := 0, slots := 0, locals := 14 } : Room)) (fun a U => a = #[(.ref a1), (.int p2)] ∧ Z.Warmed39 U.vm ∧ U.heap = h0) (fun _ _ _ _ _ => True) (fun _ U o U' => ∃ v L, o = .returned v ∧ Qra0 Z a1 p2 r a2 k h0 n0 v U'.heap L ∧ FrameEnd U o U' L ({ frames := 1, cells := 0, slots := 0, locals := 14 } : Room).cells ({ frames := 1, cells := 0, slots := 0, locals := 14 } : Room).slots) := by
  refine MetFree.of_bodySF (plainFor_of_name pn_0) hisR ?_
  intro p e s m args below meth c s₁ Bd hml0 hP hK
  obtain ⟨rfl, hZ, hh⟩ := hP
  have hx := Bd.exec
  have hby := Bd.bytes
  have hml : c.maxLocals = 2 := hml0
  have hown : s.vm.findClass "com/example/words_to_weights/wordstoweights/evaluation/JudgedRanking" = some m.cls := findClass_of_methodNamed Bd.named
  have hnm := (name_of_methodNamed Bd.named Bd.method).1
  have hlk : meth.locks = false := BodyLoose.notSynchronized Bd
  have X0 : Stand p l e ({ frames := 1, cells := 0, slots := 0, locals := 14 } : Room) s m #[(.ref a1), (.int p2)] below meth c s₁ [] 0 0 := Stand.of_body Bd
  have e0 : s₁.heap = h0 := by rw [← hh, Bd.state]; rfl
  have N0 := Fr.nil n0
  show OEnds p.tables e below (OGoal (Qra0 Z a1 p2 r a2 k h0 n0) s 0 0) (s₁.setTop (entryFrame m #[(.ref a1), (.int p2)] 2))
  refine OEnds.st (fun t k => castTop (ef_ra0 m a1 p2) k) ?_
  generalize hG : OGoal (Qra0 Z a1 p2 r a2 k h0 n0) s 0 0 = G
  have KK0 : Keep h0 h0 [] := Keep.refl h0 []
  show OEnds p.tables e below G (s₁.setTop (mkF m 0 #[.val (.ref a1), .val (.int p2)] []))
  refine OEnds.st (fun _ k => XS.aloadN X0.here hx rfl (hb hby d6_0) rfl rfl k) ?_
  show OEnds p.tables e below G (s₁.setTop (mkF m 1 #[.val (.ref a1), .val (.int p2)] [(.ref a1)]))
  obtain ⟨T1001, X1001, e1001, st1001⟩ := getF X0 hx hZ hown (host := "") (Or.inl (hw _ (List.mem_of_getElem? (i := 22) rfl))) Via.refl e0 Fre (g := (mkF m 1 #[.val (.ref a1), .val (.int p2)] [(.ref a1)])) rfl rfl (hb hby d6_1)
  refine OEnds.st st1001 ?_
  clear st1001
  show OEnds p.tables e below G (T1001.setTop (mkF m 4 #[.val (.ref a1), .val (.int p2)] [(.int r)]))
  by_cases hc4_1002 : r = (0 : Int32)
  · -- pc 4: yes
    refine OEnds.st (fun _ k => XS.ifNo X1001.here hx rfl (hb hby d6_4) rfl ((if0 _ _).trans (teq hc4_1002).2) k) ?_
    show OEnds p.tables e below G (T1001.setTop (mkF m 7 #[.val (.ref a1), .val (.int p2)] []))
    refine OEnds.st (fun _ k => XS.dconst0 X1001.here hx rfl (hb hby d6_7) (v := (0 : UInt64)) rfl k) ?_
    show OEnds p.tables e below G (T1001.setTop (mkF m 8 #[.val (.ref a1), .val (.int p2)] [(.double (0 : UInt64))]))
    refine OEnds.st (fun _ k => XS.goto X1001.here hx rfl (pc0 := 8) (pc' := 23) rfl (hb hby d6_8) (by decide) (by decide) k) ?_
    show OEnds p.tables e below G (T1001.setTop (mkF m 23 #[.val (.ref a1), .val (.int p2)] [(.double (0 : UInt64))]))
    rw [← hG]
    refine OEnds.retD X1001 hx hlk Bd.returns (hb hby d6_23) (by decide) (by decide) ?_
    rw [e1001]
    exact ⟨congrArg (fun z => some (Value.double z)) (by rw [own_rc, if_pos hc4_1002]), N0, rfl⟩
  · -- pc 4: no
    refine OEnds.st (fun _ k => XS.ifYes X1001.here hx rfl (pc0 := 4) (pc' := 11) rfl (hb hby d6_4) rfl ((if0 _ _).trans (feq hc4_1002).2) (by decide) (by decide) k) ?_
    show OEnds p.tables e below G (T1001.setTop (mkF m 11 #[.val (.ref a1), .val (.int p2)] []))
    refine OEnds.st (fun _ k => XS.aloadN X1001.here hx rfl (hb hby d6_11) rfl rfl k) ?_
    show OEnds p.tables e below G (T1001.setTop (mkF m 12 #[.val (.ref a1), .val (.int p2)] [(.ref a1)]))
    refine OEnds.st (fun _ k => XS.iloadN X1001.here hx rfl (hb hby d6_12) rfl k) ?_
    show OEnds p.tables e below G (T1001.setTop (mkF m 13 #[.val (.ref a1), .val (.int p2)] [(.int p2), (.ref a1)]))
    obtain ⟨cq1003, q1003, q1003'⟩ := E1.cell
    obtain ⟨_, _, ⟨T1003, L1003, k1003c, n1003c⟩, -, X1003, ⟨Lc1003, hQ1003, l1003, y1003, z1003⟩, st1003⟩ := X1001.privateBack hx (y := (⟨"com/example/words_to_weights/wordstoweights/evaluation/JudgedRanking", "relevantWithin", "(I)I"⟩ : MethodName)) hown (mvT hZ (hw _ (List.mem_of_getElem? (i := 36) rfl))) (mvT hZ (hw _ (List.mem_of_getElem? (i := 37) rfl))) (own_selP (y := (⟨"com/example/words_to_weights/wordstoweights/evaluation/JudgedRanking", "relevantWithin", "(I)I"⟩ : MethodName)) (mvT hZ (hw _ (List.mem_of_getElem? (i := 12) rfl))) (mvP hZ (hw _ (List.mem_of_getElem? (i := 38) rfl))) (mvT hZ (hw _ (List.mem_of_getElem? (i := 37) rfl))) (by decide)) (Cond.privateMethod_at (mvP hZ (hw _ (List.mem_of_getElem? (i := 38) rfl)) (args := #[]))) (mvT hZ (hw _ (List.mem_of_getElem? (i := 39) rfl))) (by decide) (backOf (W := 0) (rmrw0 l Z a0 hw [] a1 p2 a2 k h0 n0 Z0 Fk V) hZ (hw _ (List.mem_of_getElem? (i := 39) rfl)) (hw _ (List.mem_of_getElem? (i := 13) rfl)) (by decide) (by decide)) (g := (mkF m 13 #[.val (.ref a1), .val (.int p2)] [(.int p2), (.ref a1)])) rfl (by rw [hml]; rfl) (Steps.refl _) (a := a1) (by rw [e1001]; exact q1003) q1003' (argsL := [(.int p2)]) (rest := []) (lenOf pd_0 rfl) rfl (by show 2 * 0 + _ ≤ _; exact Nat.le_of_eq rfl) (hb hby d6_13) (fun _ _ => ⟨rfl, e1001, (by decide : 0 + 0 ≤ _), (by decide : 0 + 0 ≤ _)⟩)
    dsimp only [Pt.U, Pt.locs, Pt.cells, Pt.slots] at X1003 l1003 y1003 z1003 st1003 hQ1003
    subst l1003 y1003 z1003
    obtain ⟨rfl, N1003q, e1003⟩ := hQ1003
    have N1003 := Fr.app N0 N1003q
    refine OEnds.st (fun _ k => st1003.trans k) ?_
    clear st1003
    show OEnds p.tables e below G (T1003.setTop (mkF m 16 #[.val (.ref a1), .val (.int p2)] [(.int (0 : Int32))]))
    refine OEnds.st (fun _ k => XS.i2dS X1003.here hx rfl (hb hby d6_16) rfl (v := (0 : UInt64)) (by decide +kernel) k) ?_
    show OEnds p.tables e below G (T1003.setTop (mkF m 17 #[.val (.ref a1), .val (.int p2)] [(.double (0 : UInt64))]))
    refine OEnds.st (fun _ k => XS.aloadN X1003.here hx rfl (hb hby d6_17) rfl rfl k) ?_
    show OEnds p.tables e below G (T1003.setTop (mkF m 18 #[.val (.ref a1), .val (.int p2)] [(.ref a1), (.double (0 : UInt64))]))
    obtain ⟨T1004, X1004, e1004, st1004⟩ := getF X1003 hx hZ hown (host := "") (Or.inl (hw _ (List.mem_of_getElem? (i := 22) rfl))) Via.refl e1003 Fre (g := (mkF m 18 #[.val (.ref a1), .val (.int p2)] [(.ref a1), (.double (0 : UInt64))])) rfl rfl (hb hby d6_18)
    refine OEnds.st st1004 ?_
    clear st1004
    show OEnds p.tables e below G (T1004.setTop (mkF m 21 #[.val (.ref a1), .val (.int p2)] [(.int r), (.double (0 : UInt64))]))
    refine OEnds.st (fun _ k => XS.i2dS X1004.here hx rfl (hb hby d6_21) rfl (v := (FP.i2d r)) rfl k) ?_
    show OEnds p.tables e below G (T1004.setTop (mkF m 22 #[.val (.ref a1), .val (.int p2)] [(.double (FP.i2d r)), (.double (0 : UInt64))]))
    refine OEnds.st (fun _ k => XS.ddivS X1004.here hx rfl (hb hby d6_22) rfl (Fl.ddiv_out (own_nnL (by decide)) (Fl.i2d_fin _) (Fl.i2d_nz hc4_1002)) rfl k) ?_
    show OEnds p.tables e below G (T1004.setTop (mkF m 23 #[.val (.ref a1), .val (.int p2)] [(.double (FP.ddiv (0 : UInt64) (FP.i2d r)))]))
    rw [← hG]
    refine OEnds.retD X1004 hx hlk Bd.returns (hb hby d6_23) (by decide) (by decide) ?_
    rw [e1004]
    exact ⟨congrArg (fun z => some (Value.double z)) (by rw [own_rc, if_neg hc4_1002]), N1003, rfl⟩
theorem ef_rk1 (m : MethodId) (e1 : Int32) (e2 : Int32) (e3 : Int32) : entryFrame m #[(.int (1 : Int32)), (.int e1), (.int e2), (.int e3)] 4 = mkF m 0 #[.val (.int (1 : Int32)), .val (.int e1), .val (.int e2), .val (.int e3)] [] := by first | (simp [entryFrame, mkF, argsToLocals, Value.category]; done) | rfl
def Qrk1 (Z : State) (e1 : Int32) (e2 : Int32) (e3 : Int32) (h0 : Heap) (n0 : Nat) (v : Option Value) (h : Heap) (L : List Loc) : Prop := ∃ (b : Addr) (kb : ClassId), v = some (.ref b) ∧ Fr n0 L ∧ Keep h0 h [] ∧ h0.size ≤ b ∧ Arv Z h b kb .int (1 : Int32) [(.int e1)] (.int (0 : Int32))
theorem d2_8 : decode method_2_code 8 = .ok (.iload_n 0, 1) := by decide +kernel
theorem d2_9 : decode method_2_code 9 = .ok (.iconst 1, 1) := by decide +kernel
theorem d2_10 : decode method_2_code 10 = .ok (.if_icmp .ne 11, 3) := by decide +kernel
theorem d2_13 : decode method_2_code 13 = .ok (.iconst 1, 1) := by decide +kernel
theorem d2_14 : decode method_2_code 14 = .ok (.newarray .int, 2) := by decide +kernel
theorem d2_16 : decode method_2_code 16 = .ok (.dup, 1) := by decide +kernel
theorem d2_17 : decode method_2_code 17 = .ok (.iconst 0, 1) := by decide +kernel
theorem d2_18 : decode method_2_code 18 = .ok (.iload_n 1, 1) := by decide +kernel
theorem d2_19 : decode method_2_code 19 = .ok (.iastore, 1) := by decide +kernel
theorem d2_20 : decode method_2_code 20 = .ok (.areturn, 1) := by decide +kernel
set_option maxRecDepth 65536 in
set_option maxHeartbeats 40000000 in
theorem rmrk1 (l : Launch) (Z : State) (a0 : Array Value) (hw : ∀ d ∈ tables_1, d.before a0 Z = true) (ws : List Jvm.Cond) (e1 : Int32) (e2 : Int32) (e3 : Int32) (h0 : Heap) (n0 : Nat) (Z0 : n0 ≤ h0.size) :
    MetFree l (⟨"com/example/words_to_weights/wordstoweights/evaluation/JudgedRankingSetRecallPinLaw", "ranks", "(IIII)[I"⟩ : MethodName) (head1 (Jvm.Cond.code (⟨"com/example/words_to_weights/wordstoweights/evaluation/JudgedRankingSetRecallPinLaw", "ranks", "(IIII)[I"⟩ : MethodName) method_2_code 4 (some (.array .int)) :: ws) ({ frames := 0, cells := 1, slots := 1, locals := 0 } : Room)) (fun a U => a = #[(.int (1 : Int32)), (.int e1), (.int e2), (.int e3)] ∧ Z.Warmed39 U.vm ∧ U.heap = h0) (fun _ _ _ _ _ => True) (fun _ U o U' => ∃ v L, o = .returned v ∧ Qrk1 Z e1 e2 e3 h0 n0 v U'.heap L ∧ FrameEnd U o U' L ({ frames := 0, cells := 1, slots := 1, locals := 0 } : Room).cells ({ frames := 0, cells := 1, slots := 1, locals := 0 } : Room).slots) := by
  refine MetFree.of_bodySF (plainFor_of_name pn_1) hisR ?_
  intro p e s m args below meth c s₁ Bd hml0 hP hK
  obtain ⟨rfl, hZ, hh⟩ := hP
  have hx := Bd.exec
  have hby := Bd.bytes
  have hml : c.maxLocals = 4 := hml0
  have hown : s.vm.findClass "com/example/words_to_weights/wordstoweights/evaluation/JudgedRankingSetRecallPinLaw" = some m.cls := findClass_of_methodNamed Bd.named
  have hnm := (name_of_methodNamed Bd.named Bd.method).1
  have hlk : meth.locks = false := BodyLoose.notSynchronized Bd
  have X0 : Stand p l e ({ frames := 0, cells := 1, slots := 1, locals := 0 } : Room) s m #[(.int (1 : Int32)), (.int e1), (.int e2), (.int e3)] below meth c s₁ [] 0 0 := Stand.of_body Bd
  have e0 : s₁.heap = h0 := by rw [← hh, Bd.state]; rfl
  have N0 := Fr.nil n0
  show OEnds p.tables e below (OGoal (Qrk1 Z e1 e2 e3 h0 n0) s 1 1) (s₁.setTop (entryFrame m #[(.int (1 : Int32)), (.int e1), (.int e2), (.int e3)] 4))
  refine OEnds.st (fun t k => castTop (ef_rk1 m e1 e2 e3) k) ?_
  generalize hG : OGoal (Qrk1 Z e1 e2 e3 h0 n0) s 1 1 = G
  have KK0 : Keep h0 h0 [] := Keep.refl h0 []
  show OEnds p.tables e below G (s₁.setTop (mkF m 0 #[.val (.int (1 : Int32)), .val (.int e1), .val (.int e2), .val (.int e3)] []))
  refine OEnds.st (fun _ k => XS.iloadN X0.here hx rfl (hb hby d2_0) rfl k) ?_
  show OEnds p.tables e below G (s₁.setTop (mkF m 1 #[.val (.int (1 : Int32)), .val (.int e1), .val (.int e2), .val (.int e3)] [(.int (1 : Int32))]))
  refine OEnds.st (fun _ k => XS.ifYes X0.here hx rfl (pc0 := 1) (pc' := 8) rfl (hb hby d2_1) rfl ((if0 _ _).trans (feq (by decide : ¬ ((1 : Int32) = (0 : Int32)))).2) (by decide) (by decide) k) ?_
  show OEnds p.tables e below G (s₁.setTop (mkF m 8 #[.val (.int (1 : Int32)), .val (.int e1), .val (.int e2), .val (.int e3)] []))
  refine OEnds.st (fun _ k => XS.iloadN X0.here hx rfl (hb hby d2_8) rfl k) ?_
  show OEnds p.tables e below G (s₁.setTop (mkF m 9 #[.val (.int (1 : Int32)), .val (.int e1), .val (.int e2), .val (.int e3)] [(.int (1 : Int32))]))
  refine OEnds.st (fun _ k => XS.iconst X0.here hx rfl (hb hby d2_9) k) ?_
  show OEnds p.tables e below G (s₁.setTop (mkF m 10 #[.val (.int (1 : Int32)), .val (.int e1), .val (.int e2), .val (.int e3)] [(.int (1 : Int32)), (.int (1 : Int32))]))
  refine OEnds.st (fun _ k => XS.icmpNo X0.here hx rfl (hb hby d2_10) rfl (teq (by decide : (1 : Int32) = (1 : Int32))).2 k) ?_
  show OEnds p.tables e below G (s₁.setTop (mkF m 13 #[.val (.int (1 : Int32)), .val (.int e1), .val (.int e2), .val (.int e3)] []))
  refine OEnds.st (fun _ k => XS.iconst X0.here hx rfl (hb hby d2_13) k) ?_
  show OEnds p.tables e below G (s₁.setTop (mkF m 14 #[.val (.int (1 : Int32)), .val (.int e1), .val (.int e2), .val (.int e3)] [(.int (1 : Int32))]))
  obtain ⟨T1001, h1001, k1001, X1001, e1001, E1001, A1001, st1001⟩ := newP X0 hx hZ (hw _ (List.mem_of_getElem? (i := 10) rfl)) e0 (g := (mkF m 14 #[.val (.int (1 : Int32)), .val (.int e1), .val (.int e2), .val (.int e3)] [(.int (1 : Int32))])) rfl (hb hby d2_14) rfl (by decide) (cap := 1) (by decide) (by decide) (by decide) (by decide)
  obtain ⟨b1001, g1001⟩ : ∃ z, z = h0.size := ⟨_, rfl⟩
  rw [← g1001] at A1001 st1001
  refine OEnds.st st1001 ?_
  clear st1001
  have ge_b1001 : n0 ≤ b1001 := Nat.le_trans Z0 (Nat.le_of_eq g1001.symm)
  have sz_b1001 : h0.size ≤ b1001 := Nat.le_trans KK0.1 (Nat.le_of_eq g1001.symm)
  have KK1001 : Keep h0 h1001 [] := KK0.ext E1001
  have Z1001 := Nat.le_trans Z0 E1001.1
  have f1002 : Arv Z h1001 b1001 k1001 .int (1 : Int32) [(.int (0 : Int32))] (.int (0 : Int32)) := (Arv.new A1001 (by decide)).pad (pad_rep [] (.int (0 : Int32)) 1)
  show OEnds p.tables e below G (T1001.setTop (mkF m 16 #[.val (.int (1 : Int32)), .val (.int e1), .val (.int e2), .val (.int e3)] [(.ref b1001)]))
  refine OEnds.st (fun _ k => XS.dup X1001.here hx rfl (hb hby d2_16) rfl rfl k) ?_
  show OEnds p.tables e below G (T1001.setTop (mkF m 17 #[.val (.int (1 : Int32)), .val (.int e1), .val (.int e2), .val (.int e3)] [(.ref b1001), (.ref b1001)]))
  refine OEnds.st (fun _ k => XS.iconst X1001.here hx rfl (hb hby d2_17) k) ?_
  show OEnds p.tables e below G (T1001.setTop (mkF m 18 #[.val (.int (1 : Int32)), .val (.int e1), .val (.int e2), .val (.int e3)] [(.int (0 : Int32)), (.ref b1001), (.ref b1001)]))
  refine OEnds.st (fun _ k => XS.iloadN X1001.here hx rfl (hb hby d2_18) rfl k) ?_
  show OEnds p.tables e below G (T1001.setTop (mkF m 19 #[.val (.int (1 : Int32)), .val (.int e1), .val (.int e2), .val (.int e3)] [(.int e1), (.int (0 : Int32)), (.ref b1001), (.ref b1001)]))
  obtain ⟨cl1003, Ar1003, q1003, S1003, N1003n, H1003, G1003⟩ := id f1002
  have hin1003 : ¬ ((0 : Int32) < 0 ∨ cl1003.slots.size ≤ ((0 : Int32)).toNatClampNeg) := inb_of S1003 ⟨by decide, by decide⟩
  obtain ⟨T1003, h1003, X1003, e1003, W1003, st1003⟩ := stI X1001 hx hZ e1001 Ar1003 (j := (0 : Int32)) hin1003 (g := (mkF m 19 #[.val (.int (1 : Int32)), .val (.int e1), .val (.int e2), .val (.int e3)] [(.int e1), (.int (0 : Int32)), (.ref b1001), (.ref b1001)])) rfl rfl (hb hby d2_19)
  refine OEnds.st st1003 ?_
  clear st1003
  have f1004 : Arv Z h1003 b1001 k1001 .int (1 : Int32) [(.int e1)] (.int (0 : Int32)) := Arv.set Ar1003 q1003 S1003 N1003n H1003 G1003 rfl W1003 0 rfl (Nat.le_of_ble_eq_true rfl)
  have N1003 := Fr.snoc X1003 N0 ge_b1001
  have KK1003 : Keep h0 h1003 [] := KK1001.wr W1003 (Or.inr sz_b1001)
  have Z1003 := Nat.le_trans Z1001 (Keep.of_wr W1003).1
  show OEnds p.tables e below G (T1003.setTop (mkF m 20 #[.val (.int (1 : Int32)), .val (.int e1), .val (.int e2), .val (.int e3)] [(.ref b1001)]))
  rw [← hG]
  refine OEnds.retA X1003 hx hlk Bd.returns (by first | rfl | exact rfl) rfl (hb hby d2_20) (by decide) (by decide) ?_
  rw [e1003]
  exact ⟨b1001, k1001, rfl, N1003, KK1003, sz_b1001, f1004⟩
theorem ef_sr1 (m : MethodId) (a1 : Addr) : entryFrame m #[(.ref a1)] 1 = mkF m 0 #[.val (.ref a1)] [] := by first | (simp [entryFrame, mkF, argsToLocals, Value.category]; done) | rfl
def Qsr1 (Z : State) (a1 : Addr) (r : Int32) (a2 : Addr) (k : ClassId) (vs : List Value) (h0 : Heap) (n0 : Nat) (v : Option Value) (h : Heap) (L : List Loc) : Prop := v = some (.double (own_rc (4607182418800017408 : UInt64) r)) ∧ Fr n0 L ∧ h = h0
set_option maxRecDepth 65536 in
set_option maxHeartbeats 40000000 in
theorem rmsr1 (l : Launch) (Z : State) (a0 : Array Value) (hw : ∀ d ∈ tables_1, d.before a0 Z = true) (ws : List Jvm.Cond) (a1 : Addr) (r : Int32) (a2 : Addr) (k : ClassId) (vs : List Value) (h0 : Heap) (n0 : Nat) (Z0 : n0 ≤ h0.size) (Fre : Fld Z h0 a1 "com/example/words_to_weights/wordstoweights/evaluation/JudgedRanking" "relevant" "I" (.int r)) (Fk : Fld Z h0 a1 "com/example/words_to_weights/wordstoweights/evaluation/JudgedRanking" "relevantRanks" "[I" (.ref a2)) (V : Arv Z h0 a2 k .int (1 : Int32) vs (.int (0 : Int32))) :
    MetFree l (⟨"com/example/words_to_weights/wordstoweights/evaluation/JudgedRanking", "setRecall", "()D"⟩ : MethodName) (head1 (Jvm.Cond.code (⟨"com/example/words_to_weights/wordstoweights/evaluation/JudgedRanking", "setRecall", "()D"⟩ : MethodName) prog_30_method_14_code 1 (some .double) :: ws) ({ frames := 0, cells := 0, slots := 0, locals := 0 } : Room)) (fun a U => a = #[(.ref a1)] ∧ Z.Warmed39 U.vm ∧ U.heap = h0) (fun _ _ _ _ _ => True) (fun _ U o U' => ∃ v L, o = .returned v ∧ Qsr1 Z a1 r a2 k vs h0 n0 v U'.heap L ∧ FrameEnd U o U' L ({ frames := 0, cells := 0, slots := 0, locals := 0 } : Room).cells ({ frames := 0, cells := 0, slots := 0, locals := 0 } : Room).slots) := by
  refine MetFree.of_bodySF (plainFor_of_name pn_0) hisR ?_
  intro p e s m args below meth c s₁ Bd hml0 hP hK
  obtain ⟨rfl, hZ, hh⟩ := hP
  have hx := Bd.exec
  have hby := Bd.bytes
  have hml : c.maxLocals = 1 := hml0
  have hown : s.vm.findClass "com/example/words_to_weights/wordstoweights/evaluation/JudgedRanking" = some m.cls := findClass_of_methodNamed Bd.named
  have hnm := (name_of_methodNamed Bd.named Bd.method).1
  have hlk : meth.locks = false := BodyLoose.notSynchronized Bd
  have X0 : Stand p l e ({ frames := 0, cells := 0, slots := 0, locals := 0 } : Room) s m #[(.ref a1)] below meth c s₁ [] 0 0 := Stand.of_body Bd
  have e0 : s₁.heap = h0 := by rw [← hh, Bd.state]; rfl
  have N0 := Fr.nil n0
  show OEnds p.tables e below (OGoal (Qsr1 Z a1 r a2 k vs h0 n0) s 0 0) (s₁.setTop (entryFrame m #[(.ref a1)] 1))
  refine OEnds.st (fun t k => castTop (ef_sr1 m a1) k) ?_
  generalize hG : OGoal (Qsr1 Z a1 r a2 k vs h0 n0) s 0 0 = G
  have KK0 : Keep h0 h0 [] := Keep.refl h0 []
  show OEnds p.tables e below G (s₁.setTop (mkF m 0 #[.val (.ref a1)] []))
  refine OEnds.st (fun _ k => XS.aloadN X0.here hx rfl (hb hby d5_0) rfl rfl k) ?_
  show OEnds p.tables e below G (s₁.setTop (mkF m 1 #[.val (.ref a1)] [(.ref a1)]))
  obtain ⟨T1001, X1001, e1001, st1001⟩ := getF X0 hx hZ hown (host := "") (Or.inl (hw _ (List.mem_of_getElem? (i := 22) rfl))) Via.refl e0 Fre (g := (mkF m 1 #[.val (.ref a1)] [(.ref a1)])) rfl rfl (hb hby d5_1)
  refine OEnds.st st1001 ?_
  clear st1001
  show OEnds p.tables e below G (T1001.setTop (mkF m 4 #[.val (.ref a1)] [(.int r)]))
  by_cases hc4_1002 : r = (0 : Int32)
  · -- pc 4: yes
    refine OEnds.st (fun _ k => XS.ifNo X1001.here hx rfl (hb hby d5_4) rfl ((if0 _ _).trans (teq hc4_1002).2) k) ?_
    show OEnds p.tables e below G (T1001.setTop (mkF m 7 #[.val (.ref a1)] []))
    refine OEnds.st (fun _ k => XS.dconst0 X1001.here hx rfl (hb hby d5_7) (v := (0 : UInt64)) rfl k) ?_
    show OEnds p.tables e below G (T1001.setTop (mkF m 8 #[.val (.ref a1)] [(.double (0 : UInt64))]))
    refine OEnds.st (fun _ k => XS.goto X1001.here hx rfl (pc0 := 8) (pc' := 23) rfl (hb hby d5_8) (by decide) (by decide) k) ?_
    show OEnds p.tables e below G (T1001.setTop (mkF m 23 #[.val (.ref a1)] [(.double (0 : UInt64))]))
    rw [← hG]
    refine OEnds.retD X1001 hx hlk Bd.returns (hb hby d5_23) (by decide) (by decide) ?_
    rw [e1001]
    exact ⟨congrArg (fun z => some (Value.double z)) (by rw [own_rc, if_pos hc4_1002]), N0, rfl⟩
  · -- pc 4: no
    refine OEnds.st (fun _ k => XS.ifYes X1001.here hx rfl (pc0 := 4) (pc' := 11) rfl (hb hby d5_4) rfl ((if0 _ _).trans (feq hc4_1002).2) (by decide) (by decide) k) ?_
    show OEnds p.tables e below G (T1001.setTop (mkF m 11 #[.val (.ref a1)] []))
    refine OEnds.st (fun _ k => XS.aloadN X1001.here hx rfl (hb hby d5_11) rfl rfl k) ?_
    show OEnds p.tables e below G (T1001.setTop (mkF m 12 #[.val (.ref a1)] [(.ref a1)]))
    obtain ⟨T1003, X1003, e1003, st1003⟩ := getF X1001 hx hZ hown (host := "") (Or.inl (hw _ (List.mem_of_getElem? (i := 24) rfl))) Via.refl e1001 Fk (g := (mkF m 12 #[.val (.ref a1)] [(.ref a1)])) rfl rfl (hb hby d5_12)
    refine OEnds.st st1003 ?_
    clear st1003
    show OEnds p.tables e below G (T1003.setTop (mkF m 15 #[.val (.ref a1)] [(.ref a2)]))
    obtain ⟨cl1004, Ar1004, -, S1004, N1004n, -, -⟩ := id V
    refine OEnds.st (X1003.arraylength hx (by rw [e1003]; exact Ar1004.1) (State.isArrayOf_alike hZ.alike Ar1004.2.1) (g := (mkF m 15 #[.val (.ref a1)] [(.ref a2)])) rfl rfl (hb hby d5_15)) ?_
    rw [len_of S1004 N1004n]
    show OEnds p.tables e below G (T1003.setTop (mkF m 16 #[.val (.ref a1)] [(.int (1 : Int32))]))
    refine OEnds.st (fun _ k => XS.i2dS X1003.here hx rfl (hb hby d5_16) rfl (v := (4607182418800017408 : UInt64)) (by decide +kernel) k) ?_
    show OEnds p.tables e below G (T1003.setTop (mkF m 17 #[.val (.ref a1)] [(.double (4607182418800017408 : UInt64))]))
    refine OEnds.st (fun _ k => XS.aloadN X1003.here hx rfl (hb hby d5_17) rfl rfl k) ?_
    show OEnds p.tables e below G (T1003.setTop (mkF m 18 #[.val (.ref a1)] [(.ref a1), (.double (4607182418800017408 : UInt64))]))
    obtain ⟨T1005, X1005, e1005, st1005⟩ := getF X1003 hx hZ hown (host := "") (Or.inl (hw _ (List.mem_of_getElem? (i := 22) rfl))) Via.refl e1003 Fre (g := (mkF m 18 #[.val (.ref a1)] [(.ref a1), (.double (4607182418800017408 : UInt64))])) rfl rfl (hb hby d5_18)
    refine OEnds.st st1005 ?_
    clear st1005
    show OEnds p.tables e below G (T1005.setTop (mkF m 21 #[.val (.ref a1)] [(.int r), (.double (4607182418800017408 : UInt64))]))
    refine OEnds.st (fun _ k => XS.i2dS X1005.here hx rfl (hb hby d5_21) rfl (v := (FP.i2d r)) rfl k) ?_
    show OEnds p.tables e below G (T1005.setTop (mkF m 22 #[.val (.ref a1)] [(.double (FP.i2d r)), (.double (4607182418800017408 : UInt64))]))
    refine OEnds.st (fun _ k => XS.ddivS X1005.here hx rfl (hb hby d5_22) rfl (Fl.ddiv_out (own_nnL (by decide)) (Fl.i2d_fin _) (Fl.i2d_nz hc4_1002)) rfl k) ?_
    show OEnds p.tables e below G (T1005.setTop (mkF m 23 #[.val (.ref a1)] [(.double (FP.ddiv (4607182418800017408 : UInt64) (FP.i2d r)))]))
    rw [← hG]
    refine OEnds.retD X1005 hx hlk Bd.returns (hb hby d5_23) (by decide) (by decide) ?_
    rw [e1005]
    exact ⟨congrArg (fun z => some (Value.double z)) (by rw [own_rc, if_neg hc4_1002]), N0, rfl⟩
theorem ef_rw1 (m : MethodId) (a1 : Addr) (p2 : Int32) : entryFrame m #[(.ref a1), (.int p2)] 3 = mkF m 0 #[.val (.ref a1), .val (.int p2), .unset] [] := by first | (simp [entryFrame, mkF, argsToLocals, Value.category]; done) | rfl
def Qrw1 (Z : State) (a1 : Addr) (p2 : Int32) (a2 : Addr) (k : ClassId) (e1 : Int32) (h0 : Heap) (n0 : Nat) (v : Option Value) (h : Heap) (L : List Loc) : Prop := v = some (.int (1 : Int32)) ∧ Fr n0 L ∧ h = h0
theorem d7_11 : decode prog_30_method_16_code 11 = .ok (.aload_n 0, 1) := by decide +kernel
theorem d7_12 : decode prog_30_method_16_code 12 = .ok (.getfield 16, 3) := by decide +kernel
theorem d7_15 : decode prog_30_method_16_code 15 = .ok (.iload_n 2, 1) := by decide +kernel
theorem d7_16 : decode prog_30_method_16_code 16 = .ok (.iaload, 1) := by decide +kernel
theorem d7_17 : decode prog_30_method_16_code 17 = .ok (.iload_n 1, 1) := by decide +kernel
theorem d7_18 : decode prog_30_method_16_code 18 = .ok (.if_icmp .gt 9, 3) := by decide +kernel
theorem d7_21 : decode prog_30_method_16_code 21 = .ok (.iinc 2 1, 3) := by decide +kernel
theorem d7_24 : decode prog_30_method_16_code 24 = .ok (.goto (-22), 3) := by decide +kernel
set_option maxRecDepth 65536 in
set_option maxHeartbeats 40000000 in
theorem rmrw1 (l : Launch) (Z : State) (a0 : Array Value) (hw : ∀ d ∈ tables_1, d.before a0 Z = true) (ws : List Jvm.Cond) (a1 : Addr) (p2 : Int32) (a2 : Addr) (k : ClassId) (e1 : Int32) (h0 : Heap) (n0 : Nat) (Z0 : n0 ≤ h0.size) (Fk : Fld Z h0 a1 "com/example/words_to_weights/wordstoweights/evaluation/JudgedRanking" "relevantRanks" "[I" (.ref a2)) (V : Arv Z h0 a2 k .int (1 : Int32) [(.int e1)] (.int (0 : Int32))) (he1 : ¬ (p2 < e1)) :
    MetFree l (⟨"com/example/words_to_weights/wordstoweights/evaluation/JudgedRanking", "relevantWithin", "(I)I"⟩ : MethodName) (head1 (Jvm.Cond.code (⟨"com/example/words_to_weights/wordstoweights/evaluation/JudgedRanking", "relevantWithin", "(I)I"⟩ : MethodName) prog_30_method_16_code 3 (some .int) :: ws) ({ frames := 0, cells := 0, slots := 0, locals := 0 } : Room)) (fun a U => a = #[(.ref a1), (.int p2)] ∧ Z.Warmed39 U.vm ∧ U.heap = h0) (fun _ _ _ _ _ => True) (fun _ U o U' => ∃ v L, o = .returned v ∧ Qrw1 Z a1 p2 a2 k e1 h0 n0 v U'.heap L ∧ FrameEnd U o U' L ({ frames := 0, cells := 0, slots := 0, locals := 0 } : Room).cells ({ frames := 0, cells := 0, slots := 0, locals := 0 } : Room).slots) := by
  refine MetFree.of_bodySF (plainFor_of_name pn_0) hisR ?_
  intro p e s m args below meth c s₁ Bd hml0 hP hK
  obtain ⟨rfl, hZ, hh⟩ := hP
  have hx := Bd.exec
  have hby := Bd.bytes
  have hml : c.maxLocals = 3 := hml0
  have hown : s.vm.findClass "com/example/words_to_weights/wordstoweights/evaluation/JudgedRanking" = some m.cls := findClass_of_methodNamed Bd.named
  have hnm := (name_of_methodNamed Bd.named Bd.method).1
  have hlk : meth.locks = false := BodyLoose.notSynchronized Bd
  have X0 : Stand p l e ({ frames := 0, cells := 0, slots := 0, locals := 0 } : Room) s m #[(.ref a1), (.int p2)] below meth c s₁ [] 0 0 := Stand.of_body Bd
  have e0 : s₁.heap = h0 := by rw [← hh, Bd.state]; rfl
  have N0 := Fr.nil n0
  show OEnds p.tables e below (OGoal (Qrw1 Z a1 p2 a2 k e1 h0 n0) s 0 0) (s₁.setTop (entryFrame m #[(.ref a1), (.int p2)] 3))
  refine OEnds.st (fun t k => castTop (ef_rw1 m a1 p2) k) ?_
  generalize hG : OGoal (Qrw1 Z a1 p2 a2 k e1 h0 n0) s 0 0 = G
  have KK0 : Keep h0 h0 [] := Keep.refl h0 []
  show OEnds p.tables e below G (s₁.setTop (mkF m 0 #[.val (.ref a1), .val (.int p2), .unset] []))
  refine OEnds.st (fun _ k => XS.iconst X0.here hx rfl (hb hby d7_0) k) ?_
  show OEnds p.tables e below G (s₁.setTop (mkF m 1 #[.val (.ref a1), .val (.int p2), .unset] [(.int (0 : Int32))]))
  refine OEnds.st (fun _ k => XS.istoreN X0.here hx rfl (hb hby d7_1) rfl (l' := #[.val (.ref a1), .val (.int p2), .val (.int (0 : Int32))]) rfl k) ?_
  show OEnds p.tables e below G (s₁.setTop (mkF m 2 #[.val (.ref a1), .val (.int p2), .val (.int (0 : Int32))] []))
  refine OEnds.st (fun _ k => XS.iloadN X0.here hx rfl (hb hby d7_2) rfl k) ?_
  show OEnds p.tables e below G (s₁.setTop (mkF m 3 #[.val (.ref a1), .val (.int p2), .val (.int (0 : Int32))] [(.int (0 : Int32))]))
  refine OEnds.st (fun _ k => XS.aloadN X0.here hx rfl (hb hby d7_3) rfl rfl k) ?_
  show OEnds p.tables e below G (s₁.setTop (mkF m 4 #[.val (.ref a1), .val (.int p2), .val (.int (0 : Int32))] [(.ref a1), (.int (0 : Int32))]))
  obtain ⟨T1001, X1001, e1001, st1001⟩ := getF X0 hx hZ hown (host := "") (Or.inl (hw _ (List.mem_of_getElem? (i := 24) rfl))) Via.refl e0 Fk (g := (mkF m 4 #[.val (.ref a1), .val (.int p2), .val (.int (0 : Int32))] [(.ref a1), (.int (0 : Int32))])) rfl rfl (hb hby d7_4)
  refine OEnds.st st1001 ?_
  clear st1001
  show OEnds p.tables e below G (T1001.setTop (mkF m 7 #[.val (.ref a1), .val (.int p2), .val (.int (0 : Int32))] [(.ref a2), (.int (0 : Int32))]))
  obtain ⟨cl1002, Ar1002, -, S1002, N1002n, -, -⟩ := id V
  refine OEnds.st (X1001.arraylength hx (by rw [e1001]; exact Ar1002.1) (State.isArrayOf_alike hZ.alike Ar1002.2.1) (g := (mkF m 7 #[.val (.ref a1), .val (.int p2), .val (.int (0 : Int32))] [(.ref a2), (.int (0 : Int32))])) rfl rfl (hb hby d7_7)) ?_
  rw [len_of S1002 N1002n]
  show OEnds p.tables e below G (T1001.setTop (mkF m 8 #[.val (.ref a1), .val (.int p2), .val (.int (0 : Int32))] [(.int (1 : Int32)), (.int (0 : Int32))]))
  refine OEnds.st (fun _ k => XS.icmpNo X1001.here hx rfl (hb hby d7_8) rfl (tlt (by decide : (0 : Int32) < (1 : Int32))).2.1 k) ?_
  show OEnds p.tables e below G (T1001.setTop (mkF m 11 #[.val (.ref a1), .val (.int p2), .val (.int (0 : Int32))] []))
  refine OEnds.st (fun _ k => XS.aloadN X1001.here hx rfl (hb hby d7_11) rfl rfl k) ?_
  show OEnds p.tables e below G (T1001.setTop (mkF m 12 #[.val (.ref a1), .val (.int p2), .val (.int (0 : Int32))] [(.ref a1)]))
  obtain ⟨T1003, X1003, e1003, st1003⟩ := getF X1001 hx hZ hown (host := "") (Or.inl (hw _ (List.mem_of_getElem? (i := 24) rfl))) Via.refl e1001 Fk (g := (mkF m 12 #[.val (.ref a1), .val (.int p2), .val (.int (0 : Int32))] [(.ref a1)])) rfl rfl (hb hby d7_12)
  refine OEnds.st st1003 ?_
  clear st1003
  show OEnds p.tables e below G (T1003.setTop (mkF m 15 #[.val (.ref a1), .val (.int p2), .val (.int (0 : Int32))] [(.ref a2)]))
  refine OEnds.st (fun _ k => XS.iloadN X1003.here hx rfl (hb hby d7_15) rfl k) ?_
  show OEnds p.tables e below G (T1003.setTop (mkF m 16 #[.val (.ref a1), .val (.int p2), .val (.int (0 : Int32))] [(.int (0 : Int32)), (.ref a2)]))
  obtain ⟨cl1004, Ar1004, q1004, S1004, N1004n, H1004, G1004⟩ := id V
  have hin1004 : ¬ ((0 : Int32) < 0 ∨ cl1004.slots.size ≤ ((0 : Int32)).toNatClampNeg) := inb_of S1004 ⟨by decide, by decide⟩
  have hat1004 : cl1004.slots[((0 : Int32)).toNatClampNeg]? = some (.int e1) := H1004.at hin1004 rfl
  refine OEnds.st (X1003.iaload hx (j := (0 : Int32)) (v := (.int e1)) (by rw [e1003]; exact Ar1004.1) (State.isArrayOf_alike hZ.alike Ar1004.2.1) Ar1004.2.2 hin1004 hat1004 (g := (mkF m 16 #[.val (.ref a1), .val (.int p2), .val (.int (0 : Int32))] [(.int (0 : Int32)), (.ref a2)])) rfl rfl (hb hby d7_16)) ?_
  show OEnds p.tables e below G (T1003.setTop (mkF m 17 #[.val (.ref a1), .val (.int p2), .val (.int (0 : Int32))] [(.int e1)]))
  refine OEnds.st (fun _ k => XS.iloadN X1003.here hx rfl (hb hby d7_17) rfl k) ?_
  show OEnds p.tables e below G (T1003.setTop (mkF m 18 #[.val (.ref a1), .val (.int p2), .val (.int (0 : Int32))] [(.int p2), (.int e1)]))
  refine OEnds.st (fun _ k => XS.icmpNo X1003.here hx rfl (hb hby d7_18) rfl (flt he1).2.2.1 k) ?_
  show OEnds p.tables e below G (T1003.setTop (mkF m 21 #[.val (.ref a1), .val (.int p2), .val (.int (0 : Int32))] []))
  refine OEnds.st (fun _ k => XS.iinc X1003.here hx rfl (hb hby d7_21) rfl (l' := #[.val (.ref a1), .val (.int p2), .val (.int ((0 : Int32) + (1 : Int32)))]) rfl k) ?_
  show OEnds p.tables e below G (T1003.setTop (mkF m 24 #[.val (.ref a1), .val (.int p2), .val (.int ((0 : Int32) + (1 : Int32)))] []))
  rw [show ((0 : Int32) + (1 : Int32)) = (1 : Int32) from by decide]
  show OEnds p.tables e below G (T1003.setTop (mkF m 24 #[.val (.ref a1), .val (.int p2), .val (.int (1 : Int32))] []))
  refine OEnds.st (fun _ k => XS.goto X1003.here hx rfl (pc0 := 24) (pc' := 2) rfl (hb hby d7_24) (by decide) (by decide) k) ?_
  show OEnds p.tables e below G (T1003.setTop (mkF m 2 #[.val (.ref a1), .val (.int p2), .val (.int (1 : Int32))] []))
  refine OEnds.st (fun _ k => XS.iloadN X1003.here hx rfl (hb hby d7_2) rfl k) ?_
  show OEnds p.tables e below G (T1003.setTop (mkF m 3 #[.val (.ref a1), .val (.int p2), .val (.int (1 : Int32))] [(.int (1 : Int32))]))
  refine OEnds.st (fun _ k => XS.aloadN X1003.here hx rfl (hb hby d7_3) rfl rfl k) ?_
  show OEnds p.tables e below G (T1003.setTop (mkF m 4 #[.val (.ref a1), .val (.int p2), .val (.int (1 : Int32))] [(.ref a1), (.int (1 : Int32))]))
  obtain ⟨T1005, X1005, e1005, st1005⟩ := getF X1003 hx hZ hown (host := "") (Or.inl (hw _ (List.mem_of_getElem? (i := 24) rfl))) Via.refl e1003 Fk (g := (mkF m 4 #[.val (.ref a1), .val (.int p2), .val (.int (1 : Int32))] [(.ref a1), (.int (1 : Int32))])) rfl rfl (hb hby d7_4)
  refine OEnds.st st1005 ?_
  clear st1005
  show OEnds p.tables e below G (T1005.setTop (mkF m 7 #[.val (.ref a1), .val (.int p2), .val (.int (1 : Int32))] [(.ref a2), (.int (1 : Int32))]))
  obtain ⟨cl1006, Ar1006, -, S1006, N1006n, -, -⟩ := id V
  refine OEnds.st (X1005.arraylength hx (by rw [e1005]; exact Ar1006.1) (State.isArrayOf_alike hZ.alike Ar1006.2.1) (g := (mkF m 7 #[.val (.ref a1), .val (.int p2), .val (.int (1 : Int32))] [(.ref a2), (.int (1 : Int32))])) rfl rfl (hb hby d7_7)) ?_
  rw [len_of S1006 N1006n]
  show OEnds p.tables e below G (T1005.setTop (mkF m 8 #[.val (.ref a1), .val (.int p2), .val (.int (1 : Int32))] [(.int (1 : Int32)), (.int (1 : Int32))]))
  refine OEnds.st (fun _ k => XS.icmpYes X1005.here hx rfl (pc0 := 8) (pc' := 27) rfl (hb hby d7_8) rfl (flt (by decide : ¬ ((1 : Int32) < (1 : Int32)))).2.1 (by decide) (by decide) k) ?_
  show OEnds p.tables e below G (T1005.setTop (mkF m 27 #[.val (.ref a1), .val (.int p2), .val (.int (1 : Int32))] []))
  refine OEnds.st (fun _ k => XS.iloadN X1005.here hx rfl (hb hby d7_27) rfl k) ?_
  show OEnds p.tables e below G (T1005.setTop (mkF m 28 #[.val (.ref a1), .val (.int p2), .val (.int (1 : Int32))] [(.int (1 : Int32))]))
  rw [← hG]
  refine OEnds.retI X1005 hx hlk Bd.returns (hb hby d7_28) (by decide) (by decide) ?_
  rw [e1005]
  exact ⟨rfl, N0, rfl⟩
theorem ef_ra1 (m : MethodId) (a1 : Addr) (p2 : Int32) : entryFrame m #[(.ref a1), (.int p2)] 2 = mkF m 0 #[.val (.ref a1), .val (.int p2)] [] := by first | (simp [entryFrame, mkF, argsToLocals, Value.category]; done) | rfl
def Qra1 (Z : State) (a1 : Addr) (p2 : Int32) (r : Int32) (a2 : Addr) (k : ClassId) (e1 : Int32) (h0 : Heap) (n0 : Nat) (v : Option Value) (h : Heap) (L : List Loc) : Prop := v = some (.double (own_rc (4607182418800017408 : UInt64) r)) ∧ Fr n0 L ∧ h = h0
set_option maxRecDepth 65536 in
set_option maxHeartbeats 40000000 in
theorem rmra1 (l : Launch) (Z : State) (a0 : Array Value) (hw : ∀ d ∈ tables_1, d.before a0 Z = true) (ws : List Jvm.Cond) (a1 : Addr) (p2 : Int32) (r : Int32) (a2 : Addr) (k : ClassId) (e1 : Int32) (h0 : Heap) (n0 : Nat) (Z0 : n0 ≤ h0.size) (E1 : Exa Z h0 a1 "com/example/words_to_weights/wordstoweights/evaluation/JudgedRanking") (Fre : Fld Z h0 a1 "com/example/words_to_weights/wordstoweights/evaluation/JudgedRanking" "relevant" "I" (.int r)) (Fk : Fld Z h0 a1 "com/example/words_to_weights/wordstoweights/evaluation/JudgedRanking" "relevantRanks" "[I" (.ref a2)) (V : Arv Z h0 a2 k .int (1 : Int32) [(.int e1)] (.int (0 : Int32))) (he1 : ¬ (p2 < e1)) :
    MetFree l (⟨"com/example/words_to_weights/wordstoweights/evaluation/JudgedRanking", "recallAt", "(I)D"⟩ : MethodName) (head1 (Jvm.Cond.code (⟨"com/example/words_to_weights/wordstoweights/evaluation/JudgedRanking", "recallAt", "(I)D"⟩ : MethodName) prog_30_method_12_code 2 (some .double) :: ws) ({ frames := 1, cells := 0, slots := 0, locals := 14 } : Room)) (fun a U => a = #[(.ref a1), (.int p2)] ∧ Z.Warmed39 U.vm ∧ U.heap = h0) (fun _ _ _ _ _ => True) (fun _ U o U' => ∃ v L, o = .returned v ∧ Qra1 Z a1 p2 r a2 k e1 h0 n0 v U'.heap L ∧ FrameEnd U o U' L ({ frames := 1, cells := 0, slots := 0, locals := 14 } : Room).cells ({ frames := 1, cells := 0, slots := 0, locals := 14 } : Room).slots) := by
  refine MetFree.of_bodySF (plainFor_of_name pn_0) hisR ?_
  intro p e s m args below meth c s₁ Bd hml0 hP hK
  obtain ⟨rfl, hZ, hh⟩ := hP
  have hx := Bd.exec
  have hby := Bd.bytes
  have hml : c.maxLocals = 2 := hml0
  have hown : s.vm.findClass "com/example/words_to_weights/wordstoweights/evaluation/JudgedRanking" = some m.cls := findClass_of_methodNamed Bd.named
  have hnm := (name_of_methodNamed Bd.named Bd.method).1
  have hlk : meth.locks = false := BodyLoose.notSynchronized Bd
  have X0 : Stand p l e ({ frames := 1, cells := 0, slots := 0, locals := 14 } : Room) s m #[(.ref a1), (.int p2)] below meth c s₁ [] 0 0 := Stand.of_body Bd
  have e0 : s₁.heap = h0 := by rw [← hh, Bd.state]; rfl
  have N0 := Fr.nil n0
  show OEnds p.tables e below (OGoal (Qra1 Z a1 p2 r a2 k e1 h0 n0) s 0 0) (s₁.setTop (entryFrame m #[(.ref a1), (.int p2)] 2))
  refine OEnds.st (fun t k => castTop (ef_ra1 m a1 p2) k) ?_
  generalize hG : OGoal (Qra1 Z a1 p2 r a2 k e1 h0 n0) s 0 0 = G
  have KK0 : Keep h0 h0 [] := Keep.refl h0 []
  show OEnds p.tables e below G (s₁.setTop (mkF m 0 #[.val (.ref a1), .val (.int p2)] []))
  refine OEnds.st (fun _ k => XS.aloadN X0.here hx rfl (hb hby d6_0) rfl rfl k) ?_
  show OEnds p.tables e below G (s₁.setTop (mkF m 1 #[.val (.ref a1), .val (.int p2)] [(.ref a1)]))
  obtain ⟨T1001, X1001, e1001, st1001⟩ := getF X0 hx hZ hown (host := "") (Or.inl (hw _ (List.mem_of_getElem? (i := 22) rfl))) Via.refl e0 Fre (g := (mkF m 1 #[.val (.ref a1), .val (.int p2)] [(.ref a1)])) rfl rfl (hb hby d6_1)
  refine OEnds.st st1001 ?_
  clear st1001
  show OEnds p.tables e below G (T1001.setTop (mkF m 4 #[.val (.ref a1), .val (.int p2)] [(.int r)]))
  by_cases hc4_1002 : r = (0 : Int32)
  · -- pc 4: yes
    refine OEnds.st (fun _ k => XS.ifNo X1001.here hx rfl (hb hby d6_4) rfl ((if0 _ _).trans (teq hc4_1002).2) k) ?_
    show OEnds p.tables e below G (T1001.setTop (mkF m 7 #[.val (.ref a1), .val (.int p2)] []))
    refine OEnds.st (fun _ k => XS.dconst0 X1001.here hx rfl (hb hby d6_7) (v := (0 : UInt64)) rfl k) ?_
    show OEnds p.tables e below G (T1001.setTop (mkF m 8 #[.val (.ref a1), .val (.int p2)] [(.double (0 : UInt64))]))
    refine OEnds.st (fun _ k => XS.goto X1001.here hx rfl (pc0 := 8) (pc' := 23) rfl (hb hby d6_8) (by decide) (by decide) k) ?_
    show OEnds p.tables e below G (T1001.setTop (mkF m 23 #[.val (.ref a1), .val (.int p2)] [(.double (0 : UInt64))]))
    rw [← hG]
    refine OEnds.retD X1001 hx hlk Bd.returns (hb hby d6_23) (by decide) (by decide) ?_
    rw [e1001]
    exact ⟨congrArg (fun z => some (Value.double z)) (by rw [own_rc, if_pos hc4_1002]), N0, rfl⟩
  · -- pc 4: no
    refine OEnds.st (fun _ k => XS.ifYes X1001.here hx rfl (pc0 := 4) (pc' := 11) rfl (hb hby d6_4) rfl ((if0 _ _).trans (feq hc4_1002).2) (by decide) (by decide) k) ?_
    show OEnds p.tables e below G (T1001.setTop (mkF m 11 #[.val (.ref a1), .val (.int p2)] []))
    refine OEnds.st (fun _ k => XS.aloadN X1001.here hx rfl (hb hby d6_11) rfl rfl k) ?_
    show OEnds p.tables e below G (T1001.setTop (mkF m 12 #[.val (.ref a1), .val (.int p2)] [(.ref a1)]))
    refine OEnds.st (fun _ k => XS.iloadN X1001.here hx rfl (hb hby d6_12) rfl k) ?_
    show OEnds p.tables e below G (T1001.setTop (mkF m 13 #[.val (.ref a1), .val (.int p2)] [(.int p2), (.ref a1)]))
    obtain ⟨cq1003, q1003, q1003'⟩ := E1.cell
    obtain ⟨_, _, ⟨T1003, L1003, k1003c, n1003c⟩, -, X1003, ⟨Lc1003, hQ1003, l1003, y1003, z1003⟩, st1003⟩ := X1001.privateBack hx (y := (⟨"com/example/words_to_weights/wordstoweights/evaluation/JudgedRanking", "relevantWithin", "(I)I"⟩ : MethodName)) hown (mvT hZ (hw _ (List.mem_of_getElem? (i := 36) rfl))) (mvT hZ (hw _ (List.mem_of_getElem? (i := 37) rfl))) (own_selP (y := (⟨"com/example/words_to_weights/wordstoweights/evaluation/JudgedRanking", "relevantWithin", "(I)I"⟩ : MethodName)) (mvT hZ (hw _ (List.mem_of_getElem? (i := 12) rfl))) (mvP hZ (hw _ (List.mem_of_getElem? (i := 38) rfl))) (mvT hZ (hw _ (List.mem_of_getElem? (i := 37) rfl))) (by decide)) (Cond.privateMethod_at (mvP hZ (hw _ (List.mem_of_getElem? (i := 38) rfl)) (args := #[]))) (mvT hZ (hw _ (List.mem_of_getElem? (i := 39) rfl))) (by decide) (backOf (W := 0) (rmrw1 l Z a0 hw [] a1 p2 a2 k e1 h0 n0 Z0 Fk V he1) hZ (hw _ (List.mem_of_getElem? (i := 39) rfl)) (hw _ (List.mem_of_getElem? (i := 13) rfl)) (by decide) (by decide)) (g := (mkF m 13 #[.val (.ref a1), .val (.int p2)] [(.int p2), (.ref a1)])) rfl (by rw [hml]; rfl) (Steps.refl _) (a := a1) (by rw [e1001]; exact q1003) q1003' (argsL := [(.int p2)]) (rest := []) (lenOf pd_0 rfl) rfl (by show 2 * 0 + _ ≤ _; exact Nat.le_of_eq rfl) (hb hby d6_13) (fun _ _ => ⟨rfl, e1001, (by decide : 0 + 0 ≤ _), (by decide : 0 + 0 ≤ _)⟩)
    dsimp only [Pt.U, Pt.locs, Pt.cells, Pt.slots] at X1003 l1003 y1003 z1003 st1003 hQ1003
    subst l1003 y1003 z1003
    obtain ⟨rfl, N1003q, e1003⟩ := hQ1003
    have N1003 := Fr.app N0 N1003q
    refine OEnds.st (fun _ k => st1003.trans k) ?_
    clear st1003
    show OEnds p.tables e below G (T1003.setTop (mkF m 16 #[.val (.ref a1), .val (.int p2)] [(.int (1 : Int32))]))
    refine OEnds.st (fun _ k => XS.i2dS X1003.here hx rfl (hb hby d6_16) rfl (v := (4607182418800017408 : UInt64)) (by decide +kernel) k) ?_
    show OEnds p.tables e below G (T1003.setTop (mkF m 17 #[.val (.ref a1), .val (.int p2)] [(.double (4607182418800017408 : UInt64))]))
    refine OEnds.st (fun _ k => XS.aloadN X1003.here hx rfl (hb hby d6_17) rfl rfl k) ?_
    show OEnds p.tables e below G (T1003.setTop (mkF m 18 #[.val (.ref a1), .val (.int p2)] [(.ref a1), (.double (4607182418800017408 : UInt64))]))
    obtain ⟨T1004, X1004, e1004, st1004⟩ := getF X1003 hx hZ hown (host := "") (Or.inl (hw _ (List.mem_of_getElem? (i := 22) rfl))) Via.refl e1003 Fre (g := (mkF m 18 #[.val (.ref a1), .val (.int p2)] [(.ref a1), (.double (4607182418800017408 : UInt64))])) rfl rfl (hb hby d6_18)
    refine OEnds.st st1004 ?_
    clear st1004
    show OEnds p.tables e below G (T1004.setTop (mkF m 21 #[.val (.ref a1), .val (.int p2)] [(.int r), (.double (4607182418800017408 : UInt64))]))
    refine OEnds.st (fun _ k => XS.i2dS X1004.here hx rfl (hb hby d6_21) rfl (v := (FP.i2d r)) rfl k) ?_
    show OEnds p.tables e below G (T1004.setTop (mkF m 22 #[.val (.ref a1), .val (.int p2)] [(.double (FP.i2d r)), (.double (4607182418800017408 : UInt64))]))
    refine OEnds.st (fun _ k => XS.ddivS X1004.here hx rfl (hb hby d6_22) rfl (Fl.ddiv_out (own_nnL (by decide)) (Fl.i2d_fin _) (Fl.i2d_nz hc4_1002)) rfl k) ?_
    show OEnds p.tables e below G (T1004.setTop (mkF m 23 #[.val (.ref a1), .val (.int p2)] [(.double (FP.ddiv (4607182418800017408 : UInt64) (FP.i2d r)))]))
    rw [← hG]
    refine OEnds.retD X1004 hx hlk Bd.returns (hb hby d6_23) (by decide) (by decide) ?_
    rw [e1004]
    exact ⟨congrArg (fun z => some (Value.double z)) (by rw [own_rc, if_neg hc4_1002]), N1003, rfl⟩
theorem ef_rk2 (m : MethodId) (e1 : Int32) (e2 : Int32) (e3 : Int32) : entryFrame m #[(.int (2 : Int32)), (.int e1), (.int e2), (.int e3)] 4 = mkF m 0 #[.val (.int (2 : Int32)), .val (.int e1), .val (.int e2), .val (.int e3)] [] := by first | (simp [entryFrame, mkF, argsToLocals, Value.category]; done) | rfl
def Qrk2 (Z : State) (e1 : Int32) (e2 : Int32) (e3 : Int32) (h0 : Heap) (n0 : Nat) (v : Option Value) (h : Heap) (L : List Loc) : Prop := ∃ (b : Addr) (kb : ClassId), v = some (.ref b) ∧ Fr n0 L ∧ Keep h0 h [] ∧ h0.size ≤ b ∧ Arv Z h b kb .int (2 : Int32) [(.int e1), (.int e2)] (.int (0 : Int32))
theorem d2_21 : decode method_2_code 21 = .ok (.iload_n 0, 1) := by decide +kernel
theorem d2_22 : decode method_2_code 22 = .ok (.iconst 2, 1) := by decide +kernel
theorem d2_23 : decode method_2_code 23 = .ok (.if_icmp .ne 15, 3) := by decide +kernel
theorem d2_26 : decode method_2_code 26 = .ok (.iconst 2, 1) := by decide +kernel
theorem d2_27 : decode method_2_code 27 = .ok (.newarray .int, 2) := by decide +kernel
theorem d2_29 : decode method_2_code 29 = .ok (.dup, 1) := by decide +kernel
theorem d2_30 : decode method_2_code 30 = .ok (.iconst 0, 1) := by decide +kernel
theorem d2_31 : decode method_2_code 31 = .ok (.iload_n 1, 1) := by decide +kernel
theorem d2_32 : decode method_2_code 32 = .ok (.iastore, 1) := by decide +kernel
theorem d2_33 : decode method_2_code 33 = .ok (.dup, 1) := by decide +kernel
theorem d2_34 : decode method_2_code 34 = .ok (.iconst 1, 1) := by decide +kernel
theorem d2_35 : decode method_2_code 35 = .ok (.iload_n 2, 1) := by decide +kernel
theorem d2_36 : decode method_2_code 36 = .ok (.iastore, 1) := by decide +kernel
theorem d2_37 : decode method_2_code 37 = .ok (.areturn, 1) := by decide +kernel
set_option maxRecDepth 65536 in
set_option maxHeartbeats 40000000 in
theorem rmrk2 (l : Launch) (Z : State) (a0 : Array Value) (hw : ∀ d ∈ tables_1, d.before a0 Z = true) (ws : List Jvm.Cond) (e1 : Int32) (e2 : Int32) (e3 : Int32) (h0 : Heap) (n0 : Nat) (Z0 : n0 ≤ h0.size) :
    MetFree l (⟨"com/example/words_to_weights/wordstoweights/evaluation/JudgedRankingSetRecallPinLaw", "ranks", "(IIII)[I"⟩ : MethodName) (head1 (Jvm.Cond.code (⟨"com/example/words_to_weights/wordstoweights/evaluation/JudgedRankingSetRecallPinLaw", "ranks", "(IIII)[I"⟩ : MethodName) method_2_code 4 (some (.array .int)) :: ws) ({ frames := 0, cells := 1, slots := 2, locals := 0 } : Room)) (fun a U => a = #[(.int (2 : Int32)), (.int e1), (.int e2), (.int e3)] ∧ Z.Warmed39 U.vm ∧ U.heap = h0) (fun _ _ _ _ _ => True) (fun _ U o U' => ∃ v L, o = .returned v ∧ Qrk2 Z e1 e2 e3 h0 n0 v U'.heap L ∧ FrameEnd U o U' L ({ frames := 0, cells := 1, slots := 2, locals := 0 } : Room).cells ({ frames := 0, cells := 1, slots := 2, locals := 0 } : Room).slots) := by
  refine MetFree.of_bodySF (plainFor_of_name pn_1) hisR ?_
  intro p e s m args below meth c s₁ Bd hml0 hP hK
  obtain ⟨rfl, hZ, hh⟩ := hP
  have hx := Bd.exec
  have hby := Bd.bytes
  have hml : c.maxLocals = 4 := hml0
  have hown : s.vm.findClass "com/example/words_to_weights/wordstoweights/evaluation/JudgedRankingSetRecallPinLaw" = some m.cls := findClass_of_methodNamed Bd.named
  have hnm := (name_of_methodNamed Bd.named Bd.method).1
  have hlk : meth.locks = false := BodyLoose.notSynchronized Bd
  have X0 : Stand p l e ({ frames := 0, cells := 1, slots := 2, locals := 0 } : Room) s m #[(.int (2 : Int32)), (.int e1), (.int e2), (.int e3)] below meth c s₁ [] 0 0 := Stand.of_body Bd
  have e0 : s₁.heap = h0 := by rw [← hh, Bd.state]; rfl
  have N0 := Fr.nil n0
  show OEnds p.tables e below (OGoal (Qrk2 Z e1 e2 e3 h0 n0) s 1 2) (s₁.setTop (entryFrame m #[(.int (2 : Int32)), (.int e1), (.int e2), (.int e3)] 4))
  refine OEnds.st (fun t k => castTop (ef_rk2 m e1 e2 e3) k) ?_
  generalize hG : OGoal (Qrk2 Z e1 e2 e3 h0 n0) s 1 2 = G
  have KK0 : Keep h0 h0 [] := Keep.refl h0 []
  show OEnds p.tables e below G (s₁.setTop (mkF m 0 #[.val (.int (2 : Int32)), .val (.int e1), .val (.int e2), .val (.int e3)] []))
  refine OEnds.st (fun _ k => XS.iloadN X0.here hx rfl (hb hby d2_0) rfl k) ?_
  show OEnds p.tables e below G (s₁.setTop (mkF m 1 #[.val (.int (2 : Int32)), .val (.int e1), .val (.int e2), .val (.int e3)] [(.int (2 : Int32))]))
  refine OEnds.st (fun _ k => XS.ifYes X0.here hx rfl (pc0 := 1) (pc' := 8) rfl (hb hby d2_1) rfl ((if0 _ _).trans (feq (by decide : ¬ ((2 : Int32) = (0 : Int32)))).2) (by decide) (by decide) k) ?_
  show OEnds p.tables e below G (s₁.setTop (mkF m 8 #[.val (.int (2 : Int32)), .val (.int e1), .val (.int e2), .val (.int e3)] []))
  refine OEnds.st (fun _ k => XS.iloadN X0.here hx rfl (hb hby d2_8) rfl k) ?_
  show OEnds p.tables e below G (s₁.setTop (mkF m 9 #[.val (.int (2 : Int32)), .val (.int e1), .val (.int e2), .val (.int e3)] [(.int (2 : Int32))]))
  refine OEnds.st (fun _ k => XS.iconst X0.here hx rfl (hb hby d2_9) k) ?_
  show OEnds p.tables e below G (s₁.setTop (mkF m 10 #[.val (.int (2 : Int32)), .val (.int e1), .val (.int e2), .val (.int e3)] [(.int (1 : Int32)), (.int (2 : Int32))]))
  refine OEnds.st (fun _ k => XS.icmpYes X0.here hx rfl (pc0 := 10) (pc' := 21) rfl (hb hby d2_10) rfl (feq (by decide : ¬ ((2 : Int32) = (1 : Int32)))).2 (by decide) (by decide) k) ?_
  show OEnds p.tables e below G (s₁.setTop (mkF m 21 #[.val (.int (2 : Int32)), .val (.int e1), .val (.int e2), .val (.int e3)] []))
  refine OEnds.st (fun _ k => XS.iloadN X0.here hx rfl (hb hby d2_21) rfl k) ?_
  show OEnds p.tables e below G (s₁.setTop (mkF m 22 #[.val (.int (2 : Int32)), .val (.int e1), .val (.int e2), .val (.int e3)] [(.int (2 : Int32))]))
  refine OEnds.st (fun _ k => XS.iconst X0.here hx rfl (hb hby d2_22) k) ?_
  show OEnds p.tables e below G (s₁.setTop (mkF m 23 #[.val (.int (2 : Int32)), .val (.int e1), .val (.int e2), .val (.int e3)] [(.int (2 : Int32)), (.int (2 : Int32))]))
  refine OEnds.st (fun _ k => XS.icmpNo X0.here hx rfl (hb hby d2_23) rfl (teq (by decide : (2 : Int32) = (2 : Int32))).2 k) ?_
  show OEnds p.tables e below G (s₁.setTop (mkF m 26 #[.val (.int (2 : Int32)), .val (.int e1), .val (.int e2), .val (.int e3)] []))
  refine OEnds.st (fun _ k => XS.iconst X0.here hx rfl (hb hby d2_26) k) ?_
  show OEnds p.tables e below G (s₁.setTop (mkF m 27 #[.val (.int (2 : Int32)), .val (.int e1), .val (.int e2), .val (.int e3)] [(.int (2 : Int32))]))
  obtain ⟨T1001, h1001, k1001, X1001, e1001, E1001, A1001, st1001⟩ := newP X0 hx hZ (hw _ (List.mem_of_getElem? (i := 10) rfl)) e0 (g := (mkF m 27 #[.val (.int (2 : Int32)), .val (.int e1), .val (.int e2), .val (.int e3)] [(.int (2 : Int32))])) rfl (hb hby d2_27) rfl (by decide) (cap := 2) (by decide) (by decide) (by decide) (by decide)
  obtain ⟨b1001, g1001⟩ : ∃ z, z = h0.size := ⟨_, rfl⟩
  rw [← g1001] at A1001 st1001
  refine OEnds.st st1001 ?_
  clear st1001
  have ge_b1001 : n0 ≤ b1001 := Nat.le_trans Z0 (Nat.le_of_eq g1001.symm)
  have sz_b1001 : h0.size ≤ b1001 := Nat.le_trans KK0.1 (Nat.le_of_eq g1001.symm)
  have KK1001 : Keep h0 h1001 [] := KK0.ext E1001
  have Z1001 := Nat.le_trans Z0 E1001.1
  have f1002 : Arv Z h1001 b1001 k1001 .int (2 : Int32) [(.int (0 : Int32)), (.int (0 : Int32))] (.int (0 : Int32)) := (Arv.new A1001 (by decide)).pad (pad_rep [] (.int (0 : Int32)) 2)
  show OEnds p.tables e below G (T1001.setTop (mkF m 29 #[.val (.int (2 : Int32)), .val (.int e1), .val (.int e2), .val (.int e3)] [(.ref b1001)]))
  refine OEnds.st (fun _ k => XS.dup X1001.here hx rfl (hb hby d2_29) rfl rfl k) ?_
  show OEnds p.tables e below G (T1001.setTop (mkF m 30 #[.val (.int (2 : Int32)), .val (.int e1), .val (.int e2), .val (.int e3)] [(.ref b1001), (.ref b1001)]))
  refine OEnds.st (fun _ k => XS.iconst X1001.here hx rfl (hb hby d2_30) k) ?_
  show OEnds p.tables e below G (T1001.setTop (mkF m 31 #[.val (.int (2 : Int32)), .val (.int e1), .val (.int e2), .val (.int e3)] [(.int (0 : Int32)), (.ref b1001), (.ref b1001)]))
  refine OEnds.st (fun _ k => XS.iloadN X1001.here hx rfl (hb hby d2_31) rfl k) ?_
  show OEnds p.tables e below G (T1001.setTop (mkF m 32 #[.val (.int (2 : Int32)), .val (.int e1), .val (.int e2), .val (.int e3)] [(.int e1), (.int (0 : Int32)), (.ref b1001), (.ref b1001)]))
  obtain ⟨cl1003, Ar1003, q1003, S1003, N1003n, H1003, G1003⟩ := id f1002
  have hin1003 : ¬ ((0 : Int32) < 0 ∨ cl1003.slots.size ≤ ((0 : Int32)).toNatClampNeg) := inb_of S1003 ⟨by decide, by decide⟩
  obtain ⟨T1003, h1003, X1003, e1003, W1003, st1003⟩ := stI X1001 hx hZ e1001 Ar1003 (j := (0 : Int32)) hin1003 (g := (mkF m 32 #[.val (.int (2 : Int32)), .val (.int e1), .val (.int e2), .val (.int e3)] [(.int e1), (.int (0 : Int32)), (.ref b1001), (.ref b1001)])) rfl rfl (hb hby d2_32)
  refine OEnds.st st1003 ?_
  clear st1003
  have f1004 : Arv Z h1003 b1001 k1001 .int (2 : Int32) [(.int e1), (.int (0 : Int32))] (.int (0 : Int32)) := Arv.set Ar1003 q1003 S1003 N1003n H1003 G1003 rfl W1003 0 rfl (Nat.le_of_ble_eq_true rfl)
  have N1003 := Fr.snoc X1003 N0 ge_b1001
  have KK1003 : Keep h0 h1003 [] := KK1001.wr W1003 (Or.inr sz_b1001)
  have Z1003 := Nat.le_trans Z1001 (Keep.of_wr W1003).1
  show OEnds p.tables e below G (T1003.setTop (mkF m 33 #[.val (.int (2 : Int32)), .val (.int e1), .val (.int e2), .val (.int e3)] [(.ref b1001)]))
  refine OEnds.st (fun _ k => XS.dup X1003.here hx rfl (hb hby d2_33) rfl rfl k) ?_
  show OEnds p.tables e below G (T1003.setTop (mkF m 34 #[.val (.int (2 : Int32)), .val (.int e1), .val (.int e2), .val (.int e3)] [(.ref b1001), (.ref b1001)]))
  refine OEnds.st (fun _ k => XS.iconst X1003.here hx rfl (hb hby d2_34) k) ?_
  show OEnds p.tables e below G (T1003.setTop (mkF m 35 #[.val (.int (2 : Int32)), .val (.int e1), .val (.int e2), .val (.int e3)] [(.int (1 : Int32)), (.ref b1001), (.ref b1001)]))
  refine OEnds.st (fun _ k => XS.iloadN X1003.here hx rfl (hb hby d2_35) rfl k) ?_
  show OEnds p.tables e below G (T1003.setTop (mkF m 36 #[.val (.int (2 : Int32)), .val (.int e1), .val (.int e2), .val (.int e3)] [(.int e2), (.int (1 : Int32)), (.ref b1001), (.ref b1001)]))
  obtain ⟨cl1005, Ar1005, q1005, S1005, N1005n, H1005, G1005⟩ := id f1004
  have hin1005 : ¬ ((1 : Int32) < 0 ∨ cl1005.slots.size ≤ ((1 : Int32)).toNatClampNeg) := inb_of S1005 ⟨by decide, by decide⟩
  obtain ⟨T1005, h1005, X1005, e1005, W1005, st1005⟩ := stI X1003 hx hZ e1003 Ar1005 (j := (1 : Int32)) hin1005 (g := (mkF m 36 #[.val (.int (2 : Int32)), .val (.int e1), .val (.int e2), .val (.int e3)] [(.int e2), (.int (1 : Int32)), (.ref b1001), (.ref b1001)])) rfl rfl (hb hby d2_36)
  refine OEnds.st st1005 ?_
  clear st1005
  have f1006 : Arv Z h1005 b1001 k1001 .int (2 : Int32) [(.int e1), (.int e2)] (.int (0 : Int32)) := Arv.set Ar1005 q1005 S1005 N1005n H1005 G1005 rfl W1005 1 rfl (Nat.le_of_ble_eq_true rfl)
  have N1005 := Fr.snoc X1005 N1003 ge_b1001
  have KK1005 : Keep h0 h1005 [] := KK1003.wr W1005 (Or.inr sz_b1001)
  have Z1005 := Nat.le_trans Z1003 (Keep.of_wr W1005).1
  show OEnds p.tables e below G (T1005.setTop (mkF m 37 #[.val (.int (2 : Int32)), .val (.int e1), .val (.int e2), .val (.int e3)] [(.ref b1001)]))
  rw [← hG]
  refine OEnds.retA X1005 hx hlk Bd.returns (by first | rfl | exact rfl) rfl (hb hby d2_37) (by decide) (by decide) ?_
  rw [e1005]
  exact ⟨b1001, k1001, rfl, N1005, KK1005, sz_b1001, f1006⟩
theorem ef_sr2 (m : MethodId) (a1 : Addr) : entryFrame m #[(.ref a1)] 1 = mkF m 0 #[.val (.ref a1)] [] := by first | (simp [entryFrame, mkF, argsToLocals, Value.category]; done) | rfl
def Qsr2 (Z : State) (a1 : Addr) (r : Int32) (a2 : Addr) (k : ClassId) (vs : List Value) (h0 : Heap) (n0 : Nat) (v : Option Value) (h : Heap) (L : List Loc) : Prop := v = some (.double (own_rc (4611686018427387904 : UInt64) r)) ∧ Fr n0 L ∧ h = h0
set_option maxRecDepth 65536 in
set_option maxHeartbeats 40000000 in
theorem rmsr2 (l : Launch) (Z : State) (a0 : Array Value) (hw : ∀ d ∈ tables_1, d.before a0 Z = true) (ws : List Jvm.Cond) (a1 : Addr) (r : Int32) (a2 : Addr) (k : ClassId) (vs : List Value) (h0 : Heap) (n0 : Nat) (Z0 : n0 ≤ h0.size) (Fre : Fld Z h0 a1 "com/example/words_to_weights/wordstoweights/evaluation/JudgedRanking" "relevant" "I" (.int r)) (Fk : Fld Z h0 a1 "com/example/words_to_weights/wordstoweights/evaluation/JudgedRanking" "relevantRanks" "[I" (.ref a2)) (V : Arv Z h0 a2 k .int (2 : Int32) vs (.int (0 : Int32))) :
    MetFree l (⟨"com/example/words_to_weights/wordstoweights/evaluation/JudgedRanking", "setRecall", "()D"⟩ : MethodName) (head1 (Jvm.Cond.code (⟨"com/example/words_to_weights/wordstoweights/evaluation/JudgedRanking", "setRecall", "()D"⟩ : MethodName) prog_30_method_14_code 1 (some .double) :: ws) ({ frames := 0, cells := 0, slots := 0, locals := 0 } : Room)) (fun a U => a = #[(.ref a1)] ∧ Z.Warmed39 U.vm ∧ U.heap = h0) (fun _ _ _ _ _ => True) (fun _ U o U' => ∃ v L, o = .returned v ∧ Qsr2 Z a1 r a2 k vs h0 n0 v U'.heap L ∧ FrameEnd U o U' L ({ frames := 0, cells := 0, slots := 0, locals := 0 } : Room).cells ({ frames := 0, cells := 0, slots := 0, locals := 0 } : Room).slots) := by
  refine MetFree.of_bodySF (plainFor_of_name pn_0) hisR ?_
  intro p e s m args below meth c s₁ Bd hml0 hP hK
  obtain ⟨rfl, hZ, hh⟩ := hP
  have hx := Bd.exec
  have hby := Bd.bytes
  have hml : c.maxLocals = 1 := hml0
  have hown : s.vm.findClass "com/example/words_to_weights/wordstoweights/evaluation/JudgedRanking" = some m.cls := findClass_of_methodNamed Bd.named
  have hnm := (name_of_methodNamed Bd.named Bd.method).1
  have hlk : meth.locks = false := BodyLoose.notSynchronized Bd
  have X0 : Stand p l e ({ frames := 0, cells := 0, slots := 0, locals := 0 } : Room) s m #[(.ref a1)] below meth c s₁ [] 0 0 := Stand.of_body Bd
  have e0 : s₁.heap = h0 := by rw [← hh, Bd.state]; rfl
  have N0 := Fr.nil n0
  show OEnds p.tables e below (OGoal (Qsr2 Z a1 r a2 k vs h0 n0) s 0 0) (s₁.setTop (entryFrame m #[(.ref a1)] 1))
  refine OEnds.st (fun t k => castTop (ef_sr2 m a1) k) ?_
  generalize hG : OGoal (Qsr2 Z a1 r a2 k vs h0 n0) s 0 0 = G
  have KK0 : Keep h0 h0 [] := Keep.refl h0 []
  show OEnds p.tables e below G (s₁.setTop (mkF m 0 #[.val (.ref a1)] []))
  refine OEnds.st (fun _ k => XS.aloadN X0.here hx rfl (hb hby d5_0) rfl rfl k) ?_
  show OEnds p.tables e below G (s₁.setTop (mkF m 1 #[.val (.ref a1)] [(.ref a1)]))
  obtain ⟨T1001, X1001, e1001, st1001⟩ := getF X0 hx hZ hown (host := "") (Or.inl (hw _ (List.mem_of_getElem? (i := 22) rfl))) Via.refl e0 Fre (g := (mkF m 1 #[.val (.ref a1)] [(.ref a1)])) rfl rfl (hb hby d5_1)
  refine OEnds.st st1001 ?_
  clear st1001
  show OEnds p.tables e below G (T1001.setTop (mkF m 4 #[.val (.ref a1)] [(.int r)]))
  by_cases hc4_1002 : r = (0 : Int32)
  · -- pc 4: yes
    refine OEnds.st (fun _ k => XS.ifNo X1001.here hx rfl (hb hby d5_4) rfl ((if0 _ _).trans (teq hc4_1002).2) k) ?_
    show OEnds p.tables e below G (T1001.setTop (mkF m 7 #[.val (.ref a1)] []))
    refine OEnds.st (fun _ k => XS.dconst0 X1001.here hx rfl (hb hby d5_7) (v := (0 : UInt64)) rfl k) ?_
    show OEnds p.tables e below G (T1001.setTop (mkF m 8 #[.val (.ref a1)] [(.double (0 : UInt64))]))
    refine OEnds.st (fun _ k => XS.goto X1001.here hx rfl (pc0 := 8) (pc' := 23) rfl (hb hby d5_8) (by decide) (by decide) k) ?_
    show OEnds p.tables e below G (T1001.setTop (mkF m 23 #[.val (.ref a1)] [(.double (0 : UInt64))]))
    rw [← hG]
    refine OEnds.retD X1001 hx hlk Bd.returns (hb hby d5_23) (by decide) (by decide) ?_
    rw [e1001]
    exact ⟨congrArg (fun z => some (Value.double z)) (by rw [own_rc, if_pos hc4_1002]), N0, rfl⟩
  · -- pc 4: no
    refine OEnds.st (fun _ k => XS.ifYes X1001.here hx rfl (pc0 := 4) (pc' := 11) rfl (hb hby d5_4) rfl ((if0 _ _).trans (feq hc4_1002).2) (by decide) (by decide) k) ?_
    show OEnds p.tables e below G (T1001.setTop (mkF m 11 #[.val (.ref a1)] []))
    refine OEnds.st (fun _ k => XS.aloadN X1001.here hx rfl (hb hby d5_11) rfl rfl k) ?_
    show OEnds p.tables e below G (T1001.setTop (mkF m 12 #[.val (.ref a1)] [(.ref a1)]))
    obtain ⟨T1003, X1003, e1003, st1003⟩ := getF X1001 hx hZ hown (host := "") (Or.inl (hw _ (List.mem_of_getElem? (i := 24) rfl))) Via.refl e1001 Fk (g := (mkF m 12 #[.val (.ref a1)] [(.ref a1)])) rfl rfl (hb hby d5_12)
    refine OEnds.st st1003 ?_
    clear st1003
    show OEnds p.tables e below G (T1003.setTop (mkF m 15 #[.val (.ref a1)] [(.ref a2)]))
    obtain ⟨cl1004, Ar1004, -, S1004, N1004n, -, -⟩ := id V
    refine OEnds.st (X1003.arraylength hx (by rw [e1003]; exact Ar1004.1) (State.isArrayOf_alike hZ.alike Ar1004.2.1) (g := (mkF m 15 #[.val (.ref a1)] [(.ref a2)])) rfl rfl (hb hby d5_15)) ?_
    rw [len_of S1004 N1004n]
    show OEnds p.tables e below G (T1003.setTop (mkF m 16 #[.val (.ref a1)] [(.int (2 : Int32))]))
    refine OEnds.st (fun _ k => XS.i2dS X1003.here hx rfl (hb hby d5_16) rfl (v := (4611686018427387904 : UInt64)) (by decide +kernel) k) ?_
    show OEnds p.tables e below G (T1003.setTop (mkF m 17 #[.val (.ref a1)] [(.double (4611686018427387904 : UInt64))]))
    refine OEnds.st (fun _ k => XS.aloadN X1003.here hx rfl (hb hby d5_17) rfl rfl k) ?_
    show OEnds p.tables e below G (T1003.setTop (mkF m 18 #[.val (.ref a1)] [(.ref a1), (.double (4611686018427387904 : UInt64))]))
    obtain ⟨T1005, X1005, e1005, st1005⟩ := getF X1003 hx hZ hown (host := "") (Or.inl (hw _ (List.mem_of_getElem? (i := 22) rfl))) Via.refl e1003 Fre (g := (mkF m 18 #[.val (.ref a1)] [(.ref a1), (.double (4611686018427387904 : UInt64))])) rfl rfl (hb hby d5_18)
    refine OEnds.st st1005 ?_
    clear st1005
    show OEnds p.tables e below G (T1005.setTop (mkF m 21 #[.val (.ref a1)] [(.int r), (.double (4611686018427387904 : UInt64))]))
    refine OEnds.st (fun _ k => XS.i2dS X1005.here hx rfl (hb hby d5_21) rfl (v := (FP.i2d r)) rfl k) ?_
    show OEnds p.tables e below G (T1005.setTop (mkF m 22 #[.val (.ref a1)] [(.double (FP.i2d r)), (.double (4611686018427387904 : UInt64))]))
    refine OEnds.st (fun _ k => XS.ddivS X1005.here hx rfl (hb hby d5_22) rfl (Fl.ddiv_out (own_nnL (by decide)) (Fl.i2d_fin _) (Fl.i2d_nz hc4_1002)) rfl k) ?_
    show OEnds p.tables e below G (T1005.setTop (mkF m 23 #[.val (.ref a1)] [(.double (FP.ddiv (4611686018427387904 : UInt64) (FP.i2d r)))]))
    rw [← hG]
    refine OEnds.retD X1005 hx hlk Bd.returns (hb hby d5_23) (by decide) (by decide) ?_
    rw [e1005]
    exact ⟨congrArg (fun z => some (Value.double z)) (by rw [own_rc, if_neg hc4_1002]), N0, rfl⟩
theorem ef_rw2 (m : MethodId) (a1 : Addr) (p2 : Int32) : entryFrame m #[(.ref a1), (.int p2)] 3 = mkF m 0 #[.val (.ref a1), .val (.int p2), .unset] [] := by first | (simp [entryFrame, mkF, argsToLocals, Value.category]; done) | rfl
def Qrw2 (Z : State) (a1 : Addr) (p2 : Int32) (a2 : Addr) (k : ClassId) (e1 : Int32) (e2 : Int32) (h0 : Heap) (n0 : Nat) (v : Option Value) (h : Heap) (L : List Loc) : Prop := v = some (.int (2 : Int32)) ∧ Fr n0 L ∧ h = h0
set_option maxRecDepth 65536 in
set_option maxHeartbeats 40000000 in
theorem rmrw2 (l : Launch) (Z : State) (a0 : Array Value) (hw : ∀ d ∈ tables_1, d.before a0 Z = true) (ws : List Jvm.Cond) (a1 : Addr) (p2 : Int32) (a2 : Addr) (k : ClassId) (e1 : Int32) (e2 : Int32) (h0 : Heap) (n0 : Nat) (Z0 : n0 ≤ h0.size) (Fk : Fld Z h0 a1 "com/example/words_to_weights/wordstoweights/evaluation/JudgedRanking" "relevantRanks" "[I" (.ref a2)) (V : Arv Z h0 a2 k .int (2 : Int32) [(.int e1), (.int e2)] (.int (0 : Int32))) (he1 : ¬ (p2 < e1)) (he2 : ¬ (p2 < e2)) :
    MetFree l (⟨"com/example/words_to_weights/wordstoweights/evaluation/JudgedRanking", "relevantWithin", "(I)I"⟩ : MethodName) (head1 (Jvm.Cond.code (⟨"com/example/words_to_weights/wordstoweights/evaluation/JudgedRanking", "relevantWithin", "(I)I"⟩ : MethodName) prog_30_method_16_code 3 (some .int) :: ws) ({ frames := 0, cells := 0, slots := 0, locals := 0 } : Room)) (fun a U => a = #[(.ref a1), (.int p2)] ∧ Z.Warmed39 U.vm ∧ U.heap = h0) (fun _ _ _ _ _ => True) (fun _ U o U' => ∃ v L, o = .returned v ∧ Qrw2 Z a1 p2 a2 k e1 e2 h0 n0 v U'.heap L ∧ FrameEnd U o U' L ({ frames := 0, cells := 0, slots := 0, locals := 0 } : Room).cells ({ frames := 0, cells := 0, slots := 0, locals := 0 } : Room).slots) := by
  refine MetFree.of_bodySF (plainFor_of_name pn_0) hisR ?_
  intro p e s m args below meth c s₁ Bd hml0 hP hK
  obtain ⟨rfl, hZ, hh⟩ := hP
  have hx := Bd.exec
  have hby := Bd.bytes
  have hml : c.maxLocals = 3 := hml0
  have hown : s.vm.findClass "com/example/words_to_weights/wordstoweights/evaluation/JudgedRanking" = some m.cls := findClass_of_methodNamed Bd.named
  have hnm := (name_of_methodNamed Bd.named Bd.method).1
  have hlk : meth.locks = false := BodyLoose.notSynchronized Bd
  have X0 : Stand p l e ({ frames := 0, cells := 0, slots := 0, locals := 0 } : Room) s m #[(.ref a1), (.int p2)] below meth c s₁ [] 0 0 := Stand.of_body Bd
  have e0 : s₁.heap = h0 := by rw [← hh, Bd.state]; rfl
  have N0 := Fr.nil n0
  show OEnds p.tables e below (OGoal (Qrw2 Z a1 p2 a2 k e1 e2 h0 n0) s 0 0) (s₁.setTop (entryFrame m #[(.ref a1), (.int p2)] 3))
  refine OEnds.st (fun t k => castTop (ef_rw2 m a1 p2) k) ?_
  generalize hG : OGoal (Qrw2 Z a1 p2 a2 k e1 e2 h0 n0) s 0 0 = G
  have KK0 : Keep h0 h0 [] := Keep.refl h0 []
  show OEnds p.tables e below G (s₁.setTop (mkF m 0 #[.val (.ref a1), .val (.int p2), .unset] []))
  refine OEnds.st (fun _ k => XS.iconst X0.here hx rfl (hb hby d7_0) k) ?_
  show OEnds p.tables e below G (s₁.setTop (mkF m 1 #[.val (.ref a1), .val (.int p2), .unset] [(.int (0 : Int32))]))
  refine OEnds.st (fun _ k => XS.istoreN X0.here hx rfl (hb hby d7_1) rfl (l' := #[.val (.ref a1), .val (.int p2), .val (.int (0 : Int32))]) rfl k) ?_
  show OEnds p.tables e below G (s₁.setTop (mkF m 2 #[.val (.ref a1), .val (.int p2), .val (.int (0 : Int32))] []))
  refine OEnds.st (fun _ k => XS.iloadN X0.here hx rfl (hb hby d7_2) rfl k) ?_
  show OEnds p.tables e below G (s₁.setTop (mkF m 3 #[.val (.ref a1), .val (.int p2), .val (.int (0 : Int32))] [(.int (0 : Int32))]))
  refine OEnds.st (fun _ k => XS.aloadN X0.here hx rfl (hb hby d7_3) rfl rfl k) ?_
  show OEnds p.tables e below G (s₁.setTop (mkF m 4 #[.val (.ref a1), .val (.int p2), .val (.int (0 : Int32))] [(.ref a1), (.int (0 : Int32))]))
  obtain ⟨T1001, X1001, e1001, st1001⟩ := getF X0 hx hZ hown (host := "") (Or.inl (hw _ (List.mem_of_getElem? (i := 24) rfl))) Via.refl e0 Fk (g := (mkF m 4 #[.val (.ref a1), .val (.int p2), .val (.int (0 : Int32))] [(.ref a1), (.int (0 : Int32))])) rfl rfl (hb hby d7_4)
  refine OEnds.st st1001 ?_
  clear st1001
  show OEnds p.tables e below G (T1001.setTop (mkF m 7 #[.val (.ref a1), .val (.int p2), .val (.int (0 : Int32))] [(.ref a2), (.int (0 : Int32))]))
  obtain ⟨cl1002, Ar1002, -, S1002, N1002n, -, -⟩ := id V
  refine OEnds.st (X1001.arraylength hx (by rw [e1001]; exact Ar1002.1) (State.isArrayOf_alike hZ.alike Ar1002.2.1) (g := (mkF m 7 #[.val (.ref a1), .val (.int p2), .val (.int (0 : Int32))] [(.ref a2), (.int (0 : Int32))])) rfl rfl (hb hby d7_7)) ?_
  rw [len_of S1002 N1002n]
  show OEnds p.tables e below G (T1001.setTop (mkF m 8 #[.val (.ref a1), .val (.int p2), .val (.int (0 : Int32))] [(.int (2 : Int32)), (.int (0 : Int32))]))
  refine OEnds.st (fun _ k => XS.icmpNo X1001.here hx rfl (hb hby d7_8) rfl (tlt (by decide : (0 : Int32) < (2 : Int32))).2.1 k) ?_
  show OEnds p.tables e below G (T1001.setTop (mkF m 11 #[.val (.ref a1), .val (.int p2), .val (.int (0 : Int32))] []))
  refine OEnds.st (fun _ k => XS.aloadN X1001.here hx rfl (hb hby d7_11) rfl rfl k) ?_
  show OEnds p.tables e below G (T1001.setTop (mkF m 12 #[.val (.ref a1), .val (.int p2), .val (.int (0 : Int32))] [(.ref a1)]))
  obtain ⟨T1003, X1003, e1003, st1003⟩ := getF X1001 hx hZ hown (host := "") (Or.inl (hw _ (List.mem_of_getElem? (i := 24) rfl))) Via.refl e1001 Fk (g := (mkF m 12 #[.val (.ref a1), .val (.int p2), .val (.int (0 : Int32))] [(.ref a1)])) rfl rfl (hb hby d7_12)
  refine OEnds.st st1003 ?_
  clear st1003
  show OEnds p.tables e below G (T1003.setTop (mkF m 15 #[.val (.ref a1), .val (.int p2), .val (.int (0 : Int32))] [(.ref a2)]))
  refine OEnds.st (fun _ k => XS.iloadN X1003.here hx rfl (hb hby d7_15) rfl k) ?_
  show OEnds p.tables e below G (T1003.setTop (mkF m 16 #[.val (.ref a1), .val (.int p2), .val (.int (0 : Int32))] [(.int (0 : Int32)), (.ref a2)]))
  obtain ⟨cl1004, Ar1004, q1004, S1004, N1004n, H1004, G1004⟩ := id V
  have hin1004 : ¬ ((0 : Int32) < 0 ∨ cl1004.slots.size ≤ ((0 : Int32)).toNatClampNeg) := inb_of S1004 ⟨by decide, by decide⟩
  have hat1004 : cl1004.slots[((0 : Int32)).toNatClampNeg]? = some (.int e1) := H1004.at hin1004 rfl
  refine OEnds.st (X1003.iaload hx (j := (0 : Int32)) (v := (.int e1)) (by rw [e1003]; exact Ar1004.1) (State.isArrayOf_alike hZ.alike Ar1004.2.1) Ar1004.2.2 hin1004 hat1004 (g := (mkF m 16 #[.val (.ref a1), .val (.int p2), .val (.int (0 : Int32))] [(.int (0 : Int32)), (.ref a2)])) rfl rfl (hb hby d7_16)) ?_
  show OEnds p.tables e below G (T1003.setTop (mkF m 17 #[.val (.ref a1), .val (.int p2), .val (.int (0 : Int32))] [(.int e1)]))
  refine OEnds.st (fun _ k => XS.iloadN X1003.here hx rfl (hb hby d7_17) rfl k) ?_
  show OEnds p.tables e below G (T1003.setTop (mkF m 18 #[.val (.ref a1), .val (.int p2), .val (.int (0 : Int32))] [(.int p2), (.int e1)]))
  refine OEnds.st (fun _ k => XS.icmpNo X1003.here hx rfl (hb hby d7_18) rfl (flt he1).2.2.1 k) ?_
  show OEnds p.tables e below G (T1003.setTop (mkF m 21 #[.val (.ref a1), .val (.int p2), .val (.int (0 : Int32))] []))
  refine OEnds.st (fun _ k => XS.iinc X1003.here hx rfl (hb hby d7_21) rfl (l' := #[.val (.ref a1), .val (.int p2), .val (.int ((0 : Int32) + (1 : Int32)))]) rfl k) ?_
  show OEnds p.tables e below G (T1003.setTop (mkF m 24 #[.val (.ref a1), .val (.int p2), .val (.int ((0 : Int32) + (1 : Int32)))] []))
  rw [show ((0 : Int32) + (1 : Int32)) = (1 : Int32) from by decide]
  show OEnds p.tables e below G (T1003.setTop (mkF m 24 #[.val (.ref a1), .val (.int p2), .val (.int (1 : Int32))] []))
  refine OEnds.st (fun _ k => XS.goto X1003.here hx rfl (pc0 := 24) (pc' := 2) rfl (hb hby d7_24) (by decide) (by decide) k) ?_
  show OEnds p.tables e below G (T1003.setTop (mkF m 2 #[.val (.ref a1), .val (.int p2), .val (.int (1 : Int32))] []))
  refine OEnds.st (fun _ k => XS.iloadN X1003.here hx rfl (hb hby d7_2) rfl k) ?_
  show OEnds p.tables e below G (T1003.setTop (mkF m 3 #[.val (.ref a1), .val (.int p2), .val (.int (1 : Int32))] [(.int (1 : Int32))]))
  refine OEnds.st (fun _ k => XS.aloadN X1003.here hx rfl (hb hby d7_3) rfl rfl k) ?_
  show OEnds p.tables e below G (T1003.setTop (mkF m 4 #[.val (.ref a1), .val (.int p2), .val (.int (1 : Int32))] [(.ref a1), (.int (1 : Int32))]))
  obtain ⟨T1005, X1005, e1005, st1005⟩ := getF X1003 hx hZ hown (host := "") (Or.inl (hw _ (List.mem_of_getElem? (i := 24) rfl))) Via.refl e1003 Fk (g := (mkF m 4 #[.val (.ref a1), .val (.int p2), .val (.int (1 : Int32))] [(.ref a1), (.int (1 : Int32))])) rfl rfl (hb hby d7_4)
  refine OEnds.st st1005 ?_
  clear st1005
  show OEnds p.tables e below G (T1005.setTop (mkF m 7 #[.val (.ref a1), .val (.int p2), .val (.int (1 : Int32))] [(.ref a2), (.int (1 : Int32))]))
  obtain ⟨cl1006, Ar1006, -, S1006, N1006n, -, -⟩ := id V
  refine OEnds.st (X1005.arraylength hx (by rw [e1005]; exact Ar1006.1) (State.isArrayOf_alike hZ.alike Ar1006.2.1) (g := (mkF m 7 #[.val (.ref a1), .val (.int p2), .val (.int (1 : Int32))] [(.ref a2), (.int (1 : Int32))])) rfl rfl (hb hby d7_7)) ?_
  rw [len_of S1006 N1006n]
  show OEnds p.tables e below G (T1005.setTop (mkF m 8 #[.val (.ref a1), .val (.int p2), .val (.int (1 : Int32))] [(.int (2 : Int32)), (.int (1 : Int32))]))
  refine OEnds.st (fun _ k => XS.icmpNo X1005.here hx rfl (hb hby d7_8) rfl (tlt (by decide : (1 : Int32) < (2 : Int32))).2.1 k) ?_
  show OEnds p.tables e below G (T1005.setTop (mkF m 11 #[.val (.ref a1), .val (.int p2), .val (.int (1 : Int32))] []))
  refine OEnds.st (fun _ k => XS.aloadN X1005.here hx rfl (hb hby d7_11) rfl rfl k) ?_
  show OEnds p.tables e below G (T1005.setTop (mkF m 12 #[.val (.ref a1), .val (.int p2), .val (.int (1 : Int32))] [(.ref a1)]))
  obtain ⟨T1007, X1007, e1007, st1007⟩ := getF X1005 hx hZ hown (host := "") (Or.inl (hw _ (List.mem_of_getElem? (i := 24) rfl))) Via.refl e1005 Fk (g := (mkF m 12 #[.val (.ref a1), .val (.int p2), .val (.int (1 : Int32))] [(.ref a1)])) rfl rfl (hb hby d7_12)
  refine OEnds.st st1007 ?_
  clear st1007
  show OEnds p.tables e below G (T1007.setTop (mkF m 15 #[.val (.ref a1), .val (.int p2), .val (.int (1 : Int32))] [(.ref a2)]))
  refine OEnds.st (fun _ k => XS.iloadN X1007.here hx rfl (hb hby d7_15) rfl k) ?_
  show OEnds p.tables e below G (T1007.setTop (mkF m 16 #[.val (.ref a1), .val (.int p2), .val (.int (1 : Int32))] [(.int (1 : Int32)), (.ref a2)]))
  obtain ⟨cl1008, Ar1008, q1008, S1008, N1008n, H1008, G1008⟩ := id V
  have hin1008 : ¬ ((1 : Int32) < 0 ∨ cl1008.slots.size ≤ ((1 : Int32)).toNatClampNeg) := inb_of S1008 ⟨by decide, by decide⟩
  have hat1008 : cl1008.slots[((1 : Int32)).toNatClampNeg]? = some (.int e2) := H1008.at hin1008 rfl
  refine OEnds.st (X1007.iaload hx (j := (1 : Int32)) (v := (.int e2)) (by rw [e1007]; exact Ar1008.1) (State.isArrayOf_alike hZ.alike Ar1008.2.1) Ar1008.2.2 hin1008 hat1008 (g := (mkF m 16 #[.val (.ref a1), .val (.int p2), .val (.int (1 : Int32))] [(.int (1 : Int32)), (.ref a2)])) rfl rfl (hb hby d7_16)) ?_
  show OEnds p.tables e below G (T1007.setTop (mkF m 17 #[.val (.ref a1), .val (.int p2), .val (.int (1 : Int32))] [(.int e2)]))
  refine OEnds.st (fun _ k => XS.iloadN X1007.here hx rfl (hb hby d7_17) rfl k) ?_
  show OEnds p.tables e below G (T1007.setTop (mkF m 18 #[.val (.ref a1), .val (.int p2), .val (.int (1 : Int32))] [(.int p2), (.int e2)]))
  refine OEnds.st (fun _ k => XS.icmpNo X1007.here hx rfl (hb hby d7_18) rfl (flt he2).2.2.1 k) ?_
  show OEnds p.tables e below G (T1007.setTop (mkF m 21 #[.val (.ref a1), .val (.int p2), .val (.int (1 : Int32))] []))
  refine OEnds.st (fun _ k => XS.iinc X1007.here hx rfl (hb hby d7_21) rfl (l' := #[.val (.ref a1), .val (.int p2), .val (.int ((1 : Int32) + (1 : Int32)))]) rfl k) ?_
  show OEnds p.tables e below G (T1007.setTop (mkF m 24 #[.val (.ref a1), .val (.int p2), .val (.int ((1 : Int32) + (1 : Int32)))] []))
  rw [show ((1 : Int32) + (1 : Int32)) = (2 : Int32) from by decide]
  show OEnds p.tables e below G (T1007.setTop (mkF m 24 #[.val (.ref a1), .val (.int p2), .val (.int (2 : Int32))] []))
  refine OEnds.st (fun _ k => XS.goto X1007.here hx rfl (pc0 := 24) (pc' := 2) rfl (hb hby d7_24) (by decide) (by decide) k) ?_
  show OEnds p.tables e below G (T1007.setTop (mkF m 2 #[.val (.ref a1), .val (.int p2), .val (.int (2 : Int32))] []))
  refine OEnds.st (fun _ k => XS.iloadN X1007.here hx rfl (hb hby d7_2) rfl k) ?_
  show OEnds p.tables e below G (T1007.setTop (mkF m 3 #[.val (.ref a1), .val (.int p2), .val (.int (2 : Int32))] [(.int (2 : Int32))]))
  refine OEnds.st (fun _ k => XS.aloadN X1007.here hx rfl (hb hby d7_3) rfl rfl k) ?_
  show OEnds p.tables e below G (T1007.setTop (mkF m 4 #[.val (.ref a1), .val (.int p2), .val (.int (2 : Int32))] [(.ref a1), (.int (2 : Int32))]))
  obtain ⟨T1009, X1009, e1009, st1009⟩ := getF X1007 hx hZ hown (host := "") (Or.inl (hw _ (List.mem_of_getElem? (i := 24) rfl))) Via.refl e1007 Fk (g := (mkF m 4 #[.val (.ref a1), .val (.int p2), .val (.int (2 : Int32))] [(.ref a1), (.int (2 : Int32))])) rfl rfl (hb hby d7_4)
  refine OEnds.st st1009 ?_
  clear st1009
  show OEnds p.tables e below G (T1009.setTop (mkF m 7 #[.val (.ref a1), .val (.int p2), .val (.int (2 : Int32))] [(.ref a2), (.int (2 : Int32))]))
  obtain ⟨cl1010, Ar1010, -, S1010, N1010n, -, -⟩ := id V
  refine OEnds.st (X1009.arraylength hx (by rw [e1009]; exact Ar1010.1) (State.isArrayOf_alike hZ.alike Ar1010.2.1) (g := (mkF m 7 #[.val (.ref a1), .val (.int p2), .val (.int (2 : Int32))] [(.ref a2), (.int (2 : Int32))])) rfl rfl (hb hby d7_7)) ?_
  rw [len_of S1010 N1010n]
  show OEnds p.tables e below G (T1009.setTop (mkF m 8 #[.val (.ref a1), .val (.int p2), .val (.int (2 : Int32))] [(.int (2 : Int32)), (.int (2 : Int32))]))
  refine OEnds.st (fun _ k => XS.icmpYes X1009.here hx rfl (pc0 := 8) (pc' := 27) rfl (hb hby d7_8) rfl (flt (by decide : ¬ ((2 : Int32) < (2 : Int32)))).2.1 (by decide) (by decide) k) ?_
  show OEnds p.tables e below G (T1009.setTop (mkF m 27 #[.val (.ref a1), .val (.int p2), .val (.int (2 : Int32))] []))
  refine OEnds.st (fun _ k => XS.iloadN X1009.here hx rfl (hb hby d7_27) rfl k) ?_
  show OEnds p.tables e below G (T1009.setTop (mkF m 28 #[.val (.ref a1), .val (.int p2), .val (.int (2 : Int32))] [(.int (2 : Int32))]))
  rw [← hG]
  refine OEnds.retI X1009 hx hlk Bd.returns (hb hby d7_28) (by decide) (by decide) ?_
  rw [e1009]
  exact ⟨rfl, N0, rfl⟩
theorem ef_ra2 (m : MethodId) (a1 : Addr) (p2 : Int32) : entryFrame m #[(.ref a1), (.int p2)] 2 = mkF m 0 #[.val (.ref a1), .val (.int p2)] [] := by first | (simp [entryFrame, mkF, argsToLocals, Value.category]; done) | rfl
def Qra2 (Z : State) (a1 : Addr) (p2 : Int32) (r : Int32) (a2 : Addr) (k : ClassId) (e1 : Int32) (e2 : Int32) (h0 : Heap) (n0 : Nat) (v : Option Value) (h : Heap) (L : List Loc) : Prop := v = some (.double (own_rc (4611686018427387904 : UInt64) r)) ∧ Fr n0 L ∧ h = h0
set_option maxRecDepth 65536 in
set_option maxHeartbeats 40000000 in
theorem rmra2 (l : Launch) (Z : State) (a0 : Array Value) (hw : ∀ d ∈ tables_1, d.before a0 Z = true) (ws : List Jvm.Cond) (a1 : Addr) (p2 : Int32) (r : Int32) (a2 : Addr) (k : ClassId) (e1 : Int32) (e2 : Int32) (h0 : Heap) (n0 : Nat) (Z0 : n0 ≤ h0.size) (E1 : Exa Z h0 a1 "com/example/words_to_weights/wordstoweights/evaluation/JudgedRanking") (Fre : Fld Z h0 a1 "com/example/words_to_weights/wordstoweights/evaluation/JudgedRanking" "relevant" "I" (.int r)) (Fk : Fld Z h0 a1 "com/example/words_to_weights/wordstoweights/evaluation/JudgedRanking" "relevantRanks" "[I" (.ref a2)) (V : Arv Z h0 a2 k .int (2 : Int32) [(.int e1), (.int e2)] (.int (0 : Int32))) (he1 : ¬ (p2 < e1)) (he2 : ¬ (p2 < e2)) :
    MetFree l (⟨"com/example/words_to_weights/wordstoweights/evaluation/JudgedRanking", "recallAt", "(I)D"⟩ : MethodName) (head1 (Jvm.Cond.code (⟨"com/example/words_to_weights/wordstoweights/evaluation/JudgedRanking", "recallAt", "(I)D"⟩ : MethodName) prog_30_method_12_code 2 (some .double) :: ws) ({ frames := 1, cells := 0, slots := 0, locals := 14 } : Room)) (fun a U => a = #[(.ref a1), (.int p2)] ∧ Z.Warmed39 U.vm ∧ U.heap = h0) (fun _ _ _ _ _ => True) (fun _ U o U' => ∃ v L, o = .returned v ∧ Qra2 Z a1 p2 r a2 k e1 e2 h0 n0 v U'.heap L ∧ FrameEnd U o U' L ({ frames := 1, cells := 0, slots := 0, locals := 14 } : Room).cells ({ frames := 1, cells := 0, slots := 0, locals := 14 } : Room).slots) := by
  refine MetFree.of_bodySF (plainFor_of_name pn_0) hisR ?_
  intro p e s m args below meth c s₁ Bd hml0 hP hK
  obtain ⟨rfl, hZ, hh⟩ := hP
  have hx := Bd.exec
  have hby := Bd.bytes
  have hml : c.maxLocals = 2 := hml0
  have hown : s.vm.findClass "com/example/words_to_weights/wordstoweights/evaluation/JudgedRanking" = some m.cls := findClass_of_methodNamed Bd.named
  have hnm := (name_of_methodNamed Bd.named Bd.method).1
  have hlk : meth.locks = false := BodyLoose.notSynchronized Bd
  have X0 : Stand p l e ({ frames := 1, cells := 0, slots := 0, locals := 14 } : Room) s m #[(.ref a1), (.int p2)] below meth c s₁ [] 0 0 := Stand.of_body Bd
  have e0 : s₁.heap = h0 := by rw [← hh, Bd.state]; rfl
  have N0 := Fr.nil n0
  show OEnds p.tables e below (OGoal (Qra2 Z a1 p2 r a2 k e1 e2 h0 n0) s 0 0) (s₁.setTop (entryFrame m #[(.ref a1), (.int p2)] 2))
  refine OEnds.st (fun t k => castTop (ef_ra2 m a1 p2) k) ?_
  generalize hG : OGoal (Qra2 Z a1 p2 r a2 k e1 e2 h0 n0) s 0 0 = G
  have KK0 : Keep h0 h0 [] := Keep.refl h0 []
  show OEnds p.tables e below G (s₁.setTop (mkF m 0 #[.val (.ref a1), .val (.int p2)] []))
  refine OEnds.st (fun _ k => XS.aloadN X0.here hx rfl (hb hby d6_0) rfl rfl k) ?_
  show OEnds p.tables e below G (s₁.setTop (mkF m 1 #[.val (.ref a1), .val (.int p2)] [(.ref a1)]))
  obtain ⟨T1001, X1001, e1001, st1001⟩ := getF X0 hx hZ hown (host := "") (Or.inl (hw _ (List.mem_of_getElem? (i := 22) rfl))) Via.refl e0 Fre (g := (mkF m 1 #[.val (.ref a1), .val (.int p2)] [(.ref a1)])) rfl rfl (hb hby d6_1)
  refine OEnds.st st1001 ?_
  clear st1001
  show OEnds p.tables e below G (T1001.setTop (mkF m 4 #[.val (.ref a1), .val (.int p2)] [(.int r)]))
  by_cases hc4_1002 : r = (0 : Int32)
  · -- pc 4: yes
    refine OEnds.st (fun _ k => XS.ifNo X1001.here hx rfl (hb hby d6_4) rfl ((if0 _ _).trans (teq hc4_1002).2) k) ?_
    show OEnds p.tables e below G (T1001.setTop (mkF m 7 #[.val (.ref a1), .val (.int p2)] []))
    refine OEnds.st (fun _ k => XS.dconst0 X1001.here hx rfl (hb hby d6_7) (v := (0 : UInt64)) rfl k) ?_
    show OEnds p.tables e below G (T1001.setTop (mkF m 8 #[.val (.ref a1), .val (.int p2)] [(.double (0 : UInt64))]))
    refine OEnds.st (fun _ k => XS.goto X1001.here hx rfl (pc0 := 8) (pc' := 23) rfl (hb hby d6_8) (by decide) (by decide) k) ?_
    show OEnds p.tables e below G (T1001.setTop (mkF m 23 #[.val (.ref a1), .val (.int p2)] [(.double (0 : UInt64))]))
    rw [← hG]
    refine OEnds.retD X1001 hx hlk Bd.returns (hb hby d6_23) (by decide) (by decide) ?_
    rw [e1001]
    exact ⟨congrArg (fun z => some (Value.double z)) (by rw [own_rc, if_pos hc4_1002]), N0, rfl⟩
  · -- pc 4: no
    refine OEnds.st (fun _ k => XS.ifYes X1001.here hx rfl (pc0 := 4) (pc' := 11) rfl (hb hby d6_4) rfl ((if0 _ _).trans (feq hc4_1002).2) (by decide) (by decide) k) ?_
    show OEnds p.tables e below G (T1001.setTop (mkF m 11 #[.val (.ref a1), .val (.int p2)] []))
    refine OEnds.st (fun _ k => XS.aloadN X1001.here hx rfl (hb hby d6_11) rfl rfl k) ?_
    show OEnds p.tables e below G (T1001.setTop (mkF m 12 #[.val (.ref a1), .val (.int p2)] [(.ref a1)]))
    refine OEnds.st (fun _ k => XS.iloadN X1001.here hx rfl (hb hby d6_12) rfl k) ?_
    show OEnds p.tables e below G (T1001.setTop (mkF m 13 #[.val (.ref a1), .val (.int p2)] [(.int p2), (.ref a1)]))
    obtain ⟨cq1003, q1003, q1003'⟩ := E1.cell
    obtain ⟨_, _, ⟨T1003, L1003, k1003c, n1003c⟩, -, X1003, ⟨Lc1003, hQ1003, l1003, y1003, z1003⟩, st1003⟩ := X1001.privateBack hx (y := (⟨"com/example/words_to_weights/wordstoweights/evaluation/JudgedRanking", "relevantWithin", "(I)I"⟩ : MethodName)) hown (mvT hZ (hw _ (List.mem_of_getElem? (i := 36) rfl))) (mvT hZ (hw _ (List.mem_of_getElem? (i := 37) rfl))) (own_selP (y := (⟨"com/example/words_to_weights/wordstoweights/evaluation/JudgedRanking", "relevantWithin", "(I)I"⟩ : MethodName)) (mvT hZ (hw _ (List.mem_of_getElem? (i := 12) rfl))) (mvP hZ (hw _ (List.mem_of_getElem? (i := 38) rfl))) (mvT hZ (hw _ (List.mem_of_getElem? (i := 37) rfl))) (by decide)) (Cond.privateMethod_at (mvP hZ (hw _ (List.mem_of_getElem? (i := 38) rfl)) (args := #[]))) (mvT hZ (hw _ (List.mem_of_getElem? (i := 39) rfl))) (by decide) (backOf (W := 0) (rmrw2 l Z a0 hw [] a1 p2 a2 k e1 e2 h0 n0 Z0 Fk V he1 he2) hZ (hw _ (List.mem_of_getElem? (i := 39) rfl)) (hw _ (List.mem_of_getElem? (i := 13) rfl)) (by decide) (by decide)) (g := (mkF m 13 #[.val (.ref a1), .val (.int p2)] [(.int p2), (.ref a1)])) rfl (by rw [hml]; rfl) (Steps.refl _) (a := a1) (by rw [e1001]; exact q1003) q1003' (argsL := [(.int p2)]) (rest := []) (lenOf pd_0 rfl) rfl (by show 2 * 0 + _ ≤ _; exact Nat.le_of_eq rfl) (hb hby d6_13) (fun _ _ => ⟨rfl, e1001, (by decide : 0 + 0 ≤ _), (by decide : 0 + 0 ≤ _)⟩)
    dsimp only [Pt.U, Pt.locs, Pt.cells, Pt.slots] at X1003 l1003 y1003 z1003 st1003 hQ1003
    subst l1003 y1003 z1003
    obtain ⟨rfl, N1003q, e1003⟩ := hQ1003
    have N1003 := Fr.app N0 N1003q
    refine OEnds.st (fun _ k => st1003.trans k) ?_
    clear st1003
    show OEnds p.tables e below G (T1003.setTop (mkF m 16 #[.val (.ref a1), .val (.int p2)] [(.int (2 : Int32))]))
    refine OEnds.st (fun _ k => XS.i2dS X1003.here hx rfl (hb hby d6_16) rfl (v := (4611686018427387904 : UInt64)) (by decide +kernel) k) ?_
    show OEnds p.tables e below G (T1003.setTop (mkF m 17 #[.val (.ref a1), .val (.int p2)] [(.double (4611686018427387904 : UInt64))]))
    refine OEnds.st (fun _ k => XS.aloadN X1003.here hx rfl (hb hby d6_17) rfl rfl k) ?_
    show OEnds p.tables e below G (T1003.setTop (mkF m 18 #[.val (.ref a1), .val (.int p2)] [(.ref a1), (.double (4611686018427387904 : UInt64))]))
    obtain ⟨T1004, X1004, e1004, st1004⟩ := getF X1003 hx hZ hown (host := "") (Or.inl (hw _ (List.mem_of_getElem? (i := 22) rfl))) Via.refl e1003 Fre (g := (mkF m 18 #[.val (.ref a1), .val (.int p2)] [(.ref a1), (.double (4611686018427387904 : UInt64))])) rfl rfl (hb hby d6_18)
    refine OEnds.st st1004 ?_
    clear st1004
    show OEnds p.tables e below G (T1004.setTop (mkF m 21 #[.val (.ref a1), .val (.int p2)] [(.int r), (.double (4611686018427387904 : UInt64))]))
    refine OEnds.st (fun _ k => XS.i2dS X1004.here hx rfl (hb hby d6_21) rfl (v := (FP.i2d r)) rfl k) ?_
    show OEnds p.tables e below G (T1004.setTop (mkF m 22 #[.val (.ref a1), .val (.int p2)] [(.double (FP.i2d r)), (.double (4611686018427387904 : UInt64))]))
    refine OEnds.st (fun _ k => XS.ddivS X1004.here hx rfl (hb hby d6_22) rfl (Fl.ddiv_out (own_nnL (by decide)) (Fl.i2d_fin _) (Fl.i2d_nz hc4_1002)) rfl k) ?_
    show OEnds p.tables e below G (T1004.setTop (mkF m 23 #[.val (.ref a1), .val (.int p2)] [(.double (FP.ddiv (4611686018427387904 : UInt64) (FP.i2d r)))]))
    rw [← hG]
    refine OEnds.retD X1004 hx hlk Bd.returns (hb hby d6_23) (by decide) (by decide) ?_
    rw [e1004]
    exact ⟨congrArg (fun z => some (Value.double z)) (by rw [own_rc, if_neg hc4_1002]), N1003, rfl⟩
theorem ef_rk3 (m : MethodId) (e1 : Int32) (e2 : Int32) (e3 : Int32) : entryFrame m #[(.int (3 : Int32)), (.int e1), (.int e2), (.int e3)] 4 = mkF m 0 #[.val (.int (3 : Int32)), .val (.int e1), .val (.int e2), .val (.int e3)] [] := by first | (simp [entryFrame, mkF, argsToLocals, Value.category]; done) | rfl
def Qrk3 (Z : State) (e1 : Int32) (e2 : Int32) (e3 : Int32) (h0 : Heap) (n0 : Nat) (v : Option Value) (h : Heap) (L : List Loc) : Prop := ∃ (b : Addr) (kb : ClassId), v = some (.ref b) ∧ Fr n0 L ∧ Keep h0 h [] ∧ h0.size ≤ b ∧ Arv Z h b kb .int (3 : Int32) [(.int e1), (.int e2), (.int e3)] (.int (0 : Int32))
theorem d2_38 : decode method_2_code 38 = .ok (.iconst 3, 1) := by decide +kernel
theorem d2_39 : decode method_2_code 39 = .ok (.newarray .int, 2) := by decide +kernel
theorem d2_41 : decode method_2_code 41 = .ok (.dup, 1) := by decide +kernel
theorem d2_42 : decode method_2_code 42 = .ok (.iconst 0, 1) := by decide +kernel
theorem d2_43 : decode method_2_code 43 = .ok (.iload_n 1, 1) := by decide +kernel
theorem d2_44 : decode method_2_code 44 = .ok (.iastore, 1) := by decide +kernel
theorem d2_45 : decode method_2_code 45 = .ok (.dup, 1) := by decide +kernel
theorem d2_46 : decode method_2_code 46 = .ok (.iconst 1, 1) := by decide +kernel
theorem d2_47 : decode method_2_code 47 = .ok (.iload_n 2, 1) := by decide +kernel
theorem d2_48 : decode method_2_code 48 = .ok (.iastore, 1) := by decide +kernel
theorem d2_49 : decode method_2_code 49 = .ok (.dup, 1) := by decide +kernel
theorem d2_50 : decode method_2_code 50 = .ok (.iconst 2, 1) := by decide +kernel
theorem d2_51 : decode method_2_code 51 = .ok (.iload_n 3, 1) := by decide +kernel
theorem d2_52 : decode method_2_code 52 = .ok (.iastore, 1) := by decide +kernel
theorem d2_53 : decode method_2_code 53 = .ok (.areturn, 1) := by decide +kernel
set_option maxRecDepth 65536 in
set_option maxHeartbeats 40000000 in
theorem rmrk3 (l : Launch) (Z : State) (a0 : Array Value) (hw : ∀ d ∈ tables_1, d.before a0 Z = true) (ws : List Jvm.Cond) (e1 : Int32) (e2 : Int32) (e3 : Int32) (h0 : Heap) (n0 : Nat) (Z0 : n0 ≤ h0.size) :
    MetFree l (⟨"com/example/words_to_weights/wordstoweights/evaluation/JudgedRankingSetRecallPinLaw", "ranks", "(IIII)[I"⟩ : MethodName) (head1 (Jvm.Cond.code (⟨"com/example/words_to_weights/wordstoweights/evaluation/JudgedRankingSetRecallPinLaw", "ranks", "(IIII)[I"⟩ : MethodName) method_2_code 4 (some (.array .int)) :: ws) ({ frames := 0, cells := 1, slots := 3, locals := 0 } : Room)) (fun a U => a = #[(.int (3 : Int32)), (.int e1), (.int e2), (.int e3)] ∧ Z.Warmed39 U.vm ∧ U.heap = h0) (fun _ _ _ _ _ => True) (fun _ U o U' => ∃ v L, o = .returned v ∧ Qrk3 Z e1 e2 e3 h0 n0 v U'.heap L ∧ FrameEnd U o U' L ({ frames := 0, cells := 1, slots := 3, locals := 0 } : Room).cells ({ frames := 0, cells := 1, slots := 3, locals := 0 } : Room).slots) := by
  refine MetFree.of_bodySF (plainFor_of_name pn_1) hisR ?_
  intro p e s m args below meth c s₁ Bd hml0 hP hK
  obtain ⟨rfl, hZ, hh⟩ := hP
  have hx := Bd.exec
  have hby := Bd.bytes
  have hml : c.maxLocals = 4 := hml0
  have hown : s.vm.findClass "com/example/words_to_weights/wordstoweights/evaluation/JudgedRankingSetRecallPinLaw" = some m.cls := findClass_of_methodNamed Bd.named
  have hnm := (name_of_methodNamed Bd.named Bd.method).1
  have hlk : meth.locks = false := BodyLoose.notSynchronized Bd
  have X0 : Stand p l e ({ frames := 0, cells := 1, slots := 3, locals := 0 } : Room) s m #[(.int (3 : Int32)), (.int e1), (.int e2), (.int e3)] below meth c s₁ [] 0 0 := Stand.of_body Bd
  have e0 : s₁.heap = h0 := by rw [← hh, Bd.state]; rfl
  have N0 := Fr.nil n0
  show OEnds p.tables e below (OGoal (Qrk3 Z e1 e2 e3 h0 n0) s 1 3) (s₁.setTop (entryFrame m #[(.int (3 : Int32)), (.int e1), (.int e2), (.int e3)] 4))
  refine OEnds.st (fun t k => castTop (ef_rk3 m e1 e2 e3) k) ?_
  generalize hG : OGoal (Qrk3 Z e1 e2 e3 h0 n0) s 1 3 = G
  have KK0 : Keep h0 h0 [] := Keep.refl h0 []
  show OEnds p.tables e below G (s₁.setTop (mkF m 0 #[.val (.int (3 : Int32)), .val (.int e1), .val (.int e2), .val (.int e3)] []))
  refine OEnds.st (fun _ k => XS.iloadN X0.here hx rfl (hb hby d2_0) rfl k) ?_
  show OEnds p.tables e below G (s₁.setTop (mkF m 1 #[.val (.int (3 : Int32)), .val (.int e1), .val (.int e2), .val (.int e3)] [(.int (3 : Int32))]))
  refine OEnds.st (fun _ k => XS.ifYes X0.here hx rfl (pc0 := 1) (pc' := 8) rfl (hb hby d2_1) rfl ((if0 _ _).trans (feq (by decide : ¬ ((3 : Int32) = (0 : Int32)))).2) (by decide) (by decide) k) ?_
  show OEnds p.tables e below G (s₁.setTop (mkF m 8 #[.val (.int (3 : Int32)), .val (.int e1), .val (.int e2), .val (.int e3)] []))
  refine OEnds.st (fun _ k => XS.iloadN X0.here hx rfl (hb hby d2_8) rfl k) ?_
  show OEnds p.tables e below G (s₁.setTop (mkF m 9 #[.val (.int (3 : Int32)), .val (.int e1), .val (.int e2), .val (.int e3)] [(.int (3 : Int32))]))
  refine OEnds.st (fun _ k => XS.iconst X0.here hx rfl (hb hby d2_9) k) ?_
  show OEnds p.tables e below G (s₁.setTop (mkF m 10 #[.val (.int (3 : Int32)), .val (.int e1), .val (.int e2), .val (.int e3)] [(.int (1 : Int32)), (.int (3 : Int32))]))
  refine OEnds.st (fun _ k => XS.icmpYes X0.here hx rfl (pc0 := 10) (pc' := 21) rfl (hb hby d2_10) rfl (feq (by decide : ¬ ((3 : Int32) = (1 : Int32)))).2 (by decide) (by decide) k) ?_
  show OEnds p.tables e below G (s₁.setTop (mkF m 21 #[.val (.int (3 : Int32)), .val (.int e1), .val (.int e2), .val (.int e3)] []))
  refine OEnds.st (fun _ k => XS.iloadN X0.here hx rfl (hb hby d2_21) rfl k) ?_
  show OEnds p.tables e below G (s₁.setTop (mkF m 22 #[.val (.int (3 : Int32)), .val (.int e1), .val (.int e2), .val (.int e3)] [(.int (3 : Int32))]))
  refine OEnds.st (fun _ k => XS.iconst X0.here hx rfl (hb hby d2_22) k) ?_
  show OEnds p.tables e below G (s₁.setTop (mkF m 23 #[.val (.int (3 : Int32)), .val (.int e1), .val (.int e2), .val (.int e3)] [(.int (2 : Int32)), (.int (3 : Int32))]))
  refine OEnds.st (fun _ k => XS.icmpYes X0.here hx rfl (pc0 := 23) (pc' := 38) rfl (hb hby d2_23) rfl (feq (by decide : ¬ ((3 : Int32) = (2 : Int32)))).2 (by decide) (by decide) k) ?_
  show OEnds p.tables e below G (s₁.setTop (mkF m 38 #[.val (.int (3 : Int32)), .val (.int e1), .val (.int e2), .val (.int e3)] []))
  refine OEnds.st (fun _ k => XS.iconst X0.here hx rfl (hb hby d2_38) k) ?_
  show OEnds p.tables e below G (s₁.setTop (mkF m 39 #[.val (.int (3 : Int32)), .val (.int e1), .val (.int e2), .val (.int e3)] [(.int (3 : Int32))]))
  obtain ⟨T1001, h1001, k1001, X1001, e1001, E1001, A1001, st1001⟩ := newP X0 hx hZ (hw _ (List.mem_of_getElem? (i := 10) rfl)) e0 (g := (mkF m 39 #[.val (.int (3 : Int32)), .val (.int e1), .val (.int e2), .val (.int e3)] [(.int (3 : Int32))])) rfl (hb hby d2_39) rfl (by decide) (cap := 3) (by decide) (by decide) (by decide) (by decide)
  obtain ⟨b1001, g1001⟩ : ∃ z, z = h0.size := ⟨_, rfl⟩
  rw [← g1001] at A1001 st1001
  refine OEnds.st st1001 ?_
  clear st1001
  have ge_b1001 : n0 ≤ b1001 := Nat.le_trans Z0 (Nat.le_of_eq g1001.symm)
  have sz_b1001 : h0.size ≤ b1001 := Nat.le_trans KK0.1 (Nat.le_of_eq g1001.symm)
  have KK1001 : Keep h0 h1001 [] := KK0.ext E1001
  have Z1001 := Nat.le_trans Z0 E1001.1
  have f1002 : Arv Z h1001 b1001 k1001 .int (3 : Int32) [(.int (0 : Int32)), (.int (0 : Int32)), (.int (0 : Int32))] (.int (0 : Int32)) := (Arv.new A1001 (by decide)).pad (pad_rep [] (.int (0 : Int32)) 3)
  show OEnds p.tables e below G (T1001.setTop (mkF m 41 #[.val (.int (3 : Int32)), .val (.int e1), .val (.int e2), .val (.int e3)] [(.ref b1001)]))
  refine OEnds.st (fun _ k => XS.dup X1001.here hx rfl (hb hby d2_41) rfl rfl k) ?_
  show OEnds p.tables e below G (T1001.setTop (mkF m 42 #[.val (.int (3 : Int32)), .val (.int e1), .val (.int e2), .val (.int e3)] [(.ref b1001), (.ref b1001)]))
  refine OEnds.st (fun _ k => XS.iconst X1001.here hx rfl (hb hby d2_42) k) ?_
  show OEnds p.tables e below G (T1001.setTop (mkF m 43 #[.val (.int (3 : Int32)), .val (.int e1), .val (.int e2), .val (.int e3)] [(.int (0 : Int32)), (.ref b1001), (.ref b1001)]))
  refine OEnds.st (fun _ k => XS.iloadN X1001.here hx rfl (hb hby d2_43) rfl k) ?_
  show OEnds p.tables e below G (T1001.setTop (mkF m 44 #[.val (.int (3 : Int32)), .val (.int e1), .val (.int e2), .val (.int e3)] [(.int e1), (.int (0 : Int32)), (.ref b1001), (.ref b1001)]))
  obtain ⟨cl1003, Ar1003, q1003, S1003, N1003n, H1003, G1003⟩ := id f1002
  have hin1003 : ¬ ((0 : Int32) < 0 ∨ cl1003.slots.size ≤ ((0 : Int32)).toNatClampNeg) := inb_of S1003 ⟨by decide, by decide⟩
  obtain ⟨T1003, h1003, X1003, e1003, W1003, st1003⟩ := stI X1001 hx hZ e1001 Ar1003 (j := (0 : Int32)) hin1003 (g := (mkF m 44 #[.val (.int (3 : Int32)), .val (.int e1), .val (.int e2), .val (.int e3)] [(.int e1), (.int (0 : Int32)), (.ref b1001), (.ref b1001)])) rfl rfl (hb hby d2_44)
  refine OEnds.st st1003 ?_
  clear st1003
  have f1004 : Arv Z h1003 b1001 k1001 .int (3 : Int32) [(.int e1), (.int (0 : Int32)), (.int (0 : Int32))] (.int (0 : Int32)) := Arv.set Ar1003 q1003 S1003 N1003n H1003 G1003 rfl W1003 0 rfl (Nat.le_of_ble_eq_true rfl)
  have N1003 := Fr.snoc X1003 N0 ge_b1001
  have KK1003 : Keep h0 h1003 [] := KK1001.wr W1003 (Or.inr sz_b1001)
  have Z1003 := Nat.le_trans Z1001 (Keep.of_wr W1003).1
  show OEnds p.tables e below G (T1003.setTop (mkF m 45 #[.val (.int (3 : Int32)), .val (.int e1), .val (.int e2), .val (.int e3)] [(.ref b1001)]))
  refine OEnds.st (fun _ k => XS.dup X1003.here hx rfl (hb hby d2_45) rfl rfl k) ?_
  show OEnds p.tables e below G (T1003.setTop (mkF m 46 #[.val (.int (3 : Int32)), .val (.int e1), .val (.int e2), .val (.int e3)] [(.ref b1001), (.ref b1001)]))
  refine OEnds.st (fun _ k => XS.iconst X1003.here hx rfl (hb hby d2_46) k) ?_
  show OEnds p.tables e below G (T1003.setTop (mkF m 47 #[.val (.int (3 : Int32)), .val (.int e1), .val (.int e2), .val (.int e3)] [(.int (1 : Int32)), (.ref b1001), (.ref b1001)]))
  refine OEnds.st (fun _ k => XS.iloadN X1003.here hx rfl (hb hby d2_47) rfl k) ?_
  show OEnds p.tables e below G (T1003.setTop (mkF m 48 #[.val (.int (3 : Int32)), .val (.int e1), .val (.int e2), .val (.int e3)] [(.int e2), (.int (1 : Int32)), (.ref b1001), (.ref b1001)]))
  obtain ⟨cl1005, Ar1005, q1005, S1005, N1005n, H1005, G1005⟩ := id f1004
  have hin1005 : ¬ ((1 : Int32) < 0 ∨ cl1005.slots.size ≤ ((1 : Int32)).toNatClampNeg) := inb_of S1005 ⟨by decide, by decide⟩
  obtain ⟨T1005, h1005, X1005, e1005, W1005, st1005⟩ := stI X1003 hx hZ e1003 Ar1005 (j := (1 : Int32)) hin1005 (g := (mkF m 48 #[.val (.int (3 : Int32)), .val (.int e1), .val (.int e2), .val (.int e3)] [(.int e2), (.int (1 : Int32)), (.ref b1001), (.ref b1001)])) rfl rfl (hb hby d2_48)
  refine OEnds.st st1005 ?_
  clear st1005
  have f1006 : Arv Z h1005 b1001 k1001 .int (3 : Int32) [(.int e1), (.int e2), (.int (0 : Int32))] (.int (0 : Int32)) := Arv.set Ar1005 q1005 S1005 N1005n H1005 G1005 rfl W1005 1 rfl (Nat.le_of_ble_eq_true rfl)
  have N1005 := Fr.snoc X1005 N1003 ge_b1001
  have KK1005 : Keep h0 h1005 [] := KK1003.wr W1005 (Or.inr sz_b1001)
  have Z1005 := Nat.le_trans Z1003 (Keep.of_wr W1005).1
  show OEnds p.tables e below G (T1005.setTop (mkF m 49 #[.val (.int (3 : Int32)), .val (.int e1), .val (.int e2), .val (.int e3)] [(.ref b1001)]))
  refine OEnds.st (fun _ k => XS.dup X1005.here hx rfl (hb hby d2_49) rfl rfl k) ?_
  show OEnds p.tables e below G (T1005.setTop (mkF m 50 #[.val (.int (3 : Int32)), .val (.int e1), .val (.int e2), .val (.int e3)] [(.ref b1001), (.ref b1001)]))
  refine OEnds.st (fun _ k => XS.iconst X1005.here hx rfl (hb hby d2_50) k) ?_
  show OEnds p.tables e below G (T1005.setTop (mkF m 51 #[.val (.int (3 : Int32)), .val (.int e1), .val (.int e2), .val (.int e3)] [(.int (2 : Int32)), (.ref b1001), (.ref b1001)]))
  refine OEnds.st (fun _ k => XS.iloadN X1005.here hx rfl (hb hby d2_51) rfl k) ?_
  show OEnds p.tables e below G (T1005.setTop (mkF m 52 #[.val (.int (3 : Int32)), .val (.int e1), .val (.int e2), .val (.int e3)] [(.int e3), (.int (2 : Int32)), (.ref b1001), (.ref b1001)]))
  obtain ⟨cl1007, Ar1007, q1007, S1007, N1007n, H1007, G1007⟩ := id f1006
  have hin1007 : ¬ ((2 : Int32) < 0 ∨ cl1007.slots.size ≤ ((2 : Int32)).toNatClampNeg) := inb_of S1007 ⟨by decide, by decide⟩
  obtain ⟨T1007, h1007, X1007, e1007, W1007, st1007⟩ := stI X1005 hx hZ e1005 Ar1007 (j := (2 : Int32)) hin1007 (g := (mkF m 52 #[.val (.int (3 : Int32)), .val (.int e1), .val (.int e2), .val (.int e3)] [(.int e3), (.int (2 : Int32)), (.ref b1001), (.ref b1001)])) rfl rfl (hb hby d2_52)
  refine OEnds.st st1007 ?_
  clear st1007
  have f1008 : Arv Z h1007 b1001 k1001 .int (3 : Int32) [(.int e1), (.int e2), (.int e3)] (.int (0 : Int32)) := Arv.set Ar1007 q1007 S1007 N1007n H1007 G1007 rfl W1007 2 rfl (Nat.le_of_ble_eq_true rfl)
  have N1007 := Fr.snoc X1007 N1005 ge_b1001
  have KK1007 : Keep h0 h1007 [] := KK1005.wr W1007 (Or.inr sz_b1001)
  have Z1007 := Nat.le_trans Z1005 (Keep.of_wr W1007).1
  show OEnds p.tables e below G (T1007.setTop (mkF m 53 #[.val (.int (3 : Int32)), .val (.int e1), .val (.int e2), .val (.int e3)] [(.ref b1001)]))
  rw [← hG]
  refine OEnds.retA X1007 hx hlk Bd.returns (by first | rfl | exact rfl) rfl (hb hby d2_53) (by decide) (by decide) ?_
  rw [e1007]
  exact ⟨b1001, k1001, rfl, N1007, KK1007, sz_b1001, f1008⟩
theorem ef_sr3 (m : MethodId) (a1 : Addr) : entryFrame m #[(.ref a1)] 1 = mkF m 0 #[.val (.ref a1)] [] := by first | (simp [entryFrame, mkF, argsToLocals, Value.category]; done) | rfl
def Qsr3 (Z : State) (a1 : Addr) (r : Int32) (a2 : Addr) (k : ClassId) (vs : List Value) (h0 : Heap) (n0 : Nat) (v : Option Value) (h : Heap) (L : List Loc) : Prop := v = some (.double (own_rc (4613937818241073152 : UInt64) r)) ∧ Fr n0 L ∧ h = h0
set_option maxRecDepth 65536 in
set_option maxHeartbeats 40000000 in
theorem rmsr3 (l : Launch) (Z : State) (a0 : Array Value) (hw : ∀ d ∈ tables_1, d.before a0 Z = true) (ws : List Jvm.Cond) (a1 : Addr) (r : Int32) (a2 : Addr) (k : ClassId) (vs : List Value) (h0 : Heap) (n0 : Nat) (Z0 : n0 ≤ h0.size) (Fre : Fld Z h0 a1 "com/example/words_to_weights/wordstoweights/evaluation/JudgedRanking" "relevant" "I" (.int r)) (Fk : Fld Z h0 a1 "com/example/words_to_weights/wordstoweights/evaluation/JudgedRanking" "relevantRanks" "[I" (.ref a2)) (V : Arv Z h0 a2 k .int (3 : Int32) vs (.int (0 : Int32))) :
    MetFree l (⟨"com/example/words_to_weights/wordstoweights/evaluation/JudgedRanking", "setRecall", "()D"⟩ : MethodName) (head1 (Jvm.Cond.code (⟨"com/example/words_to_weights/wordstoweights/evaluation/JudgedRanking", "setRecall", "()D"⟩ : MethodName) prog_30_method_14_code 1 (some .double) :: ws) ({ frames := 0, cells := 0, slots := 0, locals := 0 } : Room)) (fun a U => a = #[(.ref a1)] ∧ Z.Warmed39 U.vm ∧ U.heap = h0) (fun _ _ _ _ _ => True) (fun _ U o U' => ∃ v L, o = .returned v ∧ Qsr3 Z a1 r a2 k vs h0 n0 v U'.heap L ∧ FrameEnd U o U' L ({ frames := 0, cells := 0, slots := 0, locals := 0 } : Room).cells ({ frames := 0, cells := 0, slots := 0, locals := 0 } : Room).slots) := by
  refine MetFree.of_bodySF (plainFor_of_name pn_0) hisR ?_
  intro p e s m args below meth c s₁ Bd hml0 hP hK
  obtain ⟨rfl, hZ, hh⟩ := hP
  have hx := Bd.exec
  have hby := Bd.bytes
  have hml : c.maxLocals = 1 := hml0
  have hown : s.vm.findClass "com/example/words_to_weights/wordstoweights/evaluation/JudgedRanking" = some m.cls := findClass_of_methodNamed Bd.named
  have hnm := (name_of_methodNamed Bd.named Bd.method).1
  have hlk : meth.locks = false := BodyLoose.notSynchronized Bd
  have X0 : Stand p l e ({ frames := 0, cells := 0, slots := 0, locals := 0 } : Room) s m #[(.ref a1)] below meth c s₁ [] 0 0 := Stand.of_body Bd
  have e0 : s₁.heap = h0 := by rw [← hh, Bd.state]; rfl
  have N0 := Fr.nil n0
  show OEnds p.tables e below (OGoal (Qsr3 Z a1 r a2 k vs h0 n0) s 0 0) (s₁.setTop (entryFrame m #[(.ref a1)] 1))
  refine OEnds.st (fun t k => castTop (ef_sr3 m a1) k) ?_
  generalize hG : OGoal (Qsr3 Z a1 r a2 k vs h0 n0) s 0 0 = G
  have KK0 : Keep h0 h0 [] := Keep.refl h0 []
  show OEnds p.tables e below G (s₁.setTop (mkF m 0 #[.val (.ref a1)] []))
  refine OEnds.st (fun _ k => XS.aloadN X0.here hx rfl (hb hby d5_0) rfl rfl k) ?_
  show OEnds p.tables e below G (s₁.setTop (mkF m 1 #[.val (.ref a1)] [(.ref a1)]))
  obtain ⟨T1001, X1001, e1001, st1001⟩ := getF X0 hx hZ hown (host := "") (Or.inl (hw _ (List.mem_of_getElem? (i := 22) rfl))) Via.refl e0 Fre (g := (mkF m 1 #[.val (.ref a1)] [(.ref a1)])) rfl rfl (hb hby d5_1)
  refine OEnds.st st1001 ?_
  clear st1001
  show OEnds p.tables e below G (T1001.setTop (mkF m 4 #[.val (.ref a1)] [(.int r)]))
  by_cases hc4_1002 : r = (0 : Int32)
  · -- pc 4: yes
    refine OEnds.st (fun _ k => XS.ifNo X1001.here hx rfl (hb hby d5_4) rfl ((if0 _ _).trans (teq hc4_1002).2) k) ?_
    show OEnds p.tables e below G (T1001.setTop (mkF m 7 #[.val (.ref a1)] []))
    refine OEnds.st (fun _ k => XS.dconst0 X1001.here hx rfl (hb hby d5_7) (v := (0 : UInt64)) rfl k) ?_
    show OEnds p.tables e below G (T1001.setTop (mkF m 8 #[.val (.ref a1)] [(.double (0 : UInt64))]))
    refine OEnds.st (fun _ k => XS.goto X1001.here hx rfl (pc0 := 8) (pc' := 23) rfl (hb hby d5_8) (by decide) (by decide) k) ?_
    show OEnds p.tables e below G (T1001.setTop (mkF m 23 #[.val (.ref a1)] [(.double (0 : UInt64))]))
    rw [← hG]
    refine OEnds.retD X1001 hx hlk Bd.returns (hb hby d5_23) (by decide) (by decide) ?_
    rw [e1001]
    exact ⟨congrArg (fun z => some (Value.double z)) (by rw [own_rc, if_pos hc4_1002]), N0, rfl⟩
  · -- pc 4: no
    refine OEnds.st (fun _ k => XS.ifYes X1001.here hx rfl (pc0 := 4) (pc' := 11) rfl (hb hby d5_4) rfl ((if0 _ _).trans (feq hc4_1002).2) (by decide) (by decide) k) ?_
    show OEnds p.tables e below G (T1001.setTop (mkF m 11 #[.val (.ref a1)] []))
    refine OEnds.st (fun _ k => XS.aloadN X1001.here hx rfl (hb hby d5_11) rfl rfl k) ?_
    show OEnds p.tables e below G (T1001.setTop (mkF m 12 #[.val (.ref a1)] [(.ref a1)]))
    obtain ⟨T1003, X1003, e1003, st1003⟩ := getF X1001 hx hZ hown (host := "") (Or.inl (hw _ (List.mem_of_getElem? (i := 24) rfl))) Via.refl e1001 Fk (g := (mkF m 12 #[.val (.ref a1)] [(.ref a1)])) rfl rfl (hb hby d5_12)
    refine OEnds.st st1003 ?_
    clear st1003
    show OEnds p.tables e below G (T1003.setTop (mkF m 15 #[.val (.ref a1)] [(.ref a2)]))
    obtain ⟨cl1004, Ar1004, -, S1004, N1004n, -, -⟩ := id V
    refine OEnds.st (X1003.arraylength hx (by rw [e1003]; exact Ar1004.1) (State.isArrayOf_alike hZ.alike Ar1004.2.1) (g := (mkF m 15 #[.val (.ref a1)] [(.ref a2)])) rfl rfl (hb hby d5_15)) ?_
    rw [len_of S1004 N1004n]
    show OEnds p.tables e below G (T1003.setTop (mkF m 16 #[.val (.ref a1)] [(.int (3 : Int32))]))
    refine OEnds.st (fun _ k => XS.i2dS X1003.here hx rfl (hb hby d5_16) rfl (v := (4613937818241073152 : UInt64)) (by decide +kernel) k) ?_
    show OEnds p.tables e below G (T1003.setTop (mkF m 17 #[.val (.ref a1)] [(.double (4613937818241073152 : UInt64))]))
    refine OEnds.st (fun _ k => XS.aloadN X1003.here hx rfl (hb hby d5_17) rfl rfl k) ?_
    show OEnds p.tables e below G (T1003.setTop (mkF m 18 #[.val (.ref a1)] [(.ref a1), (.double (4613937818241073152 : UInt64))]))
    obtain ⟨T1005, X1005, e1005, st1005⟩ := getF X1003 hx hZ hown (host := "") (Or.inl (hw _ (List.mem_of_getElem? (i := 22) rfl))) Via.refl e1003 Fre (g := (mkF m 18 #[.val (.ref a1)] [(.ref a1), (.double (4613937818241073152 : UInt64))])) rfl rfl (hb hby d5_18)
    refine OEnds.st st1005 ?_
    clear st1005
    show OEnds p.tables e below G (T1005.setTop (mkF m 21 #[.val (.ref a1)] [(.int r), (.double (4613937818241073152 : UInt64))]))
    refine OEnds.st (fun _ k => XS.i2dS X1005.here hx rfl (hb hby d5_21) rfl (v := (FP.i2d r)) rfl k) ?_
    show OEnds p.tables e below G (T1005.setTop (mkF m 22 #[.val (.ref a1)] [(.double (FP.i2d r)), (.double (4613937818241073152 : UInt64))]))
    refine OEnds.st (fun _ k => XS.ddivS X1005.here hx rfl (hb hby d5_22) rfl (Fl.ddiv_out (own_nnL (by decide)) (Fl.i2d_fin _) (Fl.i2d_nz hc4_1002)) rfl k) ?_
    show OEnds p.tables e below G (T1005.setTop (mkF m 23 #[.val (.ref a1)] [(.double (FP.ddiv (4613937818241073152 : UInt64) (FP.i2d r)))]))
    rw [← hG]
    refine OEnds.retD X1005 hx hlk Bd.returns (hb hby d5_23) (by decide) (by decide) ?_
    rw [e1005]
    exact ⟨congrArg (fun z => some (Value.double z)) (by rw [own_rc, if_neg hc4_1002]), N0, rfl⟩
theorem ef_rw3 (m : MethodId) (a1 : Addr) (p2 : Int32) : entryFrame m #[(.ref a1), (.int p2)] 3 = mkF m 0 #[.val (.ref a1), .val (.int p2), .unset] [] := by first | (simp [entryFrame, mkF, argsToLocals, Value.category]; done) | rfl
def Qrw3 (Z : State) (a1 : Addr) (p2 : Int32) (a2 : Addr) (k : ClassId) (e1 : Int32) (e2 : Int32) (e3 : Int32) (h0 : Heap) (n0 : Nat) (v : Option Value) (h : Heap) (L : List Loc) : Prop := v = some (.int (3 : Int32)) ∧ Fr n0 L ∧ h = h0
set_option maxRecDepth 65536 in
set_option maxHeartbeats 40000000 in
theorem rmrw3 (l : Launch) (Z : State) (a0 : Array Value) (hw : ∀ d ∈ tables_1, d.before a0 Z = true) (ws : List Jvm.Cond) (a1 : Addr) (p2 : Int32) (a2 : Addr) (k : ClassId) (e1 : Int32) (e2 : Int32) (e3 : Int32) (h0 : Heap) (n0 : Nat) (Z0 : n0 ≤ h0.size) (Fk : Fld Z h0 a1 "com/example/words_to_weights/wordstoweights/evaluation/JudgedRanking" "relevantRanks" "[I" (.ref a2)) (V : Arv Z h0 a2 k .int (3 : Int32) [(.int e1), (.int e2), (.int e3)] (.int (0 : Int32))) (he1 : ¬ (p2 < e1)) (he2 : ¬ (p2 < e2)) (he3 : ¬ (p2 < e3)) :
    MetFree l (⟨"com/example/words_to_weights/wordstoweights/evaluation/JudgedRanking", "relevantWithin", "(I)I"⟩ : MethodName) (head1 (Jvm.Cond.code (⟨"com/example/words_to_weights/wordstoweights/evaluation/JudgedRanking", "relevantWithin", "(I)I"⟩ : MethodName) prog_30_method_16_code 3 (some .int) :: ws) ({ frames := 0, cells := 0, slots := 0, locals := 0 } : Room)) (fun a U => a = #[(.ref a1), (.int p2)] ∧ Z.Warmed39 U.vm ∧ U.heap = h0) (fun _ _ _ _ _ => True) (fun _ U o U' => ∃ v L, o = .returned v ∧ Qrw3 Z a1 p2 a2 k e1 e2 e3 h0 n0 v U'.heap L ∧ FrameEnd U o U' L ({ frames := 0, cells := 0, slots := 0, locals := 0 } : Room).cells ({ frames := 0, cells := 0, slots := 0, locals := 0 } : Room).slots) := by
  refine MetFree.of_bodySF (plainFor_of_name pn_0) hisR ?_
  intro p e s m args below meth c s₁ Bd hml0 hP hK
  obtain ⟨rfl, hZ, hh⟩ := hP
  have hx := Bd.exec
  have hby := Bd.bytes
  have hml : c.maxLocals = 3 := hml0
  have hown : s.vm.findClass "com/example/words_to_weights/wordstoweights/evaluation/JudgedRanking" = some m.cls := findClass_of_methodNamed Bd.named
  have hnm := (name_of_methodNamed Bd.named Bd.method).1
  have hlk : meth.locks = false := BodyLoose.notSynchronized Bd
  have X0 : Stand p l e ({ frames := 0, cells := 0, slots := 0, locals := 0 } : Room) s m #[(.ref a1), (.int p2)] below meth c s₁ [] 0 0 := Stand.of_body Bd
  have e0 : s₁.heap = h0 := by rw [← hh, Bd.state]; rfl
  have N0 := Fr.nil n0
  show OEnds p.tables e below (OGoal (Qrw3 Z a1 p2 a2 k e1 e2 e3 h0 n0) s 0 0) (s₁.setTop (entryFrame m #[(.ref a1), (.int p2)] 3))
  refine OEnds.st (fun t k => castTop (ef_rw3 m a1 p2) k) ?_
  generalize hG : OGoal (Qrw3 Z a1 p2 a2 k e1 e2 e3 h0 n0) s 0 0 = G
  have KK0 : Keep h0 h0 [] := Keep.refl h0 []
  show OEnds p.tables e below G (s₁.setTop (mkF m 0 #[.val (.ref a1), .val (.int p2), .unset] []))
  refine OEnds.st (fun _ k => XS.iconst X0.here hx rfl (hb hby d7_0) k) ?_
  show OEnds p.tables e below G (s₁.setTop (mkF m 1 #[.val (.ref a1), .val (.int p2), .unset] [(.int (0 : Int32))]))
  refine OEnds.st (fun _ k => XS.istoreN X0.here hx rfl (hb hby d7_1) rfl (l' := #[.val (.ref a1), .val (.int p2), .val (.int (0 : Int32))]) rfl k) ?_
  show OEnds p.tables e below G (s₁.setTop (mkF m 2 #[.val (.ref a1), .val (.int p2), .val (.int (0 : Int32))] []))
  refine OEnds.st (fun _ k => XS.iloadN X0.here hx rfl (hb hby d7_2) rfl k) ?_
  show OEnds p.tables e below G (s₁.setTop (mkF m 3 #[.val (.ref a1), .val (.int p2), .val (.int (0 : Int32))] [(.int (0 : Int32))]))
  refine OEnds.st (fun _ k => XS.aloadN X0.here hx rfl (hb hby d7_3) rfl rfl k) ?_
  show OEnds p.tables e below G (s₁.setTop (mkF m 4 #[.val (.ref a1), .val (.int p2), .val (.int (0 : Int32))] [(.ref a1), (.int (0 : Int32))]))
  obtain ⟨T1001, X1001, e1001, st1001⟩ := getF X0 hx hZ hown (host := "") (Or.inl (hw _ (List.mem_of_getElem? (i := 24) rfl))) Via.refl e0 Fk (g := (mkF m 4 #[.val (.ref a1), .val (.int p2), .val (.int (0 : Int32))] [(.ref a1), (.int (0 : Int32))])) rfl rfl (hb hby d7_4)
  refine OEnds.st st1001 ?_
  clear st1001
  show OEnds p.tables e below G (T1001.setTop (mkF m 7 #[.val (.ref a1), .val (.int p2), .val (.int (0 : Int32))] [(.ref a2), (.int (0 : Int32))]))
  obtain ⟨cl1002, Ar1002, -, S1002, N1002n, -, -⟩ := id V
  refine OEnds.st (X1001.arraylength hx (by rw [e1001]; exact Ar1002.1) (State.isArrayOf_alike hZ.alike Ar1002.2.1) (g := (mkF m 7 #[.val (.ref a1), .val (.int p2), .val (.int (0 : Int32))] [(.ref a2), (.int (0 : Int32))])) rfl rfl (hb hby d7_7)) ?_
  rw [len_of S1002 N1002n]
  show OEnds p.tables e below G (T1001.setTop (mkF m 8 #[.val (.ref a1), .val (.int p2), .val (.int (0 : Int32))] [(.int (3 : Int32)), (.int (0 : Int32))]))
  refine OEnds.st (fun _ k => XS.icmpNo X1001.here hx rfl (hb hby d7_8) rfl (tlt (by decide : (0 : Int32) < (3 : Int32))).2.1 k) ?_
  show OEnds p.tables e below G (T1001.setTop (mkF m 11 #[.val (.ref a1), .val (.int p2), .val (.int (0 : Int32))] []))
  refine OEnds.st (fun _ k => XS.aloadN X1001.here hx rfl (hb hby d7_11) rfl rfl k) ?_
  show OEnds p.tables e below G (T1001.setTop (mkF m 12 #[.val (.ref a1), .val (.int p2), .val (.int (0 : Int32))] [(.ref a1)]))
  obtain ⟨T1003, X1003, e1003, st1003⟩ := getF X1001 hx hZ hown (host := "") (Or.inl (hw _ (List.mem_of_getElem? (i := 24) rfl))) Via.refl e1001 Fk (g := (mkF m 12 #[.val (.ref a1), .val (.int p2), .val (.int (0 : Int32))] [(.ref a1)])) rfl rfl (hb hby d7_12)
  refine OEnds.st st1003 ?_
  clear st1003
  show OEnds p.tables e below G (T1003.setTop (mkF m 15 #[.val (.ref a1), .val (.int p2), .val (.int (0 : Int32))] [(.ref a2)]))
  refine OEnds.st (fun _ k => XS.iloadN X1003.here hx rfl (hb hby d7_15) rfl k) ?_
  show OEnds p.tables e below G (T1003.setTop (mkF m 16 #[.val (.ref a1), .val (.int p2), .val (.int (0 : Int32))] [(.int (0 : Int32)), (.ref a2)]))
  obtain ⟨cl1004, Ar1004, q1004, S1004, N1004n, H1004, G1004⟩ := id V
  have hin1004 : ¬ ((0 : Int32) < 0 ∨ cl1004.slots.size ≤ ((0 : Int32)).toNatClampNeg) := inb_of S1004 ⟨by decide, by decide⟩
  have hat1004 : cl1004.slots[((0 : Int32)).toNatClampNeg]? = some (.int e1) := H1004.at hin1004 rfl
  refine OEnds.st (X1003.iaload hx (j := (0 : Int32)) (v := (.int e1)) (by rw [e1003]; exact Ar1004.1) (State.isArrayOf_alike hZ.alike Ar1004.2.1) Ar1004.2.2 hin1004 hat1004 (g := (mkF m 16 #[.val (.ref a1), .val (.int p2), .val (.int (0 : Int32))] [(.int (0 : Int32)), (.ref a2)])) rfl rfl (hb hby d7_16)) ?_
  show OEnds p.tables e below G (T1003.setTop (mkF m 17 #[.val (.ref a1), .val (.int p2), .val (.int (0 : Int32))] [(.int e1)]))
  refine OEnds.st (fun _ k => XS.iloadN X1003.here hx rfl (hb hby d7_17) rfl k) ?_
  show OEnds p.tables e below G (T1003.setTop (mkF m 18 #[.val (.ref a1), .val (.int p2), .val (.int (0 : Int32))] [(.int p2), (.int e1)]))
  refine OEnds.st (fun _ k => XS.icmpNo X1003.here hx rfl (hb hby d7_18) rfl (flt he1).2.2.1 k) ?_
  show OEnds p.tables e below G (T1003.setTop (mkF m 21 #[.val (.ref a1), .val (.int p2), .val (.int (0 : Int32))] []))
  refine OEnds.st (fun _ k => XS.iinc X1003.here hx rfl (hb hby d7_21) rfl (l' := #[.val (.ref a1), .val (.int p2), .val (.int ((0 : Int32) + (1 : Int32)))]) rfl k) ?_
  show OEnds p.tables e below G (T1003.setTop (mkF m 24 #[.val (.ref a1), .val (.int p2), .val (.int ((0 : Int32) + (1 : Int32)))] []))
  rw [show ((0 : Int32) + (1 : Int32)) = (1 : Int32) from by decide]
  show OEnds p.tables e below G (T1003.setTop (mkF m 24 #[.val (.ref a1), .val (.int p2), .val (.int (1 : Int32))] []))
  refine OEnds.st (fun _ k => XS.goto X1003.here hx rfl (pc0 := 24) (pc' := 2) rfl (hb hby d7_24) (by decide) (by decide) k) ?_
  show OEnds p.tables e below G (T1003.setTop (mkF m 2 #[.val (.ref a1), .val (.int p2), .val (.int (1 : Int32))] []))
  refine OEnds.st (fun _ k => XS.iloadN X1003.here hx rfl (hb hby d7_2) rfl k) ?_
  show OEnds p.tables e below G (T1003.setTop (mkF m 3 #[.val (.ref a1), .val (.int p2), .val (.int (1 : Int32))] [(.int (1 : Int32))]))
  refine OEnds.st (fun _ k => XS.aloadN X1003.here hx rfl (hb hby d7_3) rfl rfl k) ?_
  show OEnds p.tables e below G (T1003.setTop (mkF m 4 #[.val (.ref a1), .val (.int p2), .val (.int (1 : Int32))] [(.ref a1), (.int (1 : Int32))]))
  obtain ⟨T1005, X1005, e1005, st1005⟩ := getF X1003 hx hZ hown (host := "") (Or.inl (hw _ (List.mem_of_getElem? (i := 24) rfl))) Via.refl e1003 Fk (g := (mkF m 4 #[.val (.ref a1), .val (.int p2), .val (.int (1 : Int32))] [(.ref a1), (.int (1 : Int32))])) rfl rfl (hb hby d7_4)
  refine OEnds.st st1005 ?_
  clear st1005
  show OEnds p.tables e below G (T1005.setTop (mkF m 7 #[.val (.ref a1), .val (.int p2), .val (.int (1 : Int32))] [(.ref a2), (.int (1 : Int32))]))
  obtain ⟨cl1006, Ar1006, -, S1006, N1006n, -, -⟩ := id V
  refine OEnds.st (X1005.arraylength hx (by rw [e1005]; exact Ar1006.1) (State.isArrayOf_alike hZ.alike Ar1006.2.1) (g := (mkF m 7 #[.val (.ref a1), .val (.int p2), .val (.int (1 : Int32))] [(.ref a2), (.int (1 : Int32))])) rfl rfl (hb hby d7_7)) ?_
  rw [len_of S1006 N1006n]
  show OEnds p.tables e below G (T1005.setTop (mkF m 8 #[.val (.ref a1), .val (.int p2), .val (.int (1 : Int32))] [(.int (3 : Int32)), (.int (1 : Int32))]))
  refine OEnds.st (fun _ k => XS.icmpNo X1005.here hx rfl (hb hby d7_8) rfl (tlt (by decide : (1 : Int32) < (3 : Int32))).2.1 k) ?_
  show OEnds p.tables e below G (T1005.setTop (mkF m 11 #[.val (.ref a1), .val (.int p2), .val (.int (1 : Int32))] []))
  refine OEnds.st (fun _ k => XS.aloadN X1005.here hx rfl (hb hby d7_11) rfl rfl k) ?_
  show OEnds p.tables e below G (T1005.setTop (mkF m 12 #[.val (.ref a1), .val (.int p2), .val (.int (1 : Int32))] [(.ref a1)]))
  obtain ⟨T1007, X1007, e1007, st1007⟩ := getF X1005 hx hZ hown (host := "") (Or.inl (hw _ (List.mem_of_getElem? (i := 24) rfl))) Via.refl e1005 Fk (g := (mkF m 12 #[.val (.ref a1), .val (.int p2), .val (.int (1 : Int32))] [(.ref a1)])) rfl rfl (hb hby d7_12)
  refine OEnds.st st1007 ?_
  clear st1007
  show OEnds p.tables e below G (T1007.setTop (mkF m 15 #[.val (.ref a1), .val (.int p2), .val (.int (1 : Int32))] [(.ref a2)]))
  refine OEnds.st (fun _ k => XS.iloadN X1007.here hx rfl (hb hby d7_15) rfl k) ?_
  show OEnds p.tables e below G (T1007.setTop (mkF m 16 #[.val (.ref a1), .val (.int p2), .val (.int (1 : Int32))] [(.int (1 : Int32)), (.ref a2)]))
  obtain ⟨cl1008, Ar1008, q1008, S1008, N1008n, H1008, G1008⟩ := id V
  have hin1008 : ¬ ((1 : Int32) < 0 ∨ cl1008.slots.size ≤ ((1 : Int32)).toNatClampNeg) := inb_of S1008 ⟨by decide, by decide⟩
  have hat1008 : cl1008.slots[((1 : Int32)).toNatClampNeg]? = some (.int e2) := H1008.at hin1008 rfl
  refine OEnds.st (X1007.iaload hx (j := (1 : Int32)) (v := (.int e2)) (by rw [e1007]; exact Ar1008.1) (State.isArrayOf_alike hZ.alike Ar1008.2.1) Ar1008.2.2 hin1008 hat1008 (g := (mkF m 16 #[.val (.ref a1), .val (.int p2), .val (.int (1 : Int32))] [(.int (1 : Int32)), (.ref a2)])) rfl rfl (hb hby d7_16)) ?_
  show OEnds p.tables e below G (T1007.setTop (mkF m 17 #[.val (.ref a1), .val (.int p2), .val (.int (1 : Int32))] [(.int e2)]))
  refine OEnds.st (fun _ k => XS.iloadN X1007.here hx rfl (hb hby d7_17) rfl k) ?_
  show OEnds p.tables e below G (T1007.setTop (mkF m 18 #[.val (.ref a1), .val (.int p2), .val (.int (1 : Int32))] [(.int p2), (.int e2)]))
  refine OEnds.st (fun _ k => XS.icmpNo X1007.here hx rfl (hb hby d7_18) rfl (flt he2).2.2.1 k) ?_
  show OEnds p.tables e below G (T1007.setTop (mkF m 21 #[.val (.ref a1), .val (.int p2), .val (.int (1 : Int32))] []))
  refine OEnds.st (fun _ k => XS.iinc X1007.here hx rfl (hb hby d7_21) rfl (l' := #[.val (.ref a1), .val (.int p2), .val (.int ((1 : Int32) + (1 : Int32)))]) rfl k) ?_
  show OEnds p.tables e below G (T1007.setTop (mkF m 24 #[.val (.ref a1), .val (.int p2), .val (.int ((1 : Int32) + (1 : Int32)))] []))
  rw [show ((1 : Int32) + (1 : Int32)) = (2 : Int32) from by decide]
  show OEnds p.tables e below G (T1007.setTop (mkF m 24 #[.val (.ref a1), .val (.int p2), .val (.int (2 : Int32))] []))
  refine OEnds.st (fun _ k => XS.goto X1007.here hx rfl (pc0 := 24) (pc' := 2) rfl (hb hby d7_24) (by decide) (by decide) k) ?_
  show OEnds p.tables e below G (T1007.setTop (mkF m 2 #[.val (.ref a1), .val (.int p2), .val (.int (2 : Int32))] []))
  refine OEnds.st (fun _ k => XS.iloadN X1007.here hx rfl (hb hby d7_2) rfl k) ?_
  show OEnds p.tables e below G (T1007.setTop (mkF m 3 #[.val (.ref a1), .val (.int p2), .val (.int (2 : Int32))] [(.int (2 : Int32))]))
  refine OEnds.st (fun _ k => XS.aloadN X1007.here hx rfl (hb hby d7_3) rfl rfl k) ?_
  show OEnds p.tables e below G (T1007.setTop (mkF m 4 #[.val (.ref a1), .val (.int p2), .val (.int (2 : Int32))] [(.ref a1), (.int (2 : Int32))]))
  obtain ⟨T1009, X1009, e1009, st1009⟩ := getF X1007 hx hZ hown (host := "") (Or.inl (hw _ (List.mem_of_getElem? (i := 24) rfl))) Via.refl e1007 Fk (g := (mkF m 4 #[.val (.ref a1), .val (.int p2), .val (.int (2 : Int32))] [(.ref a1), (.int (2 : Int32))])) rfl rfl (hb hby d7_4)
  refine OEnds.st st1009 ?_
  clear st1009
  show OEnds p.tables e below G (T1009.setTop (mkF m 7 #[.val (.ref a1), .val (.int p2), .val (.int (2 : Int32))] [(.ref a2), (.int (2 : Int32))]))
  obtain ⟨cl1010, Ar1010, -, S1010, N1010n, -, -⟩ := id V
  refine OEnds.st (X1009.arraylength hx (by rw [e1009]; exact Ar1010.1) (State.isArrayOf_alike hZ.alike Ar1010.2.1) (g := (mkF m 7 #[.val (.ref a1), .val (.int p2), .val (.int (2 : Int32))] [(.ref a2), (.int (2 : Int32))])) rfl rfl (hb hby d7_7)) ?_
  rw [len_of S1010 N1010n]
  show OEnds p.tables e below G (T1009.setTop (mkF m 8 #[.val (.ref a1), .val (.int p2), .val (.int (2 : Int32))] [(.int (3 : Int32)), (.int (2 : Int32))]))
  refine OEnds.st (fun _ k => XS.icmpNo X1009.here hx rfl (hb hby d7_8) rfl (tlt (by decide : (2 : Int32) < (3 : Int32))).2.1 k) ?_
  show OEnds p.tables e below G (T1009.setTop (mkF m 11 #[.val (.ref a1), .val (.int p2), .val (.int (2 : Int32))] []))
  refine OEnds.st (fun _ k => XS.aloadN X1009.here hx rfl (hb hby d7_11) rfl rfl k) ?_
  show OEnds p.tables e below G (T1009.setTop (mkF m 12 #[.val (.ref a1), .val (.int p2), .val (.int (2 : Int32))] [(.ref a1)]))
  obtain ⟨T1011, X1011, e1011, st1011⟩ := getF X1009 hx hZ hown (host := "") (Or.inl (hw _ (List.mem_of_getElem? (i := 24) rfl))) Via.refl e1009 Fk (g := (mkF m 12 #[.val (.ref a1), .val (.int p2), .val (.int (2 : Int32))] [(.ref a1)])) rfl rfl (hb hby d7_12)
  refine OEnds.st st1011 ?_
  clear st1011
  show OEnds p.tables e below G (T1011.setTop (mkF m 15 #[.val (.ref a1), .val (.int p2), .val (.int (2 : Int32))] [(.ref a2)]))
  refine OEnds.st (fun _ k => XS.iloadN X1011.here hx rfl (hb hby d7_15) rfl k) ?_
  show OEnds p.tables e below G (T1011.setTop (mkF m 16 #[.val (.ref a1), .val (.int p2), .val (.int (2 : Int32))] [(.int (2 : Int32)), (.ref a2)]))
  obtain ⟨cl1012, Ar1012, q1012, S1012, N1012n, H1012, G1012⟩ := id V
  have hin1012 : ¬ ((2 : Int32) < 0 ∨ cl1012.slots.size ≤ ((2 : Int32)).toNatClampNeg) := inb_of S1012 ⟨by decide, by decide⟩
  have hat1012 : cl1012.slots[((2 : Int32)).toNatClampNeg]? = some (.int e3) := H1012.at hin1012 rfl
  refine OEnds.st (X1011.iaload hx (j := (2 : Int32)) (v := (.int e3)) (by rw [e1011]; exact Ar1012.1) (State.isArrayOf_alike hZ.alike Ar1012.2.1) Ar1012.2.2 hin1012 hat1012 (g := (mkF m 16 #[.val (.ref a1), .val (.int p2), .val (.int (2 : Int32))] [(.int (2 : Int32)), (.ref a2)])) rfl rfl (hb hby d7_16)) ?_
  show OEnds p.tables e below G (T1011.setTop (mkF m 17 #[.val (.ref a1), .val (.int p2), .val (.int (2 : Int32))] [(.int e3)]))
  refine OEnds.st (fun _ k => XS.iloadN X1011.here hx rfl (hb hby d7_17) rfl k) ?_
  show OEnds p.tables e below G (T1011.setTop (mkF m 18 #[.val (.ref a1), .val (.int p2), .val (.int (2 : Int32))] [(.int p2), (.int e3)]))
  refine OEnds.st (fun _ k => XS.icmpNo X1011.here hx rfl (hb hby d7_18) rfl (flt he3).2.2.1 k) ?_
  show OEnds p.tables e below G (T1011.setTop (mkF m 21 #[.val (.ref a1), .val (.int p2), .val (.int (2 : Int32))] []))
  refine OEnds.st (fun _ k => XS.iinc X1011.here hx rfl (hb hby d7_21) rfl (l' := #[.val (.ref a1), .val (.int p2), .val (.int ((2 : Int32) + (1 : Int32)))]) rfl k) ?_
  show OEnds p.tables e below G (T1011.setTop (mkF m 24 #[.val (.ref a1), .val (.int p2), .val (.int ((2 : Int32) + (1 : Int32)))] []))
  rw [show ((2 : Int32) + (1 : Int32)) = (3 : Int32) from by decide]
  show OEnds p.tables e below G (T1011.setTop (mkF m 24 #[.val (.ref a1), .val (.int p2), .val (.int (3 : Int32))] []))
  refine OEnds.st (fun _ k => XS.goto X1011.here hx rfl (pc0 := 24) (pc' := 2) rfl (hb hby d7_24) (by decide) (by decide) k) ?_
  show OEnds p.tables e below G (T1011.setTop (mkF m 2 #[.val (.ref a1), .val (.int p2), .val (.int (3 : Int32))] []))
  refine OEnds.st (fun _ k => XS.iloadN X1011.here hx rfl (hb hby d7_2) rfl k) ?_
  show OEnds p.tables e below G (T1011.setTop (mkF m 3 #[.val (.ref a1), .val (.int p2), .val (.int (3 : Int32))] [(.int (3 : Int32))]))
  refine OEnds.st (fun _ k => XS.aloadN X1011.here hx rfl (hb hby d7_3) rfl rfl k) ?_
  show OEnds p.tables e below G (T1011.setTop (mkF m 4 #[.val (.ref a1), .val (.int p2), .val (.int (3 : Int32))] [(.ref a1), (.int (3 : Int32))]))
  obtain ⟨T1013, X1013, e1013, st1013⟩ := getF X1011 hx hZ hown (host := "") (Or.inl (hw _ (List.mem_of_getElem? (i := 24) rfl))) Via.refl e1011 Fk (g := (mkF m 4 #[.val (.ref a1), .val (.int p2), .val (.int (3 : Int32))] [(.ref a1), (.int (3 : Int32))])) rfl rfl (hb hby d7_4)
  refine OEnds.st st1013 ?_
  clear st1013
  show OEnds p.tables e below G (T1013.setTop (mkF m 7 #[.val (.ref a1), .val (.int p2), .val (.int (3 : Int32))] [(.ref a2), (.int (3 : Int32))]))
  obtain ⟨cl1014, Ar1014, -, S1014, N1014n, -, -⟩ := id V
  refine OEnds.st (X1013.arraylength hx (by rw [e1013]; exact Ar1014.1) (State.isArrayOf_alike hZ.alike Ar1014.2.1) (g := (mkF m 7 #[.val (.ref a1), .val (.int p2), .val (.int (3 : Int32))] [(.ref a2), (.int (3 : Int32))])) rfl rfl (hb hby d7_7)) ?_
  rw [len_of S1014 N1014n]
  show OEnds p.tables e below G (T1013.setTop (mkF m 8 #[.val (.ref a1), .val (.int p2), .val (.int (3 : Int32))] [(.int (3 : Int32)), (.int (3 : Int32))]))
  refine OEnds.st (fun _ k => XS.icmpYes X1013.here hx rfl (pc0 := 8) (pc' := 27) rfl (hb hby d7_8) rfl (flt (by decide : ¬ ((3 : Int32) < (3 : Int32)))).2.1 (by decide) (by decide) k) ?_
  show OEnds p.tables e below G (T1013.setTop (mkF m 27 #[.val (.ref a1), .val (.int p2), .val (.int (3 : Int32))] []))
  refine OEnds.st (fun _ k => XS.iloadN X1013.here hx rfl (hb hby d7_27) rfl k) ?_
  show OEnds p.tables e below G (T1013.setTop (mkF m 28 #[.val (.ref a1), .val (.int p2), .val (.int (3 : Int32))] [(.int (3 : Int32))]))
  rw [← hG]
  refine OEnds.retI X1013 hx hlk Bd.returns (hb hby d7_28) (by decide) (by decide) ?_
  rw [e1013]
  exact ⟨rfl, N0, rfl⟩
theorem ef_ra3 (m : MethodId) (a1 : Addr) (p2 : Int32) : entryFrame m #[(.ref a1), (.int p2)] 2 = mkF m 0 #[.val (.ref a1), .val (.int p2)] [] := by first | (simp [entryFrame, mkF, argsToLocals, Value.category]; done) | rfl
def Qra3 (Z : State) (a1 : Addr) (p2 : Int32) (r : Int32) (a2 : Addr) (k : ClassId) (e1 : Int32) (e2 : Int32) (e3 : Int32) (h0 : Heap) (n0 : Nat) (v : Option Value) (h : Heap) (L : List Loc) : Prop := v = some (.double (own_rc (4613937818241073152 : UInt64) r)) ∧ Fr n0 L ∧ h = h0
set_option maxRecDepth 65536 in
set_option maxHeartbeats 40000000 in
theorem rmra3 (l : Launch) (Z : State) (a0 : Array Value) (hw : ∀ d ∈ tables_1, d.before a0 Z = true) (ws : List Jvm.Cond) (a1 : Addr) (p2 : Int32) (r : Int32) (a2 : Addr) (k : ClassId) (e1 : Int32) (e2 : Int32) (e3 : Int32) (h0 : Heap) (n0 : Nat) (Z0 : n0 ≤ h0.size) (E1 : Exa Z h0 a1 "com/example/words_to_weights/wordstoweights/evaluation/JudgedRanking") (Fre : Fld Z h0 a1 "com/example/words_to_weights/wordstoweights/evaluation/JudgedRanking" "relevant" "I" (.int r)) (Fk : Fld Z h0 a1 "com/example/words_to_weights/wordstoweights/evaluation/JudgedRanking" "relevantRanks" "[I" (.ref a2)) (V : Arv Z h0 a2 k .int (3 : Int32) [(.int e1), (.int e2), (.int e3)] (.int (0 : Int32))) (he1 : ¬ (p2 < e1)) (he2 : ¬ (p2 < e2)) (he3 : ¬ (p2 < e3)) :
    MetFree l (⟨"com/example/words_to_weights/wordstoweights/evaluation/JudgedRanking", "recallAt", "(I)D"⟩ : MethodName) (head1 (Jvm.Cond.code (⟨"com/example/words_to_weights/wordstoweights/evaluation/JudgedRanking", "recallAt", "(I)D"⟩ : MethodName) prog_30_method_12_code 2 (some .double) :: ws) ({ frames := 1, cells := 0, slots := 0, locals := 14 } : Room)) (fun a U => a = #[(.ref a1), (.int p2)] ∧ Z.Warmed39 U.vm ∧ U.heap = h0) (fun _ _ _ _ _ => True) (fun _ U o U' => ∃ v L, o = .returned v ∧ Qra3 Z a1 p2 r a2 k e1 e2 e3 h0 n0 v U'.heap L ∧ FrameEnd U o U' L ({ frames := 1, cells := 0, slots := 0, locals := 14 } : Room).cells ({ frames := 1, cells := 0, slots := 0, locals := 14 } : Room).slots) := by
  refine MetFree.of_bodySF (plainFor_of_name pn_0) hisR ?_
  intro p e s m args below meth c s₁ Bd hml0 hP hK
  obtain ⟨rfl, hZ, hh⟩ := hP
  have hx := Bd.exec
  have hby := Bd.bytes
  have hml : c.maxLocals = 2 := hml0
  have hown : s.vm.findClass "com/example/words_to_weights/wordstoweights/evaluation/JudgedRanking" = some m.cls := findClass_of_methodNamed Bd.named
  have hnm := (name_of_methodNamed Bd.named Bd.method).1
  have hlk : meth.locks = false := BodyLoose.notSynchronized Bd
  have X0 : Stand p l e ({ frames := 1, cells := 0, slots := 0, locals := 14 } : Room) s m #[(.ref a1), (.int p2)] below meth c s₁ [] 0 0 := Stand.of_body Bd
  have e0 : s₁.heap = h0 := by rw [← hh, Bd.state]; rfl
  have N0 := Fr.nil n0
  show OEnds p.tables e below (OGoal (Qra3 Z a1 p2 r a2 k e1 e2 e3 h0 n0) s 0 0) (s₁.setTop (entryFrame m #[(.ref a1), (.int p2)] 2))
  refine OEnds.st (fun t k => castTop (ef_ra3 m a1 p2) k) ?_
  generalize hG : OGoal (Qra3 Z a1 p2 r a2 k e1 e2 e3 h0 n0) s 0 0 = G
  have KK0 : Keep h0 h0 [] := Keep.refl h0 []
  show OEnds p.tables e below G (s₁.setTop (mkF m 0 #[.val (.ref a1), .val (.int p2)] []))
  refine OEnds.st (fun _ k => XS.aloadN X0.here hx rfl (hb hby d6_0) rfl rfl k) ?_
  show OEnds p.tables e below G (s₁.setTop (mkF m 1 #[.val (.ref a1), .val (.int p2)] [(.ref a1)]))
  obtain ⟨T1001, X1001, e1001, st1001⟩ := getF X0 hx hZ hown (host := "") (Or.inl (hw _ (List.mem_of_getElem? (i := 22) rfl))) Via.refl e0 Fre (g := (mkF m 1 #[.val (.ref a1), .val (.int p2)] [(.ref a1)])) rfl rfl (hb hby d6_1)
  refine OEnds.st st1001 ?_
  clear st1001
  show OEnds p.tables e below G (T1001.setTop (mkF m 4 #[.val (.ref a1), .val (.int p2)] [(.int r)]))
  by_cases hc4_1002 : r = (0 : Int32)
  · -- pc 4: yes
    refine OEnds.st (fun _ k => XS.ifNo X1001.here hx rfl (hb hby d6_4) rfl ((if0 _ _).trans (teq hc4_1002).2) k) ?_
    show OEnds p.tables e below G (T1001.setTop (mkF m 7 #[.val (.ref a1), .val (.int p2)] []))
    refine OEnds.st (fun _ k => XS.dconst0 X1001.here hx rfl (hb hby d6_7) (v := (0 : UInt64)) rfl k) ?_
    show OEnds p.tables e below G (T1001.setTop (mkF m 8 #[.val (.ref a1), .val (.int p2)] [(.double (0 : UInt64))]))
    refine OEnds.st (fun _ k => XS.goto X1001.here hx rfl (pc0 := 8) (pc' := 23) rfl (hb hby d6_8) (by decide) (by decide) k) ?_
    show OEnds p.tables e below G (T1001.setTop (mkF m 23 #[.val (.ref a1), .val (.int p2)] [(.double (0 : UInt64))]))
    rw [← hG]
    refine OEnds.retD X1001 hx hlk Bd.returns (hb hby d6_23) (by decide) (by decide) ?_
    rw [e1001]
    exact ⟨congrArg (fun z => some (Value.double z)) (by rw [own_rc, if_pos hc4_1002]), N0, rfl⟩
  · -- pc 4: no
    refine OEnds.st (fun _ k => XS.ifYes X1001.here hx rfl (pc0 := 4) (pc' := 11) rfl (hb hby d6_4) rfl ((if0 _ _).trans (feq hc4_1002).2) (by decide) (by decide) k) ?_
    show OEnds p.tables e below G (T1001.setTop (mkF m 11 #[.val (.ref a1), .val (.int p2)] []))
    refine OEnds.st (fun _ k => XS.aloadN X1001.here hx rfl (hb hby d6_11) rfl rfl k) ?_
    show OEnds p.tables e below G (T1001.setTop (mkF m 12 #[.val (.ref a1), .val (.int p2)] [(.ref a1)]))
    refine OEnds.st (fun _ k => XS.iloadN X1001.here hx rfl (hb hby d6_12) rfl k) ?_
    show OEnds p.tables e below G (T1001.setTop (mkF m 13 #[.val (.ref a1), .val (.int p2)] [(.int p2), (.ref a1)]))
    obtain ⟨cq1003, q1003, q1003'⟩ := E1.cell
    obtain ⟨_, _, ⟨T1003, L1003, k1003c, n1003c⟩, -, X1003, ⟨Lc1003, hQ1003, l1003, y1003, z1003⟩, st1003⟩ := X1001.privateBack hx (y := (⟨"com/example/words_to_weights/wordstoweights/evaluation/JudgedRanking", "relevantWithin", "(I)I"⟩ : MethodName)) hown (mvT hZ (hw _ (List.mem_of_getElem? (i := 36) rfl))) (mvT hZ (hw _ (List.mem_of_getElem? (i := 37) rfl))) (own_selP (y := (⟨"com/example/words_to_weights/wordstoweights/evaluation/JudgedRanking", "relevantWithin", "(I)I"⟩ : MethodName)) (mvT hZ (hw _ (List.mem_of_getElem? (i := 12) rfl))) (mvP hZ (hw _ (List.mem_of_getElem? (i := 38) rfl))) (mvT hZ (hw _ (List.mem_of_getElem? (i := 37) rfl))) (by decide)) (Cond.privateMethod_at (mvP hZ (hw _ (List.mem_of_getElem? (i := 38) rfl)) (args := #[]))) (mvT hZ (hw _ (List.mem_of_getElem? (i := 39) rfl))) (by decide) (backOf (W := 0) (rmrw3 l Z a0 hw [] a1 p2 a2 k e1 e2 e3 h0 n0 Z0 Fk V he1 he2 he3) hZ (hw _ (List.mem_of_getElem? (i := 39) rfl)) (hw _ (List.mem_of_getElem? (i := 13) rfl)) (by decide) (by decide)) (g := (mkF m 13 #[.val (.ref a1), .val (.int p2)] [(.int p2), (.ref a1)])) rfl (by rw [hml]; rfl) (Steps.refl _) (a := a1) (by rw [e1001]; exact q1003) q1003' (argsL := [(.int p2)]) (rest := []) (lenOf pd_0 rfl) rfl (by show 2 * 0 + _ ≤ _; exact Nat.le_of_eq rfl) (hb hby d6_13) (fun _ _ => ⟨rfl, e1001, (by decide : 0 + 0 ≤ _), (by decide : 0 + 0 ≤ _)⟩)
    dsimp only [Pt.U, Pt.locs, Pt.cells, Pt.slots] at X1003 l1003 y1003 z1003 st1003 hQ1003
    subst l1003 y1003 z1003
    obtain ⟨rfl, N1003q, e1003⟩ := hQ1003
    have N1003 := Fr.app N0 N1003q
    refine OEnds.st (fun _ k => st1003.trans k) ?_
    clear st1003
    show OEnds p.tables e below G (T1003.setTop (mkF m 16 #[.val (.ref a1), .val (.int p2)] [(.int (3 : Int32))]))
    refine OEnds.st (fun _ k => XS.i2dS X1003.here hx rfl (hb hby d6_16) rfl (v := (4613937818241073152 : UInt64)) (by decide +kernel) k) ?_
    show OEnds p.tables e below G (T1003.setTop (mkF m 17 #[.val (.ref a1), .val (.int p2)] [(.double (4613937818241073152 : UInt64))]))
    refine OEnds.st (fun _ k => XS.aloadN X1003.here hx rfl (hb hby d6_17) rfl rfl k) ?_
    show OEnds p.tables e below G (T1003.setTop (mkF m 18 #[.val (.ref a1), .val (.int p2)] [(.ref a1), (.double (4613937818241073152 : UInt64))]))
    obtain ⟨T1004, X1004, e1004, st1004⟩ := getF X1003 hx hZ hown (host := "") (Or.inl (hw _ (List.mem_of_getElem? (i := 22) rfl))) Via.refl e1003 Fre (g := (mkF m 18 #[.val (.ref a1), .val (.int p2)] [(.ref a1), (.double (4613937818241073152 : UInt64))])) rfl rfl (hb hby d6_18)
    refine OEnds.st st1004 ?_
    clear st1004
    show OEnds p.tables e below G (T1004.setTop (mkF m 21 #[.val (.ref a1), .val (.int p2)] [(.int r), (.double (4613937818241073152 : UInt64))]))
    refine OEnds.st (fun _ k => XS.i2dS X1004.here hx rfl (hb hby d6_21) rfl (v := (FP.i2d r)) rfl k) ?_
    show OEnds p.tables e below G (T1004.setTop (mkF m 22 #[.val (.ref a1), .val (.int p2)] [(.double (FP.i2d r)), (.double (4613937818241073152 : UInt64))]))
    refine OEnds.st (fun _ k => XS.ddivS X1004.here hx rfl (hb hby d6_22) rfl (Fl.ddiv_out (own_nnL (by decide)) (Fl.i2d_fin _) (Fl.i2d_nz hc4_1002)) rfl k) ?_
    show OEnds p.tables e below G (T1004.setTop (mkF m 23 #[.val (.ref a1), .val (.int p2)] [(.double (FP.ddiv (4613937818241073152 : UInt64) (FP.i2d r)))]))
    rw [← hG]
    refine OEnds.retD X1004 hx hlk Bd.returns (hb hby d6_23) (by decide) (by decide) ?_
    rw [e1004]
    exact ⟨congrArg (fun z => some (Value.double z)) (by rw [own_rc, if_neg hc4_1002]), N1003, rfl⟩
theorem ef_0 (m : MethodId) (p1 : Int32) (p2 : Int32) (p3 : Int32) (p4 : Int32) (p5 : Int32) (p6 : Int32) : entryFrame m #[(.int p1), (.int p2), (.int p3), (.int p4), (.int p5), (.int p6)] maxLocals = mkF m 0 #[.val (.int p1), .val (.int p2), .val (.int p3), .val (.int p4), .val (.int p5), .val (.int p6), .unset, .unset, .unset, .unset, .unset, .unset, .unset, .unset, .unset, .unset, .unset, .unset, .unset, .unset, .unset, .unset, .unset, .unset] [] := by first | (simp [entryFrame, mkF, argsToLocals, Value.category, maxLocals]; done) | rfl
def Q0 (Z : State) (p1 : Int32) (p2 : Int32) (p3 : Int32) (p4 : Int32) (p5 : Int32) (p6 : Int32) (h0 : Heap) (n0 : Nat) (v : Option Value) (h : Heap) (L : List Loc) : Prop := v = some (.int (1 : Int32)) ∧ Fr n0 L
theorem pd_1 : parseMethodDescriptor "(II)I" = some ⟨[.int, .int], some .int⟩ := by decide +kernel
theorem pd_2 : parseMethodDescriptor "(IIII)[I" = some ⟨[.int, .int, .int, .int], some (.array .int)⟩ := by decide +kernel
theorem pd_3 : parseMethodDescriptor "(II[I)V" = some ⟨[.int, .int, (.array .int)], none⟩ := by decide +kernel
theorem pd_4 : parseMethodDescriptor "()D" = some ⟨[], some .double⟩ := by decide +kernel
theorem pd_5 : parseMethodDescriptor "(I)D" = some ⟨[.int], some .double⟩ := by decide +kernel
set_option maxRecDepth 65536 in
set_option maxHeartbeats 40000000 in
theorem rm0 (l : Launch) (Z : State) (a0 : Array Value) (hw : ∀ d ∈ tables_1, d.before a0 Z = true) (ws : List Jvm.Cond) (p1 : Int32) (p2 : Int32) (p3 : Int32) (p4 : Int32) (p5 : Int32) (p6 : Int32) (h0 : Heap) (n0 : Nat) (Z0 : n0 ≤ h0.size) :
    MetFree l x (head1 (Jvm.Cond.code x code maxLocals ret :: ws) room_1) (fun a U => a = #[(.int p1), (.int p2), (.int p3), (.int p4), (.int p5), (.int p6)] ∧ Z.Warmed39 U.vm ∧ U.heap = h0) (fun _ _ _ _ _ => True) (fun _ U o U' => ∃ v L, o = .returned v ∧ Q0 Z p1 p2 p3 p4 p5 p6 h0 n0 v U'.heap L ∧ FrameEnd U o U' L room_1.cells room_1.slots) := by
  refine MetFree.of_bodySF (plainFor_of_name pn_1) hisR ?_
  intro p e s m args below meth c s₁ Bd hml0 hP hK
  obtain ⟨rfl, hZ, hh⟩ := hP
  have hx := Bd.exec
  have hby := Bd.bytes
  have hml : c.maxLocals = 24 := hml0
  have hown : s.vm.findClass "com/example/words_to_weights/wordstoweights/evaluation/JudgedRankingSetRecallPinLaw" = some m.cls := findClass_of_methodNamed Bd.named
  have hnm := (name_of_methodNamed Bd.named Bd.method).1
  have hlk : meth.locks = false := BodyLoose.notSynchronized Bd
  have X0 : Stand p l e room_1 s m #[(.int p1), (.int p2), (.int p3), (.int p4), (.int p5), (.int p6)] below meth c s₁ [] 0 0 := Stand.of_body Bd
  have e0 : s₁.heap = h0 := by rw [← hh, Bd.state]; rfl
  have N0 := Fr.nil n0
  show OEnds p.tables e below (OGoal (Q0 Z p1 p2 p3 p4 p5 p6 h0 n0) s 16 128) (s₁.setTop (entryFrame m #[(.int p1), (.int p2), (.int p3), (.int p4), (.int p5), (.int p6)] maxLocals))
  refine OEnds.st (fun t k => castTop (ef_0 m p1 p2 p3 p4 p5 p6) k) ?_
  generalize hG : OGoal (Q0 Z p1 p2 p3 p4 p5 p6 h0 n0) s 16 128 = G
  have KK0 : Keep h0 h0 [] := Keep.refl h0 []
  show OEnds p.tables e below G (s₁.setTop (mkF m 0 #[.val (.int p1), .val (.int p2), .val (.int p3), .val (.int p4), .val (.int p5), .val (.int p6), .unset, .unset, .unset, .unset, .unset, .unset, .unset, .unset, .unset, .unset, .unset, .unset, .unset, .unset, .unset, .unset, .unset, .unset] []))
  refine OEnds.st (fun _ k => XS.iloadN X0.here hx rfl (hb hby at_0) rfl k) ?_
  show OEnds p.tables e below G (s₁.setTop (mkF m 1 #[.val (.int p1), .val (.int p2), .val (.int p3), .val (.int p4), .val (.int p5), .val (.int p6), .unset, .unset, .unset, .unset, .unset, .unset, .unset, .unset, .unset, .unset, .unset, .unset, .unset, .unset, .unset, .unset, .unset, .unset] [(.int p1)]))
  refine OEnds.st (fun _ k => XS.iconst X0.here hx rfl (hb hby at_1) k) ?_
  show OEnds p.tables e below G (s₁.setTop (mkF m 2 #[.val (.int p1), .val (.int p2), .val (.int p3), .val (.int p4), .val (.int p5), .val (.int p6), .unset, .unset, .unset, .unset, .unset, .unset, .unset, .unset, .unset, .unset, .unset, .unset, .unset, .unset, .unset, .unset, .unset, .unset] [(.int (3 : Int32)), (.int p1)]))
  refine OEnds.st (fun _ k => XS.iand X0.here hx rfl (hb hby at_2) rfl k) ?_
  show OEnds p.tables e below G (s₁.setTop (mkF m 3 #[.val (.int p1), .val (.int p2), .val (.int p3), .val (.int p4), .val (.int p5), .val (.int p6), .unset, .unset, .unset, .unset, .unset, .unset, .unset, .unset, .unset, .unset, .unset, .unset, .unset, .unset, .unset, .unset, .unset, .unset] [(.int (p1 &&& (3 : Int32)))]))
  refine OEnds.st (fun _ k => XS.istore X0.here hx rfl (hb hby at_3) rfl (l' := #[.val (.int p1), .val (.int p2), .val (.int p3), .val (.int p4), .val (.int p5), .val (.int p6), .val (.int (p1 &&& (3 : Int32))), .unset, .unset, .unset, .unset, .unset, .unset, .unset, .unset, .unset, .unset, .unset, .unset, .unset, .unset, .unset, .unset, .unset]) rfl k) ?_
  show OEnds p.tables e below G (s₁.setTop (mkF m 5 #[.val (.int p1), .val (.int p2), .val (.int p3), .val (.int p4), .val (.int p5), .val (.int p6), .val (.int (p1 &&& (3 : Int32))), .unset, .unset, .unset, .unset, .unset, .unset, .unset, .unset, .unset, .unset, .unset, .unset, .unset, .unset, .unset, .unset, .unset] []))
  generalize hv_v1001 : (p1 &&& (3 : Int32)) = v1001
  have hq : v1001 = (0 : Int32) ∨ v1001 = (1 : Int32) ∨ v1001 = (2 : Int32) ∨ v1001 = (3 : Int32) := by rw [← hv_v1001]; exact own_four p1
  rcases hq with hi | hi | hi | hi
  · -- 0
    rw [hi]
    show OEnds p.tables e below G (s₁.setTop (mkF m 5 #[.val (.int p1), .val (.int p2), .val (.int p3), .val (.int p4), .val (.int p5), .val (.int p6), .val (.int (0 : Int32)), .unset, .unset, .unset, .unset, .unset, .unset, .unset, .unset, .unset, .unset, .unset, .unset, .unset, .unset, .unset, .unset, .unset] []))
    refine OEnds.st (fun _ k => XS.iconst X0.here hx rfl (hb hby at_5) k) ?_
    show OEnds p.tables e below G (s₁.setTop (mkF m 6 #[.val (.int p1), .val (.int p2), .val (.int p3), .val (.int p4), .val (.int p5), .val (.int p6), .val (.int (0 : Int32)), .unset, .unset, .unset, .unset, .unset, .unset, .unset, .unset, .unset, .unset, .unset, .unset, .unset, .unset, .unset, .unset, .unset] [(.int (1 : Int32))]))
    refine OEnds.st (fun _ k => XS.iloadN X0.here hx rfl (hb hby at_6) rfl k) ?_
    show OEnds p.tables e below G (s₁.setTop (mkF m 7 #[.val (.int p1), .val (.int p2), .val (.int p3), .val (.int p4), .val (.int p5), .val (.int p6), .val (.int (0 : Int32)), .unset, .unset, .unset, .unset, .unset, .unset, .unset, .unset, .unset, .unset, .unset, .unset, .unset, .unset, .unset, .unset, .unset] [(.int p3), (.int (1 : Int32))]))
    refine OEnds.st (fun _ k => XS.sipush X0.here hx rfl (hb hby at_7) k) ?_
    show OEnds p.tables e below G (s₁.setTop (mkF m 10 #[.val (.int p1), .val (.int p2), .val (.int p3), .val (.int p4), .val (.int p5), .val (.int p6), .val (.int (0 : Int32)), .unset, .unset, .unset, .unset, .unset, .unset, .unset, .unset, .unset, .unset, .unset, .unset, .unset, .unset, .unset, .unset, .unset] [(.int (255 : Int32)), (.int p3), (.int (1 : Int32))]))
    refine OEnds.st (fun _ k => XS.iand X0.here hx rfl (hb hby at_10) rfl k) ?_
    show OEnds p.tables e below G (s₁.setTop (mkF m 11 #[.val (.int p1), .val (.int p2), .val (.int p3), .val (.int p4), .val (.int p5), .val (.int p6), .val (.int (0 : Int32)), .unset, .unset, .unset, .unset, .unset, .unset, .unset, .unset, .unset, .unset, .unset, .unset, .unset, .unset, .unset, .unset, .unset] [(.int (p3 &&& (255 : Int32))), (.int (1 : Int32))]))
    refine OEnds.st (fun _ k => XS.iadd X0.here hx rfl (hb hby at_11) rfl k) ?_
    show OEnds p.tables e below G (s₁.setTop (mkF m 12 #[.val (.int p1), .val (.int p2), .val (.int p3), .val (.int p4), .val (.int p5), .val (.int p6), .val (.int (0 : Int32)), .unset, .unset, .unset, .unset, .unset, .unset, .unset, .unset, .unset, .unset, .unset, .unset, .unset, .unset, .unset, .unset, .unset] [(.int ((1 : Int32) + (p3 &&& (255 : Int32))))]))
    refine OEnds.st (fun _ k => XS.istore X0.here hx rfl (hb hby at_12) rfl (l' := #[.val (.int p1), .val (.int p2), .val (.int p3), .val (.int p4), .val (.int p5), .val (.int p6), .val (.int (0 : Int32)), .val (.int ((1 : Int32) + (p3 &&& (255 : Int32)))), .unset, .unset, .unset, .unset, .unset, .unset, .unset, .unset, .unset, .unset, .unset, .unset, .unset, .unset, .unset, .unset]) rfl k) ?_
    show OEnds p.tables e below G (s₁.setTop (mkF m 14 #[.val (.int p1), .val (.int p2), .val (.int p3), .val (.int p4), .val (.int p5), .val (.int p6), .val (.int (0 : Int32)), .val (.int ((1 : Int32) + (p3 &&& (255 : Int32)))), .unset, .unset, .unset, .unset, .unset, .unset, .unset, .unset, .unset, .unset, .unset, .unset, .unset, .unset, .unset, .unset] []))
    generalize hv_v1002 : ((1 : Int32) + (p3 &&& (255 : Int32))) = v1002
    show OEnds p.tables e below G (s₁.setTop (mkF m 14 #[.val (.int p1), .val (.int p2), .val (.int p3), .val (.int p4), .val (.int p5), .val (.int p6), .val (.int (0 : Int32)), .val (.int v1002), .unset, .unset, .unset, .unset, .unset, .unset, .unset, .unset, .unset, .unset, .unset, .unset, .unset, .unset, .unset, .unset] []))
    refine OEnds.st (fun _ k => XS.iload X0.here hx rfl (hb hby at_14) rfl k) ?_
    show OEnds p.tables e below G (s₁.setTop (mkF m 16 #[.val (.int p1), .val (.int p2), .val (.int p3), .val (.int p4), .val (.int p5), .val (.int p6), .val (.int (0 : Int32)), .val (.int v1002), .unset, .unset, .unset, .unset, .unset, .unset, .unset, .unset, .unset, .unset, .unset, .unset, .unset, .unset, .unset, .unset] [(.int v1002)]))
    refine OEnds.st (fun _ k => XS.iconst X0.here hx rfl (hb hby at_16) k) ?_
    show OEnds p.tables e below G (s₁.setTop (mkF m 17 #[.val (.int p1), .val (.int p2), .val (.int p3), .val (.int p4), .val (.int p5), .val (.int p6), .val (.int (0 : Int32)), .val (.int v1002), .unset, .unset, .unset, .unset, .unset, .unset, .unset, .unset, .unset, .unset, .unset, .unset, .unset, .unset, .unset, .unset] [(.int (1 : Int32)), (.int v1002)]))
    refine OEnds.st (fun _ k => XS.iadd X0.here hx rfl (hb hby at_17) rfl k) ?_
    show OEnds p.tables e below G (s₁.setTop (mkF m 18 #[.val (.int p1), .val (.int p2), .val (.int p3), .val (.int p4), .val (.int p5), .val (.int p6), .val (.int (0 : Int32)), .val (.int v1002), .unset, .unset, .unset, .unset, .unset, .unset, .unset, .unset, .unset, .unset, .unset, .unset, .unset, .unset, .unset, .unset] [(.int (v1002 + (1 : Int32)))]))
    refine OEnds.st (fun _ k => XS.iloadN X0.here hx rfl (hb hby at_18) rfl k) ?_
    show OEnds p.tables e below G (s₁.setTop (mkF m 19 #[.val (.int p1), .val (.int p2), .val (.int p3), .val (.int p4), .val (.int p5), .val (.int p6), .val (.int (0 : Int32)), .val (.int v1002), .unset, .unset, .unset, .unset, .unset, .unset, .unset, .unset, .unset, .unset, .unset, .unset, .unset, .unset, .unset, .unset] [(.int p4), (.int (v1002 + (1 : Int32)))]))
    refine OEnds.st (fun _ k => XS.sipush X0.here hx rfl (hb hby at_19) k) ?_
    show OEnds p.tables e below G (s₁.setTop (mkF m 22 #[.val (.int p1), .val (.int p2), .val (.int p3), .val (.int p4), .val (.int p5), .val (.int p6), .val (.int (0 : Int32)), .val (.int v1002), .unset, .unset, .unset, .unset, .unset, .unset, .unset, .unset, .unset, .unset, .unset, .unset, .unset, .unset, .unset, .unset] [(.int (255 : Int32)), (.int p4), (.int (v1002 + (1 : Int32)))]))
    refine OEnds.st (fun _ k => XS.iand X0.here hx rfl (hb hby at_22) rfl k) ?_
    show OEnds p.tables e below G (s₁.setTop (mkF m 23 #[.val (.int p1), .val (.int p2), .val (.int p3), .val (.int p4), .val (.int p5), .val (.int p6), .val (.int (0 : Int32)), .val (.int v1002), .unset, .unset, .unset, .unset, .unset, .unset, .unset, .unset, .unset, .unset, .unset, .unset, .unset, .unset, .unset, .unset] [(.int (p4 &&& (255 : Int32))), (.int (v1002 + (1 : Int32)))]))
    refine OEnds.st (fun _ k => XS.iadd X0.here hx rfl (hb hby at_23) rfl k) ?_
    show OEnds p.tables e below G (s₁.setTop (mkF m 24 #[.val (.int p1), .val (.int p2), .val (.int p3), .val (.int p4), .val (.int p5), .val (.int p6), .val (.int (0 : Int32)), .val (.int v1002), .unset, .unset, .unset, .unset, .unset, .unset, .unset, .unset, .unset, .unset, .unset, .unset, .unset, .unset, .unset, .unset] [(.int ((v1002 + (1 : Int32)) + (p4 &&& (255 : Int32))))]))
    refine OEnds.st (fun _ k => XS.istore X0.here hx rfl (hb hby at_24) rfl (l' := #[.val (.int p1), .val (.int p2), .val (.int p3), .val (.int p4), .val (.int p5), .val (.int p6), .val (.int (0 : Int32)), .val (.int v1002), .val (.int ((v1002 + (1 : Int32)) + (p4 &&& (255 : Int32)))), .unset, .unset, .unset, .unset, .unset, .unset, .unset, .unset, .unset, .unset, .unset, .unset, .unset, .unset, .unset]) rfl k) ?_
    show OEnds p.tables e below G (s₁.setTop (mkF m 26 #[.val (.int p1), .val (.int p2), .val (.int p3), .val (.int p4), .val (.int p5), .val (.int p6), .val (.int (0 : Int32)), .val (.int v1002), .val (.int ((v1002 + (1 : Int32)) + (p4 &&& (255 : Int32)))), .unset, .unset, .unset, .unset, .unset, .unset, .unset, .unset, .unset, .unset, .unset, .unset, .unset, .unset, .unset] []))
    generalize hv_v1003 : ((v1002 + (1 : Int32)) + (p4 &&& (255 : Int32))) = v1003
    show OEnds p.tables e below G (s₁.setTop (mkF m 26 #[.val (.int p1), .val (.int p2), .val (.int p3), .val (.int p4), .val (.int p5), .val (.int p6), .val (.int (0 : Int32)), .val (.int v1002), .val (.int v1003), .unset, .unset, .unset, .unset, .unset, .unset, .unset, .unset, .unset, .unset, .unset, .unset, .unset, .unset, .unset] []))
    refine OEnds.st (fun _ k => XS.iload X0.here hx rfl (hb hby at_26) rfl k) ?_
    show OEnds p.tables e below G (s₁.setTop (mkF m 28 #[.val (.int p1), .val (.int p2), .val (.int p3), .val (.int p4), .val (.int p5), .val (.int p6), .val (.int (0 : Int32)), .val (.int v1002), .val (.int v1003), .unset, .unset, .unset, .unset, .unset, .unset, .unset, .unset, .unset, .unset, .unset, .unset, .unset, .unset, .unset] [(.int v1003)]))
    refine OEnds.st (fun _ k => XS.iconst X0.here hx rfl (hb hby at_28) k) ?_
    show OEnds p.tables e below G (s₁.setTop (mkF m 29 #[.val (.int p1), .val (.int p2), .val (.int p3), .val (.int p4), .val (.int p5), .val (.int p6), .val (.int (0 : Int32)), .val (.int v1002), .val (.int v1003), .unset, .unset, .unset, .unset, .unset, .unset, .unset, .unset, .unset, .unset, .unset, .unset, .unset, .unset, .unset] [(.int (1 : Int32)), (.int v1003)]))
    refine OEnds.st (fun _ k => XS.iadd X0.here hx rfl (hb hby at_29) rfl k) ?_
    show OEnds p.tables e below G (s₁.setTop (mkF m 30 #[.val (.int p1), .val (.int p2), .val (.int p3), .val (.int p4), .val (.int p5), .val (.int p6), .val (.int (0 : Int32)), .val (.int v1002), .val (.int v1003), .unset, .unset, .unset, .unset, .unset, .unset, .unset, .unset, .unset, .unset, .unset, .unset, .unset, .unset, .unset] [(.int (v1003 + (1 : Int32)))]))
    refine OEnds.st (fun _ k => XS.iload X0.here hx rfl (hb hby at_30) rfl k) ?_
    show OEnds p.tables e below G (s₁.setTop (mkF m 32 #[.val (.int p1), .val (.int p2), .val (.int p3), .val (.int p4), .val (.int p5), .val (.int p6), .val (.int (0 : Int32)), .val (.int v1002), .val (.int v1003), .unset, .unset, .unset, .unset, .unset, .unset, .unset, .unset, .unset, .unset, .unset, .unset, .unset, .unset, .unset] [(.int p5), (.int (v1003 + (1 : Int32)))]))
    refine OEnds.st (fun _ k => XS.sipush X0.here hx rfl (hb hby at_32) k) ?_
    show OEnds p.tables e below G (s₁.setTop (mkF m 35 #[.val (.int p1), .val (.int p2), .val (.int p3), .val (.int p4), .val (.int p5), .val (.int p6), .val (.int (0 : Int32)), .val (.int v1002), .val (.int v1003), .unset, .unset, .unset, .unset, .unset, .unset, .unset, .unset, .unset, .unset, .unset, .unset, .unset, .unset, .unset] [(.int (255 : Int32)), (.int p5), (.int (v1003 + (1 : Int32)))]))
    refine OEnds.st (fun _ k => XS.iand X0.here hx rfl (hb hby at_35) rfl k) ?_
    show OEnds p.tables e below G (s₁.setTop (mkF m 36 #[.val (.int p1), .val (.int p2), .val (.int p3), .val (.int p4), .val (.int p5), .val (.int p6), .val (.int (0 : Int32)), .val (.int v1002), .val (.int v1003), .unset, .unset, .unset, .unset, .unset, .unset, .unset, .unset, .unset, .unset, .unset, .unset, .unset, .unset, .unset] [(.int (p5 &&& (255 : Int32))), (.int (v1003 + (1 : Int32)))]))
    refine OEnds.st (fun _ k => XS.iadd X0.here hx rfl (hb hby at_36) rfl k) ?_
    show OEnds p.tables e below G (s₁.setTop (mkF m 37 #[.val (.int p1), .val (.int p2), .val (.int p3), .val (.int p4), .val (.int p5), .val (.int p6), .val (.int (0 : Int32)), .val (.int v1002), .val (.int v1003), .unset, .unset, .unset, .unset, .unset, .unset, .unset, .unset, .unset, .unset, .unset, .unset, .unset, .unset, .unset] [(.int ((v1003 + (1 : Int32)) + (p5 &&& (255 : Int32))))]))
    refine OEnds.st (fun _ k => XS.istore X0.here hx rfl (hb hby at_37) rfl (l' := #[.val (.int p1), .val (.int p2), .val (.int p3), .val (.int p4), .val (.int p5), .val (.int p6), .val (.int (0 : Int32)), .val (.int v1002), .val (.int v1003), .val (.int ((v1003 + (1 : Int32)) + (p5 &&& (255 : Int32)))), .unset, .unset, .unset, .unset, .unset, .unset, .unset, .unset, .unset, .unset, .unset, .unset, .unset, .unset]) rfl k) ?_
    show OEnds p.tables e below G (s₁.setTop (mkF m 39 #[.val (.int p1), .val (.int p2), .val (.int p3), .val (.int p4), .val (.int p5), .val (.int p6), .val (.int (0 : Int32)), .val (.int v1002), .val (.int v1003), .val (.int ((v1003 + (1 : Int32)) + (p5 &&& (255 : Int32)))), .unset, .unset, .unset, .unset, .unset, .unset, .unset, .unset, .unset, .unset, .unset, .unset, .unset, .unset] []))
    generalize hv_v1004 : ((v1003 + (1 : Int32)) + (p5 &&& (255 : Int32))) = v1004
    have hbd := own_bd hv_v1002 hv_v1003 hv_v1004
    show OEnds p.tables e below G (s₁.setTop (mkF m 39 #[.val (.int p1), .val (.int p2), .val (.int p3), .val (.int p4), .val (.int p5), .val (.int p6), .val (.int (0 : Int32)), .val (.int v1002), .val (.int v1003), .val (.int v1004), .unset, .unset, .unset, .unset, .unset, .unset, .unset, .unset, .unset, .unset, .unset, .unset, .unset, .unset] []))
    refine OEnds.st (fun _ k => XS.iload X0.here hx rfl (hb hby at_39) rfl k) ?_
    show OEnds p.tables e below G (s₁.setTop (mkF m 41 #[.val (.int p1), .val (.int p2), .val (.int p3), .val (.int p4), .val (.int p5), .val (.int p6), .val (.int (0 : Int32)), .val (.int v1002), .val (.int v1003), .val (.int v1004), .unset, .unset, .unset, .unset, .unset, .unset, .unset, .unset, .unset, .unset, .unset, .unset, .unset, .unset] [(.int (0 : Int32))]))
    refine OEnds.st (fun _ k => XS.ifNo X0.here hx rfl (hb hby at_41) rfl ((if0 _ _).trans (teq (by decide : (0 : Int32) = (0 : Int32))).2) k) ?_
    show OEnds p.tables e below G (s₁.setTop (mkF m 44 #[.val (.int p1), .val (.int p2), .val (.int p3), .val (.int p4), .val (.int p5), .val (.int p6), .val (.int (0 : Int32)), .val (.int v1002), .val (.int v1003), .val (.int v1004), .unset, .unset, .unset, .unset, .unset, .unset, .unset, .unset, .unset, .unset, .unset, .unset, .unset, .unset] []))
    refine OEnds.st (fun _ k => XS.iconst X0.here hx rfl (hb hby at_44) k) ?_
    show OEnds p.tables e below G (s₁.setTop (mkF m 45 #[.val (.int p1), .val (.int p2), .val (.int p3), .val (.int p4), .val (.int p5), .val (.int p6), .val (.int (0 : Int32)), .val (.int v1002), .val (.int v1003), .val (.int v1004), .unset, .unset, .unset, .unset, .unset, .unset, .unset, .unset, .unset, .unset, .unset, .unset, .unset, .unset] [(.int (0 : Int32))]))
    refine OEnds.st (fun _ k => XS.goto X0.here hx rfl (pc0 := 45) (pc' := 72) rfl (hb hby at_45) (by decide) (by decide) k) ?_
    show OEnds p.tables e below G (s₁.setTop (mkF m 72 #[.val (.int p1), .val (.int p2), .val (.int p3), .val (.int p4), .val (.int p5), .val (.int p6), .val (.int (0 : Int32)), .val (.int v1002), .val (.int v1003), .val (.int v1004), .unset, .unset, .unset, .unset, .unset, .unset, .unset, .unset, .unset, .unset, .unset, .unset, .unset, .unset] [(.int (0 : Int32))]))
    refine OEnds.st (fun _ k => XS.istore X0.here hx rfl (hb hby at_72) rfl (l' := #[.val (.int p1), .val (.int p2), .val (.int p3), .val (.int p4), .val (.int p5), .val (.int p6), .val (.int (0 : Int32)), .val (.int v1002), .val (.int v1003), .val (.int v1004), .val (.int (0 : Int32)), .unset, .unset, .unset, .unset, .unset, .unset, .unset, .unset, .unset, .unset, .unset, .unset, .unset]) rfl k) ?_
    show OEnds p.tables e below G (s₁.setTop (mkF m 74 #[.val (.int p1), .val (.int p2), .val (.int p3), .val (.int p4), .val (.int p5), .val (.int p6), .val (.int (0 : Int32)), .val (.int v1002), .val (.int v1003), .val (.int v1004), .val (.int (0 : Int32)), .unset, .unset, .unset, .unset, .unset, .unset, .unset, .unset, .unset, .unset, .unset, .unset, .unset] []))
    refine OEnds.st (fun _ k => XS.iconst X0.here hx rfl (hb hby at_74) k) ?_
    show OEnds p.tables e below G (s₁.setTop (mkF m 75 #[.val (.int p1), .val (.int p2), .val (.int p3), .val (.int p4), .val (.int p5), .val (.int p6), .val (.int (0 : Int32)), .val (.int v1002), .val (.int v1003), .val (.int v1004), .val (.int (0 : Int32)), .unset, .unset, .unset, .unset, .unset, .unset, .unset, .unset, .unset, .unset, .unset, .unset, .unset] [(.int (1 : Int32))]))
    refine OEnds.st (fun _ k => XS.iload X0.here hx rfl (hb hby at_75) rfl k) ?_
    show OEnds p.tables e below G (s₁.setTop (mkF m 77 #[.val (.int p1), .val (.int p2), .val (.int p3), .val (.int p4), .val (.int p5), .val (.int p6), .val (.int (0 : Int32)), .val (.int v1002), .val (.int v1003), .val (.int v1004), .val (.int (0 : Int32)), .unset, .unset, .unset, .unset, .unset, .unset, .unset, .unset, .unset, .unset, .unset, .unset, .unset] [(.int (0 : Int32)), (.int (1 : Int32))]))
    refine OEnds.st (fun _ k => XS.iload X0.here hx rfl (hb hby at_77) rfl k) ?_
    show OEnds p.tables e below G (s₁.setTop (mkF m 79 #[.val (.int p1), .val (.int p2), .val (.int p3), .val (.int p4), .val (.int p5), .val (.int p6), .val (.int (0 : Int32)), .val (.int v1002), .val (.int v1003), .val (.int v1004), .val (.int (0 : Int32)), .unset, .unset, .unset, .unset, .unset, .unset, .unset, .unset, .unset, .unset, .unset, .unset, .unset] [(.int p6), (.int (0 : Int32)), (.int (1 : Int32))]))
    refine OEnds.st (X0.ldcInt hx hown (mvT hZ (hw _ (List.mem_of_getElem? (i := 0) rfl))) (g := (mkF m 79 #[.val (.int p1), .val (.int p2), .val (.int p3), .val (.int p4), .val (.int p5), .val (.int p6), .val (.int (0 : Int32)), .val (.int v1002), .val (.int v1003), .val (.int v1004), .val (.int (0 : Int32)), .unset, .unset, .unset, .unset, .unset, .unset, .unset, .unset, .unset, .unset, .unset, .unset, .unset] [(.int p6), (.int (0 : Int32)), (.int (1 : Int32))])) rfl (hb hby at_79)) ?_
    show OEnds p.tables e below G (s₁.setTop (mkF m 81 #[.val (.int p1), .val (.int p2), .val (.int p3), .val (.int p4), .val (.int p5), .val (.int p6), .val (.int (0 : Int32)), .val (.int v1002), .val (.int v1003), .val (.int v1004), .val (.int (0 : Int32)), .unset, .unset, .unset, .unset, .unset, .unset, .unset, .unset, .unset, .unset, .unset, .unset, .unset] [(.int (65535 : Int32)), (.int p6), (.int (0 : Int32)), (.int (1 : Int32))]))
    refine OEnds.st (fun _ k => XS.iand X0.here hx rfl (hb hby at_81) rfl k) ?_
    show OEnds p.tables e below G (s₁.setTop (mkF m 82 #[.val (.int p1), .val (.int p2), .val (.int p3), .val (.int p4), .val (.int p5), .val (.int p6), .val (.int (0 : Int32)), .val (.int v1002), .val (.int v1003), .val (.int v1004), .val (.int (0 : Int32)), .unset, .unset, .unset, .unset, .unset, .unset, .unset, .unset, .unset, .unset, .unset, .unset, .unset] [(.int (p6 &&& (65535 : Int32))), (.int (0 : Int32)), (.int (1 : Int32))]))
    refine OEnds.st (fun _ k => XS.iadd X0.here hx rfl (hb hby at_82) rfl k) ?_
    show OEnds p.tables e below G (s₁.setTop (mkF m 83 #[.val (.int p1), .val (.int p2), .val (.int p3), .val (.int p4), .val (.int p5), .val (.int p6), .val (.int (0 : Int32)), .val (.int v1002), .val (.int v1003), .val (.int v1004), .val (.int (0 : Int32)), .unset, .unset, .unset, .unset, .unset, .unset, .unset, .unset, .unset, .unset, .unset, .unset, .unset] [(.int ((0 : Int32) + (p6 &&& (65535 : Int32)))), (.int (1 : Int32))]))
    obtain ⟨_, _, ⟨T1005, L1005, k1005c, n1005c⟩, -, X1005, ⟨Lc1005, hQ1005, l1005, y1005, z1005⟩, st1005⟩ := Jvm.LawKit.callS X0 hx (y := (⟨"java/lang/Math", "max", "(II)I"⟩ : MethodName)) hown (mvT hZ (hw _ (List.mem_of_getElem? (i := 1) rfl))) (mvT hZ (hw _ (List.mem_of_getElem? (i := 2) rfl))) (mvT hZ (hw _ (List.mem_of_getElem? (i := 3) rfl))) (mvT hZ (hw _ (List.mem_of_getElem? (i := 4) rfl))) (by decide) (backOf (W := 0) (rm1 l Z a0 hw [] (1 : Int32) ((0 : Int32) + (p6 &&& (65535 : Int32))) h0 n0 Z0 ) hZ (hw _ (List.mem_of_getElem? (i := 4) rfl)) (hw _ (List.mem_of_getElem? (i := 3) rfl)) (by decide) (by decide)) (g := (mkF m 83 #[.val (.int p1), .val (.int p2), .val (.int p3), .val (.int p4), .val (.int p5), .val (.int p6), .val (.int (0 : Int32)), .val (.int v1002), .val (.int v1003), .val (.int v1004), .val (.int (0 : Int32)), .unset, .unset, .unset, .unset, .unset, .unset, .unset, .unset, .unset, .unset, .unset, .unset, .unset] [(.int ((0 : Int32) + (p6 &&& (65535 : Int32)))), (.int (1 : Int32))])) rfl (by rw [hml]; rfl) (argsL := [(.int (1 : Int32)), (.int ((0 : Int32) + (p6 &&& (65535 : Int32))))]) (rest := []) (lenOf pd_1 rfl) rfl (by show 2 * 0 + _ ≤ _; exact Nat.le_of_eq rfl) (hb hby at_83) (fun _ _ => ⟨rfl, e0, (by decide : 0 + 0 ≤ _), (by decide : 0 + 0 ≤ _)⟩)
    dsimp only [Pt.U, Pt.locs, Pt.cells, Pt.slots] at X1005 l1005 y1005 z1005 st1005 hQ1005
    subst l1005 y1005 z1005
    obtain ⟨rfl, N1005q, e1005⟩ := hQ1005
    have N1005 := Fr.app N0 N1005q
    refine OEnds.st st1005 ?_
    clear st1005
    show OEnds p.tables e below G (T1005.setTop (mkF m 86 #[.val (.int p1), .val (.int p2), .val (.int p3), .val (.int p4), .val (.int p5), .val (.int p6), .val (.int (0 : Int32)), .val (.int v1002), .val (.int v1003), .val (.int v1004), .val (.int (0 : Int32)), .unset, .unset, .unset, .unset, .unset, .unset, .unset, .unset, .unset, .unset, .unset, .unset, .unset] [(.int (own_mx (1 : Int32) ((0 : Int32) + (p6 &&& (65535 : Int32)))))]))
    refine OEnds.st (fun _ k => XS.istore X1005.here hx rfl (hb hby at_86) rfl (l' := #[.val (.int p1), .val (.int p2), .val (.int p3), .val (.int p4), .val (.int p5), .val (.int p6), .val (.int (0 : Int32)), .val (.int v1002), .val (.int v1003), .val (.int v1004), .val (.int (0 : Int32)), .val (.int (own_mx (1 : Int32) ((0 : Int32) + (p6 &&& (65535 : Int32))))), .unset, .unset, .unset, .unset, .unset, .unset, .unset, .unset, .unset, .unset, .unset, .unset]) rfl k) ?_
    show OEnds p.tables e below G (T1005.setTop (mkF m 88 #[.val (.int p1), .val (.int p2), .val (.int p3), .val (.int p4), .val (.int p5), .val (.int p6), .val (.int (0 : Int32)), .val (.int v1002), .val (.int v1003), .val (.int v1004), .val (.int (0 : Int32)), .val (.int (own_mx (1 : Int32) ((0 : Int32) + (p6 &&& (65535 : Int32))))), .unset, .unset, .unset, .unset, .unset, .unset, .unset, .unset, .unset, .unset, .unset, .unset] []))
    generalize hv_v1006 : (own_mx (1 : Int32) ((0 : Int32) + (p6 &&& (65535 : Int32)))) = v1006
    show OEnds p.tables e below G (T1005.setTop (mkF m 88 #[.val (.int p1), .val (.int p2), .val (.int p3), .val (.int p4), .val (.int p5), .val (.int p6), .val (.int (0 : Int32)), .val (.int v1002), .val (.int v1003), .val (.int v1004), .val (.int (0 : Int32)), .val (.int v1006), .unset, .unset, .unset, .unset, .unset, .unset, .unset, .unset, .unset, .unset, .unset, .unset] []))
    refine OEnds.st (fun _ k => XS.iload X1005.here hx rfl (hb hby at_88) rfl k) ?_
    show OEnds p.tables e below G (T1005.setTop (mkF m 90 #[.val (.int p1), .val (.int p2), .val (.int p3), .val (.int p4), .val (.int p5), .val (.int p6), .val (.int (0 : Int32)), .val (.int v1002), .val (.int v1003), .val (.int v1004), .val (.int (0 : Int32)), .val (.int v1006), .unset, .unset, .unset, .unset, .unset, .unset, .unset, .unset, .unset, .unset, .unset, .unset] [(.int (0 : Int32))]))
    refine OEnds.st (fun _ k => XS.iloadN X1005.here hx rfl (hb hby at_90) rfl k) ?_
    show OEnds p.tables e below G (T1005.setTop (mkF m 91 #[.val (.int p1), .val (.int p2), .val (.int p3), .val (.int p4), .val (.int p5), .val (.int p6), .val (.int (0 : Int32)), .val (.int v1002), .val (.int v1003), .val (.int v1004), .val (.int (0 : Int32)), .val (.int v1006), .unset, .unset, .unset, .unset, .unset, .unset, .unset, .unset, .unset, .unset, .unset, .unset] [(.int p2), (.int (0 : Int32))]))
    refine OEnds.st (X1005.ldcInt hx hown (mvT hZ (hw _ (List.mem_of_getElem? (i := 5) rfl))) (g := (mkF m 91 #[.val (.int p1), .val (.int p2), .val (.int p3), .val (.int p4), .val (.int p5), .val (.int p6), .val (.int (0 : Int32)), .val (.int v1002), .val (.int v1003), .val (.int v1004), .val (.int (0 : Int32)), .val (.int v1006), .unset, .unset, .unset, .unset, .unset, .unset, .unset, .unset, .unset, .unset, .unset, .unset] [(.int p2), (.int (0 : Int32))])) rfl (hb hby at_91)) ?_
    show OEnds p.tables e below G (T1005.setTop (mkF m 93 #[.val (.int p1), .val (.int p2), .val (.int p3), .val (.int p4), .val (.int p5), .val (.int p6), .val (.int (0 : Int32)), .val (.int v1002), .val (.int v1003), .val (.int v1004), .val (.int (0 : Int32)), .val (.int v1006), .unset, .unset, .unset, .unset, .unset, .unset, .unset, .unset, .unset, .unset, .unset, .unset] [(.int (2147483647 : Int32)), (.int p2), (.int (0 : Int32))]))
    refine OEnds.st (fun _ k => XS.iand X1005.here hx rfl (hb hby at_93) rfl k) ?_
    show OEnds p.tables e below G (T1005.setTop (mkF m 94 #[.val (.int p1), .val (.int p2), .val (.int p3), .val (.int p4), .val (.int p5), .val (.int p6), .val (.int (0 : Int32)), .val (.int v1002), .val (.int v1003), .val (.int v1004), .val (.int (0 : Int32)), .val (.int v1006), .unset, .unset, .unset, .unset, .unset, .unset, .unset, .unset, .unset, .unset, .unset, .unset] [(.int (p2 &&& (2147483647 : Int32))), (.int (0 : Int32))]))
    obtain ⟨_, _, ⟨T1007, L1007, k1007c, n1007c⟩, -, X1007, ⟨Lc1007, hQ1007, l1007, y1007, z1007⟩, st1007⟩ := Jvm.LawKit.callS X1005 hx (y := (⟨"java/lang/Math", "max", "(II)I"⟩ : MethodName)) hown (mvT hZ (hw _ (List.mem_of_getElem? (i := 1) rfl))) (mvT hZ (hw _ (List.mem_of_getElem? (i := 2) rfl))) (mvT hZ (hw _ (List.mem_of_getElem? (i := 3) rfl))) (mvT hZ (hw _ (List.mem_of_getElem? (i := 4) rfl))) (by decide) (backOf (W := 0) (rm1 l Z a0 hw [] (0 : Int32) (p2 &&& (2147483647 : Int32)) h0 n0 Z0 ) hZ (hw _ (List.mem_of_getElem? (i := 4) rfl)) (hw _ (List.mem_of_getElem? (i := 3) rfl)) (by decide) (by decide)) (g := (mkF m 94 #[.val (.int p1), .val (.int p2), .val (.int p3), .val (.int p4), .val (.int p5), .val (.int p6), .val (.int (0 : Int32)), .val (.int v1002), .val (.int v1003), .val (.int v1004), .val (.int (0 : Int32)), .val (.int v1006), .unset, .unset, .unset, .unset, .unset, .unset, .unset, .unset, .unset, .unset, .unset, .unset] [(.int (p2 &&& (2147483647 : Int32))), (.int (0 : Int32))])) rfl (by rw [hml]; rfl) (argsL := [(.int (0 : Int32)), (.int (p2 &&& (2147483647 : Int32)))]) (rest := []) (lenOf pd_1 rfl) rfl (by show 2 * 0 + _ ≤ _; exact Nat.le_of_eq rfl) (hb hby at_94) (fun _ _ => ⟨rfl, e1005, (by decide : 0 + 0 + 0 ≤ _), (by decide : 0 + 0 + 0 ≤ _)⟩)
    dsimp only [Pt.U, Pt.locs, Pt.cells, Pt.slots] at X1007 l1007 y1007 z1007 st1007 hQ1007
    subst l1007 y1007 z1007
    obtain ⟨rfl, N1007q, e1007⟩ := hQ1007
    have N1007 := Fr.app N1005 N1007q
    refine OEnds.st st1007 ?_
    clear st1007
    show OEnds p.tables e below G (T1007.setTop (mkF m 97 #[.val (.int p1), .val (.int p2), .val (.int p3), .val (.int p4), .val (.int p5), .val (.int p6), .val (.int (0 : Int32)), .val (.int v1002), .val (.int v1003), .val (.int v1004), .val (.int (0 : Int32)), .val (.int v1006), .unset, .unset, .unset, .unset, .unset, .unset, .unset, .unset, .unset, .unset, .unset, .unset] [(.int (own_mx (0 : Int32) (p2 &&& (2147483647 : Int32))))]))
    refine OEnds.st (fun _ k => XS.istore X1007.here hx rfl (hb hby at_97) rfl (l' := #[.val (.int p1), .val (.int p2), .val (.int p3), .val (.int p4), .val (.int p5), .val (.int p6), .val (.int (0 : Int32)), .val (.int v1002), .val (.int v1003), .val (.int v1004), .val (.int (0 : Int32)), .val (.int v1006), .val (.int (own_mx (0 : Int32) (p2 &&& (2147483647 : Int32)))), .unset, .unset, .unset, .unset, .unset, .unset, .unset, .unset, .unset, .unset, .unset]) rfl k) ?_
    show OEnds p.tables e below G (T1007.setTop (mkF m 99 #[.val (.int p1), .val (.int p2), .val (.int p3), .val (.int p4), .val (.int p5), .val (.int p6), .val (.int (0 : Int32)), .val (.int v1002), .val (.int v1003), .val (.int v1004), .val (.int (0 : Int32)), .val (.int v1006), .val (.int (own_mx (0 : Int32) (p2 &&& (2147483647 : Int32)))), .unset, .unset, .unset, .unset, .unset, .unset, .unset, .unset, .unset, .unset, .unset] []))
    generalize hv_v1008 : (own_mx (0 : Int32) (p2 &&& (2147483647 : Int32))) = v1008
    have hrel : ((0 : Nat) : Int) ≤ v1008.toInt := by
      have q := (own_mxge (0 : Int32) (p2 &&& (2147483647 : Int32))).1
      rw [hv_v1008] at q
      have kn : (0 : Int32).toInt = 0 := by decide
      omega
    have rest115_1009 : ∀ (r2 : Int32) (hR2 : (v1008 = (2147483647 : Int32)) ∨ (¬ v1008 = (2147483647 : Int32) ∧ r2.toInt = v1008.toInt + 1)), OEnds p.tables e below G (T1007.setTop (mkF m 115 #[.val (.int p1), .val (.int p2), .val (.int p3), .val (.int p4), .val (.int p5), .val (.int p6), .val (.int (0 : Int32)), .val (.int v1002), .val (.int v1003), .val (.int v1004), .val (.int (0 : Int32)), .val (.int v1006), .val (.int v1008), .unset, .unset, .unset, .unset, .unset, .unset, .unset, .unset, .unset, .unset, .unset] [(.int r2)])) := by
      intro r2 hR2
      show OEnds p.tables e below G (T1007.setTop (mkF m 115 #[.val (.int p1), .val (.int p2), .val (.int p3), .val (.int p4), .val (.int p5), .val (.int p6), .val (.int (0 : Int32)), .val (.int v1002), .val (.int v1003), .val (.int v1004), .val (.int (0 : Int32)), .val (.int v1006), .val (.int v1008), .unset, .unset, .unset, .unset, .unset, .unset, .unset, .unset, .unset, .unset, .unset] [(.int r2)]))
      refine OEnds.st (fun _ k => XS.istore X1007.here hx rfl (hb hby at_115) rfl (l' := #[.val (.int p1), .val (.int p2), .val (.int p3), .val (.int p4), .val (.int p5), .val (.int p6), .val (.int (0 : Int32)), .val (.int v1002), .val (.int v1003), .val (.int v1004), .val (.int (0 : Int32)), .val (.int v1006), .val (.int v1008), .val (.int r2), .unset, .unset, .unset, .unset, .unset, .unset, .unset, .unset, .unset, .unset]) rfl k) ?_
      show OEnds p.tables e below G (T1007.setTop (mkF m 117 #[.val (.int p1), .val (.int p2), .val (.int p3), .val (.int p4), .val (.int p5), .val (.int p6), .val (.int (0 : Int32)), .val (.int v1002), .val (.int v1003), .val (.int v1004), .val (.int (0 : Int32)), .val (.int v1006), .val (.int v1008), .val (.int r2), .unset, .unset, .unset, .unset, .unset, .unset, .unset, .unset, .unset, .unset] []))
      refine OEnds.st (fun _ k => XS.iload X1007.here hx rfl (hb hby at_117) rfl k) ?_
      show OEnds p.tables e below G (T1007.setTop (mkF m 119 #[.val (.int p1), .val (.int p2), .val (.int p3), .val (.int p4), .val (.int p5), .val (.int p6), .val (.int (0 : Int32)), .val (.int v1002), .val (.int v1003), .val (.int v1004), .val (.int (0 : Int32)), .val (.int v1006), .val (.int v1008), .val (.int r2), .unset, .unset, .unset, .unset, .unset, .unset, .unset, .unset, .unset, .unset] [(.int (0 : Int32))]))
      refine OEnds.st (fun _ k => XS.iload X1007.here hx rfl (hb hby at_119) rfl k) ?_
      show OEnds p.tables e below G (T1007.setTop (mkF m 121 #[.val (.int p1), .val (.int p2), .val (.int p3), .val (.int p4), .val (.int p5), .val (.int p6), .val (.int (0 : Int32)), .val (.int v1002), .val (.int v1003), .val (.int v1004), .val (.int (0 : Int32)), .val (.int v1006), .val (.int v1008), .val (.int r2), .unset, .unset, .unset, .unset, .unset, .unset, .unset, .unset, .unset, .unset] [(.int v1002), (.int (0 : Int32))]))
      refine OEnds.st (fun _ k => XS.iload X1007.here hx rfl (hb hby at_121) rfl k) ?_
      show OEnds p.tables e below G (T1007.setTop (mkF m 123 #[.val (.int p1), .val (.int p2), .val (.int p3), .val (.int p4), .val (.int p5), .val (.int p6), .val (.int (0 : Int32)), .val (.int v1002), .val (.int v1003), .val (.int v1004), .val (.int (0 : Int32)), .val (.int v1006), .val (.int v1008), .val (.int r2), .unset, .unset, .unset, .unset, .unset, .unset, .unset, .unset, .unset, .unset] [(.int v1003), (.int v1002), (.int (0 : Int32))]))
      refine OEnds.st (fun _ k => XS.iload X1007.here hx rfl (hb hby at_123) rfl k) ?_
      show OEnds p.tables e below G (T1007.setTop (mkF m 125 #[.val (.int p1), .val (.int p2), .val (.int p3), .val (.int p4), .val (.int p5), .val (.int p6), .val (.int (0 : Int32)), .val (.int v1002), .val (.int v1003), .val (.int v1004), .val (.int (0 : Int32)), .val (.int v1006), .val (.int v1008), .val (.int r2), .unset, .unset, .unset, .unset, .unset, .unset, .unset, .unset, .unset, .unset] [(.int v1004), (.int v1003), (.int v1002), (.int (0 : Int32))]))
      obtain ⟨_, _, ⟨T1010, L1010, k1010c, n1010c⟩, -, X1010, ⟨Lc1010, hQ1010, l1010, y1010, z1010⟩, st1010⟩ := Jvm.LawKit.callS X1007 hx (y := (⟨"com/example/words_to_weights/wordstoweights/evaluation/JudgedRankingSetRecallPinLaw", "ranks", "(IIII)[I"⟩ : MethodName)) hown (mvT hZ (hw _ (List.mem_of_getElem? (i := 6) rfl))) (mvT hZ (hw _ (List.mem_of_getElem? (i := 7) rfl))) (mvT hZ (hw _ (List.mem_of_getElem? (i := 8) rfl))) (mvT hZ (hw _ (List.mem_of_getElem? (i := 9) rfl))) (by decide) (backOf (W := 0) (rmrk0 l Z a0 hw [] v1002 v1003 v1004 h0 n0 Z0 ) hZ (hw _ (List.mem_of_getElem? (i := 9) rfl)) (hw _ (List.mem_of_getElem? (i := 8) rfl)) (by decide) (by decide)) (g := (mkF m 125 #[.val (.int p1), .val (.int p2), .val (.int p3), .val (.int p4), .val (.int p5), .val (.int p6), .val (.int (0 : Int32)), .val (.int v1002), .val (.int v1003), .val (.int v1004), .val (.int (0 : Int32)), .val (.int v1006), .val (.int v1008), .val (.int r2), .unset, .unset, .unset, .unset, .unset, .unset, .unset, .unset, .unset, .unset] [(.int v1004), (.int v1003), (.int v1002), (.int (0 : Int32))])) rfl (by rw [hml]; rfl) (argsL := [(.int (0 : Int32)), (.int v1002), (.int v1003), (.int v1004)]) (rest := []) (lenOf pd_2 rfl) rfl (by show 2 * 0 + _ ≤ _; exact Nat.le_of_eq rfl) (hb hby at_125) (fun _ _ => ⟨rfl, e1007, (by decide : 0 + 0 + 0 + 1 ≤ _), (by decide : 0 + 0 + 0 + 0 ≤ _)⟩)
      dsimp only [Pt.U, Pt.locs, Pt.cells, Pt.slots] at X1010 l1010 y1010 z1010 st1010 hQ1010
      subst l1010 y1010 z1010
      obtain ⟨b_1010, kb_1010, rfl, N1010q, p1011, p1012, p1013⟩ := hQ1010
      have N1010 := Fr.app N1007 N1010q
      refine OEnds.st st1010 ?_
      clear st1010
      have sz_b_1010 : h0.size ≤ b_1010 := Nat.le_trans KK0.1 p1012
      have ge_b_1010 : n0 ≤ b_1010 := Nat.le_trans Z0 p1012
      have KK1010 : Keep h0 T1010.heap [] := KK0.trans p1011 (fun x hx => absurd hx List.not_mem_nil)
      have Z1010 := Nat.le_trans Z0 p1011.1
      show OEnds p.tables e below G (T1010.setTop (mkF m 128 #[.val (.int p1), .val (.int p2), .val (.int p3), .val (.int p4), .val (.int p5), .val (.int p6), .val (.int (0 : Int32)), .val (.int v1002), .val (.int v1003), .val (.int v1004), .val (.int (0 : Int32)), .val (.int v1006), .val (.int v1008), .val (.int r2), .unset, .unset, .unset, .unset, .unset, .unset, .unset, .unset, .unset, .unset] [(.ref b_1010)]))
      refine OEnds.st (fun _ k => XS.astore X1010.here hx rfl (hb hby at_128) rfl rfl (l' := #[.val (.int p1), .val (.int p2), .val (.int p3), .val (.int p4), .val (.int p5), .val (.int p6), .val (.int (0 : Int32)), .val (.int v1002), .val (.int v1003), .val (.int v1004), .val (.int (0 : Int32)), .val (.int v1006), .val (.int v1008), .val (.int r2), .val (.ref b_1010), .unset, .unset, .unset, .unset, .unset, .unset, .unset, .unset, .unset]) rfl k) ?_
      show OEnds p.tables e below G (T1010.setTop (mkF m 130 #[.val (.int p1), .val (.int p2), .val (.int p3), .val (.int p4), .val (.int p5), .val (.int p6), .val (.int (0 : Int32)), .val (.int v1002), .val (.int v1003), .val (.int v1004), .val (.int (0 : Int32)), .val (.int v1006), .val (.int v1008), .val (.int r2), .val (.ref b_1010), .unset, .unset, .unset, .unset, .unset, .unset, .unset, .unset, .unset] []))
      obtain ⟨T1014, h1014, X1014, e1014, E1014, A1014, D1014, -, st1014⟩ := newO X1010 hx hZ hown (hw _ (List.mem_of_getElem? (i := 11) rfl)) (hw _ (List.mem_of_getElem? (i := 12) rfl)) (hw _ (List.mem_of_getElem? (i := 13) rfl)) rfl (g := (mkF m 130 #[.val (.int p1), .val (.int p2), .val (.int p3), .val (.int p4), .val (.int p5), .val (.int p6), .val (.int (0 : Int32)), .val (.int v1002), .val (.int v1003), .val (.int v1004), .val (.int (0 : Int32)), .val (.int v1006), .val (.int v1008), .val (.int r2), .val (.ref b_1010), .unset, .unset, .unset, .unset, .unset, .unset, .unset, .unset, .unset] [])) rfl (hb hby at_130) (by decide) (by decide)
      obtain ⟨b1014, g1014⟩ : ∃ z, z = T1010.heap.size := ⟨_, rfl⟩
      rw [← g1014] at A1014 D1014 st1014
      refine OEnds.st st1014 ?_
      clear st1014
      have ne1015 : b_1010 ≠ b1014 := Nat.ne_of_lt (Nat.lt_of_lt_of_le (p1013).lt (Nat.le_of_eq g1014.symm))
      have ge_b1014 : n0 ≤ b1014 := Nat.le_trans Z1010 (Nat.le_of_eq g1014.symm)
      have sz_b1014 : h0.size ≤ b1014 := Nat.le_trans KK1010.1 (Nat.le_of_eq g1014.symm)
      have f1016 : Arv Z h1014 b_1010 kb_1010 .int (0 : Int32) [] (.int (0 : Int32)) := p1013.ext E1014
      have KK1014 : Keep h0 h1014 [] := KK1010.ext E1014
      have Z1014 := Nat.le_trans Z1010 E1014.1
      have ex_b1014 := A1014
      have f1017 : Fld Z h1014 b1014 "com/example/words_to_weights/wordstoweights/evaluation/JudgedRanking" "retrieved" "I" (.int (0 : Int32)) := D1014 (Or.inr (hw _ (List.mem_of_getElem? (i := 21) rfl))) (ty := .int) (by decide)
      have f1018 : Fld Z h1014 b1014 "com/example/words_to_weights/wordstoweights/evaluation/JudgedRanking" "relevant" "I" (.int (0 : Int32)) := D1014 (Or.inr (hw _ (List.mem_of_getElem? (i := 23) rfl))) (ty := .int) (by decide)
      have f1019 : Fld Z h1014 b1014 "com/example/words_to_weights/wordstoweights/evaluation/JudgedRanking" "relevantRanks" "[I" .null := D1014 (Or.inr (hw _ (List.mem_of_getElem? (i := 25) rfl))) (ty := (.array .int)) (by decide)
      show OEnds p.tables e below G (T1014.setTop (mkF m 133 #[.val (.int p1), .val (.int p2), .val (.int p3), .val (.int p4), .val (.int p5), .val (.int p6), .val (.int (0 : Int32)), .val (.int v1002), .val (.int v1003), .val (.int v1004), .val (.int (0 : Int32)), .val (.int v1006), .val (.int v1008), .val (.int r2), .val (.ref b_1010), .unset, .unset, .unset, .unset, .unset, .unset, .unset, .unset, .unset] [(.ref b1014)]))
      refine OEnds.st (fun _ k => XS.dup X1014.here hx rfl (hb hby at_133) rfl rfl k) ?_
      show OEnds p.tables e below G (T1014.setTop (mkF m 134 #[.val (.int p1), .val (.int p2), .val (.int p3), .val (.int p4), .val (.int p5), .val (.int p6), .val (.int (0 : Int32)), .val (.int v1002), .val (.int v1003), .val (.int v1004), .val (.int (0 : Int32)), .val (.int v1006), .val (.int v1008), .val (.int r2), .val (.ref b_1010), .unset, .unset, .unset, .unset, .unset, .unset, .unset, .unset, .unset] [(.ref b1014), (.ref b1014)]))
      refine OEnds.st (fun _ k => XS.iload X1014.here hx rfl (hb hby at_134) rfl k) ?_
      show OEnds p.tables e below G (T1014.setTop (mkF m 136 #[.val (.int p1), .val (.int p2), .val (.int p3), .val (.int p4), .val (.int p5), .val (.int p6), .val (.int (0 : Int32)), .val (.int v1002), .val (.int v1003), .val (.int v1004), .val (.int (0 : Int32)), .val (.int v1006), .val (.int v1008), .val (.int r2), .val (.ref b_1010), .unset, .unset, .unset, .unset, .unset, .unset, .unset, .unset, .unset] [(.int v1006), (.ref b1014), (.ref b1014)]))
      refine OEnds.st (fun _ k => XS.iload X1014.here hx rfl (hb hby at_136) rfl k) ?_
      show OEnds p.tables e below G (T1014.setTop (mkF m 138 #[.val (.int p1), .val (.int p2), .val (.int p3), .val (.int p4), .val (.int p5), .val (.int p6), .val (.int (0 : Int32)), .val (.int v1002), .val (.int v1003), .val (.int v1004), .val (.int (0 : Int32)), .val (.int v1006), .val (.int v1008), .val (.int r2), .val (.ref b_1010), .unset, .unset, .unset, .unset, .unset, .unset, .unset, .unset, .unset] [(.int v1008), (.int v1006), (.ref b1014), (.ref b1014)]))
      refine OEnds.st (fun _ k => XS.aload X1014.here hx rfl (hb hby at_138) rfl rfl k) ?_
      show OEnds p.tables e below G (T1014.setTop (mkF m 140 #[.val (.int p1), .val (.int p2), .val (.int p3), .val (.int p4), .val (.int p5), .val (.int p6), .val (.int (0 : Int32)), .val (.int v1002), .val (.int v1003), .val (.int v1004), .val (.int (0 : Int32)), .val (.int v1006), .val (.int v1008), .val (.int r2), .val (.ref b_1010), .unset, .unset, .unset, .unset, .unset, .unset, .unset, .unset, .unset] [(.ref b_1010), (.int v1008), (.int v1006), (.ref b1014), (.ref b1014)]))
      obtain ⟨_, _, ⟨T1020, L1020, k1020c, n1020c⟩, -, X1020, ⟨Lc1020, hQ1020, l1020, y1020, z1020⟩, st1020⟩ := X1014.specialBack hx (y := (⟨"com/example/words_to_weights/wordstoweights/evaluation/JudgedRanking", "<init>", "(II[I)V"⟩ : MethodName)) rfl hown (mvT hZ (hw _ (List.mem_of_getElem? (i := 14) rfl))) (mvT hZ (hw _ (List.mem_of_getElem? (i := 15) rfl))) (mvT hZ (hw _ (List.mem_of_getElem? (i := 16) rfl))) (by decide) (backOf (W := 1) (rm3 l Z a0 hw [] b1014 v1006 v1008 b_1010 h1014 n0 Z1014 ex_b1014 f1017 f1018 f1019 ge_b1014) hZ (hw _ (List.mem_of_getElem? (i := 16) rfl)) (hw _ (List.mem_of_getElem? (i := 13) rfl)) (by decide) (by decide)) (g := (mkF m 140 #[.val (.int p1), .val (.int p2), .val (.int p3), .val (.int p4), .val (.int p5), .val (.int p6), .val (.int (0 : Int32)), .val (.int v1002), .val (.int v1003), .val (.int v1004), .val (.int (0 : Int32)), .val (.int v1006), .val (.int v1008), .val (.int r2), .val (.ref b_1010), .unset, .unset, .unset, .unset, .unset, .unset, .unset, .unset, .unset] [(.ref b_1010), (.int v1008), (.int v1006), (.ref b1014), (.ref b1014)])) rfl (by rw [hml]; rfl) (Steps.refl _) (a := b1014) (argsL := [(.int v1006), (.int v1008), (.ref b_1010)]) (rest := [(.ref b1014)]) (lenOf pd_3 rfl) rfl (by show 2 * 0 + _ ≤ _; exact Nat.le_of_eq rfl) (hb hby at_140) (fun _ _ => ⟨rfl, e1014, (by decide : 0 + 0 + 0 + 1 + 1 + 0 ≤ _), (by decide : 0 + 0 + 0 + 0 + 3 + 0 ≤ _)⟩)
      dsimp only [Pt.U, Pt.locs, Pt.cells, Pt.slots] at X1020 l1020 y1020 z1020 st1020 hQ1020
      subst l1020 y1020 z1020
      obtain ⟨rfl, N1020q, p1021, p1022, p1023, p1024⟩ := hQ1020
      have N1020 := Fr.app N1010 N1020q
      refine OEnds.st (fun _ k => st1020.trans k) ?_
      clear st1020
      have f1025 : Arv Z T1020.heap b_1010 kb_1010 .int (0 : Int32) [] (.int (0 : Int32)) := f1016.keep p1021 (by simp only [List.mem_cons, List.not_mem_nil, or_false, not_or]; exact ne1015)
      have f1026 : Exa Z T1020.heap b1014 "com/example/words_to_weights/wordstoweights/evaluation/JudgedRanking" := ex_b1014.keep p1021
      have KK1020 : Keep h0 T1020.heap [] := KK1014.trans p1021 (fun x hx => by cases List.mem_singleton.mp hx; exact Or.inr sz_b1014)
      have Z1020 := Nat.le_trans Z1014 p1021.1
      show OEnds p.tables e below G (T1020.setTop (mkF m 143 #[.val (.int p1), .val (.int p2), .val (.int p3), .val (.int p4), .val (.int p5), .val (.int p6), .val (.int (0 : Int32)), .val (.int v1002), .val (.int v1003), .val (.int v1004), .val (.int (0 : Int32)), .val (.int v1006), .val (.int v1008), .val (.int r2), .val (.ref b_1010), .unset, .unset, .unset, .unset, .unset, .unset, .unset, .unset, .unset] [(.ref b1014)]))
      refine OEnds.st (fun _ k => XS.astore X1020.here hx rfl (hb hby at_143) rfl rfl (l' := #[.val (.int p1), .val (.int p2), .val (.int p3), .val (.int p4), .val (.int p5), .val (.int p6), .val (.int (0 : Int32)), .val (.int v1002), .val (.int v1003), .val (.int v1004), .val (.int (0 : Int32)), .val (.int v1006), .val (.int v1008), .val (.int r2), .val (.ref b_1010), .val (.ref b1014), .unset, .unset, .unset, .unset, .unset, .unset, .unset, .unset]) rfl k) ?_
      show OEnds p.tables e below G (T1020.setTop (mkF m 145 #[.val (.int p1), .val (.int p2), .val (.int p3), .val (.int p4), .val (.int p5), .val (.int p6), .val (.int (0 : Int32)), .val (.int v1002), .val (.int v1003), .val (.int v1004), .val (.int (0 : Int32)), .val (.int v1006), .val (.int v1008), .val (.int r2), .val (.ref b_1010), .val (.ref b1014), .unset, .unset, .unset, .unset, .unset, .unset, .unset, .unset] []))
      obtain ⟨T1030, h1030, X1030, e1030, E1030, A1030, D1030, -, st1030⟩ := newO X1020 hx hZ hown (hw _ (List.mem_of_getElem? (i := 11) rfl)) (hw _ (List.mem_of_getElem? (i := 12) rfl)) (hw _ (List.mem_of_getElem? (i := 13) rfl)) rfl (g := (mkF m 145 #[.val (.int p1), .val (.int p2), .val (.int p3), .val (.int p4), .val (.int p5), .val (.int p6), .val (.int (0 : Int32)), .val (.int v1002), .val (.int v1003), .val (.int v1004), .val (.int (0 : Int32)), .val (.int v1006), .val (.int v1008), .val (.int r2), .val (.ref b_1010), .val (.ref b1014), .unset, .unset, .unset, .unset, .unset, .unset, .unset, .unset] [])) rfl (hb hby at_145) (by decide) (by decide)
      obtain ⟨b1030, g1030⟩ : ∃ z, z = T1020.heap.size := ⟨_, rfl⟩
      rw [← g1030] at A1030 D1030 st1030
      refine OEnds.st st1030 ?_
      clear st1030
      have ne1031 : b_1010 ≠ b1030 := Nat.ne_of_lt (Nat.lt_of_lt_of_le (f1025).lt (Nat.le_of_eq g1030.symm))
      have ne1032 : b1014 ≠ b1030 := Nat.ne_of_lt (Nat.lt_of_lt_of_le (p1022).lt (Nat.le_of_eq g1030.symm))
      have ge_b1030 : n0 ≤ b1030 := Nat.le_trans Z1020 (Nat.le_of_eq g1030.symm)
      have sz_b1030 : h0.size ≤ b1030 := Nat.le_trans KK1020.1 (Nat.le_of_eq g1030.symm)
      have f1033 : Arv Z h1030 b_1010 kb_1010 .int (0 : Int32) [] (.int (0 : Int32)) := f1025.ext E1030
      have f1034 : Exa Z h1030 b1014 "com/example/words_to_weights/wordstoweights/evaluation/JudgedRanking" := p1022.ext E1030
      have f1035 : Fld Z h1030 b1014 "com/example/words_to_weights/wordstoweights/evaluation/JudgedRanking" "relevant" "I" (.int v1008) := p1023.ext E1030
      have f1036 : Fld Z h1030 b1014 "com/example/words_to_weights/wordstoweights/evaluation/JudgedRanking" "relevantRanks" "[I" (.ref b_1010) := p1024.ext E1030
      have KK1030 : Keep h0 h1030 [] := KK1020.ext E1030
      have Z1030 := Nat.le_trans Z1020 E1030.1
      have ex_b1030 := A1030
      have f1037 : Fld Z h1030 b1030 "com/example/words_to_weights/wordstoweights/evaluation/JudgedRanking" "retrieved" "I" (.int (0 : Int32)) := D1030 (Or.inr (hw _ (List.mem_of_getElem? (i := 21) rfl))) (ty := .int) (by decide)
      have f1038 : Fld Z h1030 b1030 "com/example/words_to_weights/wordstoweights/evaluation/JudgedRanking" "relevant" "I" (.int (0 : Int32)) := D1030 (Or.inr (hw _ (List.mem_of_getElem? (i := 23) rfl))) (ty := .int) (by decide)
      have f1039 : Fld Z h1030 b1030 "com/example/words_to_weights/wordstoweights/evaluation/JudgedRanking" "relevantRanks" "[I" .null := D1030 (Or.inr (hw _ (List.mem_of_getElem? (i := 25) rfl))) (ty := (.array .int)) (by decide)
      show OEnds p.tables e below G (T1030.setTop (mkF m 148 #[.val (.int p1), .val (.int p2), .val (.int p3), .val (.int p4), .val (.int p5), .val (.int p6), .val (.int (0 : Int32)), .val (.int v1002), .val (.int v1003), .val (.int v1004), .val (.int (0 : Int32)), .val (.int v1006), .val (.int v1008), .val (.int r2), .val (.ref b_1010), .val (.ref b1014), .unset, .unset, .unset, .unset, .unset, .unset, .unset, .unset] [(.ref b1030)]))
      refine OEnds.st (fun _ k => XS.dup X1030.here hx rfl (hb hby at_148) rfl rfl k) ?_
      show OEnds p.tables e below G (T1030.setTop (mkF m 149 #[.val (.int p1), .val (.int p2), .val (.int p3), .val (.int p4), .val (.int p5), .val (.int p6), .val (.int (0 : Int32)), .val (.int v1002), .val (.int v1003), .val (.int v1004), .val (.int (0 : Int32)), .val (.int v1006), .val (.int v1008), .val (.int r2), .val (.ref b_1010), .val (.ref b1014), .unset, .unset, .unset, .unset, .unset, .unset, .unset, .unset] [(.ref b1030), (.ref b1030)]))
      refine OEnds.st (fun _ k => XS.iload X1030.here hx rfl (hb hby at_149) rfl k) ?_
      show OEnds p.tables e below G (T1030.setTop (mkF m 151 #[.val (.int p1), .val (.int p2), .val (.int p3), .val (.int p4), .val (.int p5), .val (.int p6), .val (.int (0 : Int32)), .val (.int v1002), .val (.int v1003), .val (.int v1004), .val (.int (0 : Int32)), .val (.int v1006), .val (.int v1008), .val (.int r2), .val (.ref b_1010), .val (.ref b1014), .unset, .unset, .unset, .unset, .unset, .unset, .unset, .unset] [(.int v1006), (.ref b1030), (.ref b1030)]))
      refine OEnds.st (fun _ k => XS.iload X1030.here hx rfl (hb hby at_151) rfl k) ?_
      show OEnds p.tables e below G (T1030.setTop (mkF m 153 #[.val (.int p1), .val (.int p2), .val (.int p3), .val (.int p4), .val (.int p5), .val (.int p6), .val (.int (0 : Int32)), .val (.int v1002), .val (.int v1003), .val (.int v1004), .val (.int (0 : Int32)), .val (.int v1006), .val (.int v1008), .val (.int r2), .val (.ref b_1010), .val (.ref b1014), .unset, .unset, .unset, .unset, .unset, .unset, .unset, .unset] [(.int r2), (.int v1006), (.ref b1030), (.ref b1030)]))
      refine OEnds.st (fun _ k => XS.aload X1030.here hx rfl (hb hby at_153) rfl rfl k) ?_
      show OEnds p.tables e below G (T1030.setTop (mkF m 155 #[.val (.int p1), .val (.int p2), .val (.int p3), .val (.int p4), .val (.int p5), .val (.int p6), .val (.int (0 : Int32)), .val (.int v1002), .val (.int v1003), .val (.int v1004), .val (.int (0 : Int32)), .val (.int v1006), .val (.int v1008), .val (.int r2), .val (.ref b_1010), .val (.ref b1014), .unset, .unset, .unset, .unset, .unset, .unset, .unset, .unset] [(.ref b_1010), (.int r2), (.int v1006), (.ref b1030), (.ref b1030)]))
      obtain ⟨_, _, ⟨T1040, L1040, k1040c, n1040c⟩, -, X1040, ⟨Lc1040, hQ1040, l1040, y1040, z1040⟩, st1040⟩ := X1030.specialBack hx (y := (⟨"com/example/words_to_weights/wordstoweights/evaluation/JudgedRanking", "<init>", "(II[I)V"⟩ : MethodName)) rfl hown (mvT hZ (hw _ (List.mem_of_getElem? (i := 14) rfl))) (mvT hZ (hw _ (List.mem_of_getElem? (i := 15) rfl))) (mvT hZ (hw _ (List.mem_of_getElem? (i := 16) rfl))) (by decide) (backOf (W := 1) (rm3 l Z a0 hw [] b1030 v1006 r2 b_1010 h1030 n0 Z1030 ex_b1030 f1037 f1038 f1039 ge_b1030) hZ (hw _ (List.mem_of_getElem? (i := 16) rfl)) (hw _ (List.mem_of_getElem? (i := 13) rfl)) (by decide) (by decide)) (g := (mkF m 155 #[.val (.int p1), .val (.int p2), .val (.int p3), .val (.int p4), .val (.int p5), .val (.int p6), .val (.int (0 : Int32)), .val (.int v1002), .val (.int v1003), .val (.int v1004), .val (.int (0 : Int32)), .val (.int v1006), .val (.int v1008), .val (.int r2), .val (.ref b_1010), .val (.ref b1014), .unset, .unset, .unset, .unset, .unset, .unset, .unset, .unset] [(.ref b_1010), (.int r2), (.int v1006), (.ref b1030), (.ref b1030)])) rfl (by rw [hml]; rfl) (Steps.refl _) (a := b1030) (argsL := [(.int v1006), (.int r2), (.ref b_1010)]) (rest := [(.ref b1030)]) (lenOf pd_3 rfl) rfl (by show 2 * 0 + _ ≤ _; exact Nat.le_of_eq rfl) (hb hby at_155) (fun _ _ => ⟨rfl, e1030, (by decide : 0 + 0 + 0 + 1 + 1 + 0 + 1 + 0 ≤ _), (by decide : 0 + 0 + 0 + 0 + 3 + 0 + 3 + 0 ≤ _)⟩)
      dsimp only [Pt.U, Pt.locs, Pt.cells, Pt.slots] at X1040 l1040 y1040 z1040 st1040 hQ1040
      subst l1040 y1040 z1040
      obtain ⟨rfl, N1040q, p1041, p1042, p1043, p1044⟩ := hQ1040
      have N1040 := Fr.app N1020 N1040q
      refine OEnds.st (fun _ k => st1040.trans k) ?_
      clear st1040
      have f1045 : Arv Z T1040.heap b_1010 kb_1010 .int (0 : Int32) [] (.int (0 : Int32)) := f1033.keep p1041 (by simp only [List.mem_cons, List.not_mem_nil, or_false, not_or]; exact ne1031)
      have f1046 : Exa Z T1040.heap b1014 "com/example/words_to_weights/wordstoweights/evaluation/JudgedRanking" := f1034.keep p1041
      have f1047 : Fld Z T1040.heap b1014 "com/example/words_to_weights/wordstoweights/evaluation/JudgedRanking" "relevant" "I" (.int v1008) := f1035.keep p1041 (by simp only [List.mem_cons, List.not_mem_nil, or_false, not_or]; exact ne1032)
      have f1048 : Fld Z T1040.heap b1014 "com/example/words_to_weights/wordstoweights/evaluation/JudgedRanking" "relevantRanks" "[I" (.ref b_1010) := f1036.keep p1041 (by simp only [List.mem_cons, List.not_mem_nil, or_false, not_or]; exact ne1032)
      have f1049 : Exa Z T1040.heap b1030 "com/example/words_to_weights/wordstoweights/evaluation/JudgedRanking" := ex_b1030.keep p1041
      have KK1040 : Keep h0 T1040.heap [] := KK1030.trans p1041 (fun x hx => by cases List.mem_singleton.mp hx; exact Or.inr sz_b1030)
      have Z1040 := Nat.le_trans Z1030 p1041.1
      show OEnds p.tables e below G (T1040.setTop (mkF m 158 #[.val (.int p1), .val (.int p2), .val (.int p3), .val (.int p4), .val (.int p5), .val (.int p6), .val (.int (0 : Int32)), .val (.int v1002), .val (.int v1003), .val (.int v1004), .val (.int (0 : Int32)), .val (.int v1006), .val (.int v1008), .val (.int r2), .val (.ref b_1010), .val (.ref b1014), .unset, .unset, .unset, .unset, .unset, .unset, .unset, .unset] [(.ref b1030)]))
      refine OEnds.st (fun _ k => XS.astore X1040.here hx rfl (hb hby at_158) rfl rfl (l' := #[.val (.int p1), .val (.int p2), .val (.int p3), .val (.int p4), .val (.int p5), .val (.int p6), .val (.int (0 : Int32)), .val (.int v1002), .val (.int v1003), .val (.int v1004), .val (.int (0 : Int32)), .val (.int v1006), .val (.int v1008), .val (.int r2), .val (.ref b_1010), .val (.ref b1014), .val (.ref b1030), .unset, .unset, .unset, .unset, .unset, .unset, .unset]) rfl k) ?_
      show OEnds p.tables e below G (T1040.setTop (mkF m 160 #[.val (.int p1), .val (.int p2), .val (.int p3), .val (.int p4), .val (.int p5), .val (.int p6), .val (.int (0 : Int32)), .val (.int v1002), .val (.int v1003), .val (.int v1004), .val (.int (0 : Int32)), .val (.int v1006), .val (.int v1008), .val (.int r2), .val (.ref b_1010), .val (.ref b1014), .val (.ref b1030), .unset, .unset, .unset, .unset, .unset, .unset, .unset] []))
      refine OEnds.st (fun _ k => XS.aload X1040.here hx rfl (hb hby at_160) rfl rfl k) ?_
      show OEnds p.tables e below G (T1040.setTop (mkF m 162 #[.val (.int p1), .val (.int p2), .val (.int p3), .val (.int p4), .val (.int p5), .val (.int p6), .val (.int (0 : Int32)), .val (.int v1002), .val (.int v1003), .val (.int v1004), .val (.int (0 : Int32)), .val (.int v1006), .val (.int v1008), .val (.int r2), .val (.ref b_1010), .val (.ref b1014), .val (.ref b1030), .unset, .unset, .unset, .unset, .unset, .unset, .unset] [(.ref b1014)]))
      obtain ⟨cq1053, kq1053, q1053a, q1053b, q1053c⟩ := isOf hZ rfl f1046
      obtain ⟨_, _, ⟨T1053, L1053, k1053c, n1053c⟩, -, X1053, ⟨Lc1053, hQ1053, l1053, y1053, z1053⟩, st1053⟩ := X1040.virtualBack hx (y := (⟨"com/example/words_to_weights/wordstoweights/evaluation/JudgedRanking", "setRecall", "()D"⟩ : MethodName)) (z := (⟨"com/example/words_to_weights/wordstoweights/evaluation/JudgedRanking", "setRecall", "()D"⟩ : MethodName)) hown (mvT hZ (hw _ (List.mem_of_getElem? (i := 26) rfl))) (mvT hZ (hw _ (List.mem_of_getElem? (i := 27) rfl))) (notFace_of_selects (args := #[]) (mvT hZ (hw _ (List.mem_of_getElem? (i := 29) rfl)))) (mvT hZ (hw _ (List.mem_of_getElem? (i := 29) rfl))) (mvT hZ (hw _ (List.mem_of_getElem? (i := 28) rfl))) (by decide) (backOf (W := 0) (rmsr0 l Z a0 hw [] b1014 v1008 b_1010 kb_1010 [] T1040.heap n0 Z1040 f1047 f1048 f1045) hZ (hw _ (List.mem_of_getElem? (i := 30) rfl)) (hw _ (List.mem_of_getElem? (i := 13) rfl)) (by decide) (by decide)) q1053a q1053c (g := (mkF m 162 #[.val (.int p1), .val (.int p2), .val (.int p3), .val (.int p4), .val (.int p5), .val (.int p6), .val (.int (0 : Int32)), .val (.int v1002), .val (.int v1003), .val (.int v1004), .val (.int (0 : Int32)), .val (.int v1006), .val (.int v1008), .val (.int r2), .val (.ref b_1010), .val (.ref b1014), .val (.ref b1030), .unset, .unset, .unset, .unset, .unset, .unset, .unset] [(.ref b1014)])) rfl (by rw [hml]; rfl) (Steps.refl _) (argsL := []) (rest := []) (lenOf pd_4 rfl) rfl (by show 2 * 0 + _ ≤ _; exact Nat.le_of_eq rfl) (hb hby at_162) (fun _ _ => ⟨rfl, rfl, (by decide : 0 + 0 + 0 + 1 + 1 + 0 + 1 + 0 + 0 ≤ _), (by decide : 0 + 0 + 0 + 0 + 3 + 0 + 3 + 0 + 0 ≤ _)⟩)
      dsimp only [Pt.U, Pt.locs, Pt.cells, Pt.slots] at X1053 l1053 y1053 z1053 st1053 hQ1053
      subst l1053 y1053 z1053
      obtain ⟨rfl, N1053q, e1053⟩ := hQ1053
      have N1053 := Fr.app N1040 N1053q
      refine OEnds.st (fun _ k => st1053.trans k) ?_
      clear st1053
      show OEnds p.tables e below G (T1053.setTop (mkF m 165 #[.val (.int p1), .val (.int p2), .val (.int p3), .val (.int p4), .val (.int p5), .val (.int p6), .val (.int (0 : Int32)), .val (.int v1002), .val (.int v1003), .val (.int v1004), .val (.int (0 : Int32)), .val (.int v1006), .val (.int v1008), .val (.int r2), .val (.ref b_1010), .val (.ref b1014), .val (.ref b1030), .unset, .unset, .unset, .unset, .unset, .unset, .unset] [(.double (own_rc (0 : UInt64) v1008))]))
      refine OEnds.st (fun _ k => XS.dstore X1053.here hx rfl (hb hby at_165) rfl (l' := #[.val (.int p1), .val (.int p2), .val (.int p3), .val (.int p4), .val (.int p5), .val (.int p6), .val (.int (0 : Int32)), .val (.int v1002), .val (.int v1003), .val (.int v1004), .val (.int (0 : Int32)), .val (.int v1006), .val (.int v1008), .val (.int r2), .val (.ref b_1010), .val (.ref b1014), .val (.ref b1030), .val (.double (own_rc (0 : UInt64) v1008)), .second, .unset, .unset, .unset, .unset, .unset]) rfl k) ?_
      show OEnds p.tables e below G (T1053.setTop (mkF m 167 #[.val (.int p1), .val (.int p2), .val (.int p3), .val (.int p4), .val (.int p5), .val (.int p6), .val (.int (0 : Int32)), .val (.int v1002), .val (.int v1003), .val (.int v1004), .val (.int (0 : Int32)), .val (.int v1006), .val (.int v1008), .val (.int r2), .val (.ref b_1010), .val (.ref b1014), .val (.ref b1030), .val (.double (own_rc (0 : UInt64) v1008)), .second, .unset, .unset, .unset, .unset, .unset] []))
      refine OEnds.st (fun _ k => XS.aload X1053.here hx rfl (hb hby at_167) rfl rfl k) ?_
      show OEnds p.tables e below G (T1053.setTop (mkF m 169 #[.val (.int p1), .val (.int p2), .val (.int p3), .val (.int p4), .val (.int p5), .val (.int p6), .val (.int (0 : Int32)), .val (.int v1002), .val (.int v1003), .val (.int v1004), .val (.int (0 : Int32)), .val (.int v1006), .val (.int v1008), .val (.int r2), .val (.ref b_1010), .val (.ref b1014), .val (.ref b1030), .val (.double (own_rc (0 : UInt64) v1008)), .second, .unset, .unset, .unset, .unset, .unset] [(.ref b1014)]))
      refine OEnds.st (fun _ k => XS.iload X1053.here hx rfl (hb hby at_169) rfl k) ?_
      show OEnds p.tables e below G (T1053.setTop (mkF m 171 #[.val (.int p1), .val (.int p2), .val (.int p3), .val (.int p4), .val (.int p5), .val (.int p6), .val (.int (0 : Int32)), .val (.int v1002), .val (.int v1003), .val (.int v1004), .val (.int (0 : Int32)), .val (.int v1006), .val (.int v1008), .val (.int r2), .val (.ref b_1010), .val (.ref b1014), .val (.ref b1030), .val (.double (own_rc (0 : UInt64) v1008)), .second, .unset, .unset, .unset, .unset, .unset] [(.int v1006), (.ref b1014)]))
      obtain ⟨cq1054, kq1054, q1054a, q1054b, q1054c⟩ := isOf hZ e1053 f1046
      obtain ⟨_, _, ⟨T1054, L1054, k1054c, n1054c⟩, -, X1054, ⟨Lc1054, hQ1054, l1054, y1054, z1054⟩, st1054⟩ := X1053.virtualBack hx (y := (⟨"com/example/words_to_weights/wordstoweights/evaluation/JudgedRanking", "recallAt", "(I)D"⟩ : MethodName)) (z := (⟨"com/example/words_to_weights/wordstoweights/evaluation/JudgedRanking", "recallAt", "(I)D"⟩ : MethodName)) hown (mvT hZ (hw _ (List.mem_of_getElem? (i := 31) rfl))) (mvT hZ (hw _ (List.mem_of_getElem? (i := 32) rfl))) (notFace_of_selects (args := #[]) (mvT hZ (hw _ (List.mem_of_getElem? (i := 34) rfl)))) (mvT hZ (hw _ (List.mem_of_getElem? (i := 34) rfl))) (mvT hZ (hw _ (List.mem_of_getElem? (i := 33) rfl))) (by decide) (backOf (W := 0) (rmra0 l Z a0 hw [] b1014 v1006 v1008 b_1010 kb_1010 T1040.heap n0 Z1040 f1046 f1047 f1048 f1045) hZ (hw _ (List.mem_of_getElem? (i := 35) rfl)) (hw _ (List.mem_of_getElem? (i := 13) rfl)) (by decide) (by decide)) q1054a q1054c (g := (mkF m 171 #[.val (.int p1), .val (.int p2), .val (.int p3), .val (.int p4), .val (.int p5), .val (.int p6), .val (.int (0 : Int32)), .val (.int v1002), .val (.int v1003), .val (.int v1004), .val (.int (0 : Int32)), .val (.int v1006), .val (.int v1008), .val (.int r2), .val (.ref b_1010), .val (.ref b1014), .val (.ref b1030), .val (.double (own_rc (0 : UInt64) v1008)), .second, .unset, .unset, .unset, .unset, .unset] [(.int v1006), (.ref b1014)])) rfl (by rw [hml]; rfl) (Steps.refl _) (argsL := [(.int v1006)]) (rest := []) (lenOf pd_5 rfl) rfl (by show 2 * 0 + _ ≤ _; exact Nat.le_of_eq rfl) (hb hby at_171) (fun _ _ => ⟨rfl, e1053, (by decide : 0 + 0 + 0 + 1 + 1 + 0 + 1 + 0 + 0 + 0 ≤ _), (by decide : 0 + 0 + 0 + 0 + 3 + 0 + 3 + 0 + 0 + 0 ≤ _)⟩)
      dsimp only [Pt.U, Pt.locs, Pt.cells, Pt.slots] at X1054 l1054 y1054 z1054 st1054 hQ1054
      subst l1054 y1054 z1054
      obtain ⟨rfl, N1054q, e1054⟩ := hQ1054
      have N1054 := Fr.app N1053 N1054q
      refine OEnds.st (fun _ k => st1054.trans k) ?_
      clear st1054
      show OEnds p.tables e below G (T1054.setTop (mkF m 174 #[.val (.int p1), .val (.int p2), .val (.int p3), .val (.int p4), .val (.int p5), .val (.int p6), .val (.int (0 : Int32)), .val (.int v1002), .val (.int v1003), .val (.int v1004), .val (.int (0 : Int32)), .val (.int v1006), .val (.int v1008), .val (.int r2), .val (.ref b_1010), .val (.ref b1014), .val (.ref b1030), .val (.double (own_rc (0 : UInt64) v1008)), .second, .unset, .unset, .unset, .unset, .unset] [(.double (own_rc (0 : UInt64) v1008))]))
      refine OEnds.st (fun _ k => XS.dstore X1054.here hx rfl (hb hby at_174) rfl (l' := #[.val (.int p1), .val (.int p2), .val (.int p3), .val (.int p4), .val (.int p5), .val (.int p6), .val (.int (0 : Int32)), .val (.int v1002), .val (.int v1003), .val (.int v1004), .val (.int (0 : Int32)), .val (.int v1006), .val (.int v1008), .val (.int r2), .val (.ref b_1010), .val (.ref b1014), .val (.ref b1030), .val (.double (own_rc (0 : UInt64) v1008)), .second, .val (.double (own_rc (0 : UInt64) v1008)), .second, .unset, .unset, .unset]) rfl k) ?_
      show OEnds p.tables e below G (T1054.setTop (mkF m 176 #[.val (.int p1), .val (.int p2), .val (.int p3), .val (.int p4), .val (.int p5), .val (.int p6), .val (.int (0 : Int32)), .val (.int v1002), .val (.int v1003), .val (.int v1004), .val (.int (0 : Int32)), .val (.int v1006), .val (.int v1008), .val (.int r2), .val (.ref b_1010), .val (.ref b1014), .val (.ref b1030), .val (.double (own_rc (0 : UInt64) v1008)), .second, .val (.double (own_rc (0 : UInt64) v1008)), .second, .unset, .unset, .unset] []))
      refine OEnds.st (fun _ k => XS.aload X1054.here hx rfl (hb hby at_176) rfl rfl k) ?_
      show OEnds p.tables e below G (T1054.setTop (mkF m 178 #[.val (.int p1), .val (.int p2), .val (.int p3), .val (.int p4), .val (.int p5), .val (.int p6), .val (.int (0 : Int32)), .val (.int v1002), .val (.int v1003), .val (.int v1004), .val (.int (0 : Int32)), .val (.int v1006), .val (.int v1008), .val (.int r2), .val (.ref b_1010), .val (.ref b1014), .val (.ref b1030), .val (.double (own_rc (0 : UInt64) v1008)), .second, .val (.double (own_rc (0 : UInt64) v1008)), .second, .unset, .unset, .unset] [(.ref b1030)]))
      obtain ⟨cq1055, kq1055, q1055a, q1055b, q1055c⟩ := isOf hZ e1054 p1042
      obtain ⟨_, _, ⟨T1055, L1055, k1055c, n1055c⟩, -, X1055, ⟨Lc1055, hQ1055, l1055, y1055, z1055⟩, st1055⟩ := X1054.virtualBack hx (y := (⟨"com/example/words_to_weights/wordstoweights/evaluation/JudgedRanking", "setRecall", "()D"⟩ : MethodName)) (z := (⟨"com/example/words_to_weights/wordstoweights/evaluation/JudgedRanking", "setRecall", "()D"⟩ : MethodName)) hown (mvT hZ (hw _ (List.mem_of_getElem? (i := 26) rfl))) (mvT hZ (hw _ (List.mem_of_getElem? (i := 27) rfl))) (notFace_of_selects (args := #[]) (mvT hZ (hw _ (List.mem_of_getElem? (i := 29) rfl)))) (mvT hZ (hw _ (List.mem_of_getElem? (i := 29) rfl))) (mvT hZ (hw _ (List.mem_of_getElem? (i := 28) rfl))) (by decide) (backOf (W := 0) (rmsr0 l Z a0 hw [] b1030 r2 b_1010 kb_1010 [] T1040.heap n0 Z1040 p1043 p1044 f1045) hZ (hw _ (List.mem_of_getElem? (i := 30) rfl)) (hw _ (List.mem_of_getElem? (i := 13) rfl)) (by decide) (by decide)) q1055a q1055c (g := (mkF m 178 #[.val (.int p1), .val (.int p2), .val (.int p3), .val (.int p4), .val (.int p5), .val (.int p6), .val (.int (0 : Int32)), .val (.int v1002), .val (.int v1003), .val (.int v1004), .val (.int (0 : Int32)), .val (.int v1006), .val (.int v1008), .val (.int r2), .val (.ref b_1010), .val (.ref b1014), .val (.ref b1030), .val (.double (own_rc (0 : UInt64) v1008)), .second, .val (.double (own_rc (0 : UInt64) v1008)), .second, .unset, .unset, .unset] [(.ref b1030)])) rfl (by rw [hml]; rfl) (Steps.refl _) (argsL := []) (rest := []) (lenOf pd_4 rfl) rfl (by show 2 * 0 + _ ≤ _; exact Nat.le_of_eq rfl) (hb hby at_178) (fun _ _ => ⟨rfl, e1054, (by decide : 0 + 0 + 0 + 1 + 1 + 0 + 1 + 0 + 0 + 0 + 0 ≤ _), (by decide : 0 + 0 + 0 + 0 + 3 + 0 + 3 + 0 + 0 + 0 + 0 ≤ _)⟩)
      dsimp only [Pt.U, Pt.locs, Pt.cells, Pt.slots] at X1055 l1055 y1055 z1055 st1055 hQ1055
      subst l1055 y1055 z1055
      obtain ⟨rfl, N1055q, e1055⟩ := hQ1055
      have N1055 := Fr.app N1054 N1055q
      refine OEnds.st (fun _ k => st1055.trans k) ?_
      clear st1055
      show OEnds p.tables e below G (T1055.setTop (mkF m 181 #[.val (.int p1), .val (.int p2), .val (.int p3), .val (.int p4), .val (.int p5), .val (.int p6), .val (.int (0 : Int32)), .val (.int v1002), .val (.int v1003), .val (.int v1004), .val (.int (0 : Int32)), .val (.int v1006), .val (.int v1008), .val (.int r2), .val (.ref b_1010), .val (.ref b1014), .val (.ref b1030), .val (.double (own_rc (0 : UInt64) v1008)), .second, .val (.double (own_rc (0 : UInt64) v1008)), .second, .unset, .unset, .unset] [(.double (own_rc (0 : UInt64) r2))]))
      refine OEnds.st (fun _ k => XS.dstore X1055.here hx rfl (hb hby at_181) rfl (l' := #[.val (.int p1), .val (.int p2), .val (.int p3), .val (.int p4), .val (.int p5), .val (.int p6), .val (.int (0 : Int32)), .val (.int v1002), .val (.int v1003), .val (.int v1004), .val (.int (0 : Int32)), .val (.int v1006), .val (.int v1008), .val (.int r2), .val (.ref b_1010), .val (.ref b1014), .val (.ref b1030), .val (.double (own_rc (0 : UInt64) v1008)), .second, .val (.double (own_rc (0 : UInt64) v1008)), .second, .val (.double (own_rc (0 : UInt64) r2)), .second, .unset]) rfl k) ?_
      obtain ⟨M1, hP1, hM1, hM2, hM3⟩ := own_R own_B0 (by decide) hrel
      show OEnds p.tables e below G (T1055.setTop (mkF m 183 #[.val (.int p1), .val (.int p2), .val (.int p3), .val (.int p4), .val (.int p5), .val (.int p6), .val (.int (0 : Int32)), .val (.int v1002), .val (.int v1003), .val (.int v1004), .val (.int (0 : Int32)), .val (.int v1006), .val (.int v1008), .val (.int r2), .val (.ref b_1010), .val (.ref b1014), .val (.ref b1030), .val (.double (own_rc (0 : UInt64) v1008)), .second, .val (.double (own_rc (0 : UInt64) v1008)), .second, .val (.double (own_rc (0 : UInt64) r2)), .second, .unset] []))
      refine OEnds.st (fun _ k => XS.dload X1055.here hx rfl (hb hby at_183) rfl k) ?_
      show OEnds p.tables e below G (T1055.setTop (mkF m 185 #[.val (.int p1), .val (.int p2), .val (.int p3), .val (.int p4), .val (.int p5), .val (.int p6), .val (.int (0 : Int32)), .val (.int v1002), .val (.int v1003), .val (.int v1004), .val (.int (0 : Int32)), .val (.int v1006), .val (.int v1008), .val (.int r2), .val (.ref b_1010), .val (.ref b1014), .val (.ref b1030), .val (.double (own_rc (0 : UInt64) v1008)), .second, .val (.double (own_rc (0 : UInt64) v1008)), .second, .val (.double (own_rc (0 : UInt64) r2)), .second, .unset] [(.double (own_rc (0 : UInt64) v1008))]))
      refine OEnds.st (fun _ k => XS.dload X1055.here hx rfl (hb hby at_185) rfl k) ?_
      show OEnds p.tables e below G (T1055.setTop (mkF m 187 #[.val (.int p1), .val (.int p2), .val (.int p3), .val (.int p4), .val (.int p5), .val (.int p6), .val (.int (0 : Int32)), .val (.int v1002), .val (.int v1003), .val (.int v1004), .val (.int (0 : Int32)), .val (.int v1006), .val (.int v1008), .val (.int r2), .val (.ref b_1010), .val (.ref b1014), .val (.ref b1030), .val (.double (own_rc (0 : UInt64) v1008)), .second, .val (.double (own_rc (0 : UInt64) v1008)), .second, .val (.double (own_rc (0 : UInt64) r2)), .second, .unset] [(.double (own_rc (0 : UInt64) v1008)), (.double (own_rc (0 : UInt64) v1008))]))
      refine OEnds.st (fun _ k => XS.dcmpS X1055.here hx rfl (hb hby at_187) rfl rfl k) ?_
      show OEnds p.tables e below G (T1055.setTop (mkF m 188 #[.val (.int p1), .val (.int p2), .val (.int p3), .val (.int p4), .val (.int p5), .val (.int p6), .val (.int (0 : Int32)), .val (.int v1002), .val (.int v1003), .val (.int v1004), .val (.int (0 : Int32)), .val (.int v1006), .val (.int v1008), .val (.int r2), .val (.ref b_1010), .val (.ref b1014), .val (.ref b1030), .val (.double (own_rc (0 : UInt64) v1008)), .second, .val (.double (own_rc (0 : UInt64) v1008)), .second, .val (.double (own_rc (0 : UInt64) r2)), .second, .unset] [(.int (cmpValue (FP.dcmp (own_rc (0 : UInt64) v1008) (own_rc (0 : UInt64) v1008)) .l))]))
      have hc188_1056 : (cmpValue (FP.dcmp (own_rc (0 : UInt64) v1008) (own_rc (0 : UInt64) v1008)) .l) = (0 : Int32) := (own_ceq hP1 hP1 .l).mpr rfl
      refine OEnds.st (fun _ k => XS.ifNo X1055.here hx rfl (hb hby at_188) rfl ((if0 _ _).trans (teq hc188_1056).2) k) ?_
      show OEnds p.tables e below G (T1055.setTop (mkF m 191 #[.val (.int p1), .val (.int p2), .val (.int p3), .val (.int p4), .val (.int p5), .val (.int p6), .val (.int (0 : Int32)), .val (.int v1002), .val (.int v1003), .val (.int v1004), .val (.int (0 : Int32)), .val (.int v1006), .val (.int v1008), .val (.int r2), .val (.ref b_1010), .val (.ref b1014), .val (.ref b1030), .val (.double (own_rc (0 : UInt64) v1008)), .second, .val (.double (own_rc (0 : UInt64) v1008)), .second, .val (.double (own_rc (0 : UInt64) r2)), .second, .unset] []))
      refine OEnds.st (fun _ k => XS.iconst X1055.here hx rfl (hb hby at_191) k) ?_
      show OEnds p.tables e below G (T1055.setTop (mkF m 192 #[.val (.int p1), .val (.int p2), .val (.int p3), .val (.int p4), .val (.int p5), .val (.int p6), .val (.int (0 : Int32)), .val (.int v1002), .val (.int v1003), .val (.int v1004), .val (.int (0 : Int32)), .val (.int v1006), .val (.int v1008), .val (.int r2), .val (.ref b_1010), .val (.ref b1014), .val (.ref b1030), .val (.double (own_rc (0 : UInt64) v1008)), .second, .val (.double (own_rc (0 : UInt64) v1008)), .second, .val (.double (own_rc (0 : UInt64) r2)), .second, .unset] [(.int (1 : Int32))]))
      refine OEnds.st (fun _ k => XS.goto X1055.here hx rfl (pc0 := 192) (pc' := 196) rfl (hb hby at_192) (by decide) (by decide) k) ?_
      show OEnds p.tables e below G (T1055.setTop (mkF m 196 #[.val (.int p1), .val (.int p2), .val (.int p3), .val (.int p4), .val (.int p5), .val (.int p6), .val (.int (0 : Int32)), .val (.int v1002), .val (.int v1003), .val (.int v1004), .val (.int (0 : Int32)), .val (.int v1006), .val (.int v1008), .val (.int r2), .val (.ref b_1010), .val (.ref b1014), .val (.ref b1030), .val (.double (own_rc (0 : UInt64) v1008)), .second, .val (.double (own_rc (0 : UInt64) v1008)), .second, .val (.double (own_rc (0 : UInt64) r2)), .second, .unset] [(.int (1 : Int32))]))
      refine OEnds.st (fun _ k => XS.istore X1055.here hx rfl (hb hby at_196) rfl (l' := #[.val (.int p1), .val (.int p2), .val (.int p3), .val (.int p4), .val (.int p5), .val (.int p6), .val (.int (0 : Int32)), .val (.int v1002), .val (.int v1003), .val (.int v1004), .val (.int (0 : Int32)), .val (.int v1006), .val (.int v1008), .val (.int r2), .val (.ref b_1010), .val (.ref b1014), .val (.ref b1030), .val (.double (own_rc (0 : UInt64) v1008)), .second, .val (.double (own_rc (0 : UInt64) v1008)), .second, .val (.double (own_rc (0 : UInt64) r2)), .second, .val (.int (1 : Int32))]) rfl k) ?_
      show OEnds p.tables e below G (T1055.setTop (mkF m 198 #[.val (.int p1), .val (.int p2), .val (.int p3), .val (.int p4), .val (.int p5), .val (.int p6), .val (.int (0 : Int32)), .val (.int v1002), .val (.int v1003), .val (.int v1004), .val (.int (0 : Int32)), .val (.int v1006), .val (.int v1008), .val (.int r2), .val (.ref b_1010), .val (.ref b1014), .val (.ref b1030), .val (.double (own_rc (0 : UInt64) v1008)), .second, .val (.double (own_rc (0 : UInt64) v1008)), .second, .val (.double (own_rc (0 : UInt64) r2)), .second, .val (.int (1 : Int32))] []))
      refine OEnds.st (fun _ k => XS.iload X1055.here hx rfl (hb hby at_198) rfl k) ?_
      show OEnds p.tables e below G (T1055.setTop (mkF m 200 #[.val (.int p1), .val (.int p2), .val (.int p3), .val (.int p4), .val (.int p5), .val (.int p6), .val (.int (0 : Int32)), .val (.int v1002), .val (.int v1003), .val (.int v1004), .val (.int (0 : Int32)), .val (.int v1006), .val (.int v1008), .val (.int r2), .val (.ref b_1010), .val (.ref b1014), .val (.ref b1030), .val (.double (own_rc (0 : UInt64) v1008)), .second, .val (.double (own_rc (0 : UInt64) v1008)), .second, .val (.double (own_rc (0 : UInt64) r2)), .second, .val (.int (1 : Int32))] [(.int (1 : Int32))]))
      refine OEnds.st (fun _ k => XS.ifNo X1055.here hx rfl (hb hby at_200) rfl ((if0 _ _).trans (feq (by decide : ¬ ((1 : Int32) = (0 : Int32)))).1) k) ?_
      show OEnds p.tables e below G (T1055.setTop (mkF m 203 #[.val (.int p1), .val (.int p2), .val (.int p3), .val (.int p4), .val (.int p5), .val (.int p6), .val (.int (0 : Int32)), .val (.int v1002), .val (.int v1003), .val (.int v1004), .val (.int (0 : Int32)), .val (.int v1006), .val (.int v1008), .val (.int r2), .val (.ref b_1010), .val (.ref b1014), .val (.ref b1030), .val (.double (own_rc (0 : UInt64) v1008)), .second, .val (.double (own_rc (0 : UInt64) v1008)), .second, .val (.double (own_rc (0 : UInt64) r2)), .second, .val (.int (1 : Int32))] []))
      refine OEnds.st (fun _ k => XS.dload X1055.here hx rfl (hb hby at_203) rfl k) ?_
      show OEnds p.tables e below G (T1055.setTop (mkF m 205 #[.val (.int p1), .val (.int p2), .val (.int p3), .val (.int p4), .val (.int p5), .val (.int p6), .val (.int (0 : Int32)), .val (.int v1002), .val (.int v1003), .val (.int v1004), .val (.int (0 : Int32)), .val (.int v1006), .val (.int v1008), .val (.int r2), .val (.ref b_1010), .val (.ref b1014), .val (.ref b1030), .val (.double (own_rc (0 : UInt64) v1008)), .second, .val (.double (own_rc (0 : UInt64) v1008)), .second, .val (.double (own_rc (0 : UInt64) r2)), .second, .val (.int (1 : Int32))] [(.double (own_rc (0 : UInt64) v1008))]))
      refine OEnds.st (fun _ k => XS.dconst0 X1055.here hx rfl (hb hby at_205) (v := (0 : UInt64)) rfl k) ?_
      show OEnds p.tables e below G (T1055.setTop (mkF m 206 #[.val (.int p1), .val (.int p2), .val (.int p3), .val (.int p4), .val (.int p5), .val (.int p6), .val (.int (0 : Int32)), .val (.int v1002), .val (.int v1003), .val (.int v1004), .val (.int (0 : Int32)), .val (.int v1006), .val (.int v1008), .val (.int r2), .val (.ref b_1010), .val (.ref b1014), .val (.ref b1030), .val (.double (own_rc (0 : UInt64) v1008)), .second, .val (.double (own_rc (0 : UInt64) v1008)), .second, .val (.double (own_rc (0 : UInt64) r2)), .second, .val (.int (1 : Int32))] [(.double (0 : UInt64)), (.double (own_rc (0 : UInt64) v1008))]))
      refine OEnds.st (fun _ k => XS.dcmpS X1055.here hx rfl (hb hby at_206) rfl rfl k) ?_
      show OEnds p.tables e below G (T1055.setTop (mkF m 207 #[.val (.int p1), .val (.int p2), .val (.int p3), .val (.int p4), .val (.int p5), .val (.int p6), .val (.int (0 : Int32)), .val (.int v1002), .val (.int v1003), .val (.int v1004), .val (.int (0 : Int32)), .val (.int v1006), .val (.int v1008), .val (.int r2), .val (.ref b_1010), .val (.ref b1014), .val (.ref b1030), .val (.double (own_rc (0 : UInt64) v1008)), .second, .val (.double (own_rc (0 : UInt64) v1008)), .second, .val (.double (own_rc (0 : UInt64) r2)), .second, .val (.int (1 : Int32))] [(.int (cmpValue (FP.dcmp (own_rc (0 : UInt64) v1008) (0 : UInt64)) .l))]))
      have hc207_1057 : ¬ ((cmpValue (FP.dcmp (own_rc (0 : UInt64) v1008) (0 : UInt64)) .l) < (0 : Int32)) := fun q => Nat.not_lt_zero _ ((own_clt hP1 own_Pz0 .l).mp q)
      refine OEnds.st (fun _ k => XS.ifNo X1055.here hx rfl (hb hby at_207) rfl ((if0 _ _).trans (flt hc207_1057).1) k) ?_
      show OEnds p.tables e below G (T1055.setTop (mkF m 210 #[.val (.int p1), .val (.int p2), .val (.int p3), .val (.int p4), .val (.int p5), .val (.int p6), .val (.int (0 : Int32)), .val (.int v1002), .val (.int v1003), .val (.int v1004), .val (.int (0 : Int32)), .val (.int v1006), .val (.int v1008), .val (.int r2), .val (.ref b_1010), .val (.ref b1014), .val (.ref b1030), .val (.double (own_rc (0 : UInt64) v1008)), .second, .val (.double (own_rc (0 : UInt64) v1008)), .second, .val (.double (own_rc (0 : UInt64) r2)), .second, .val (.int (1 : Int32))] []))
      refine OEnds.st (fun _ k => XS.dload X1055.here hx rfl (hb hby at_210) rfl k) ?_
      show OEnds p.tables e below G (T1055.setTop (mkF m 212 #[.val (.int p1), .val (.int p2), .val (.int p3), .val (.int p4), .val (.int p5), .val (.int p6), .val (.int (0 : Int32)), .val (.int v1002), .val (.int v1003), .val (.int v1004), .val (.int (0 : Int32)), .val (.int v1006), .val (.int v1008), .val (.int r2), .val (.ref b_1010), .val (.ref b1014), .val (.ref b1030), .val (.double (own_rc (0 : UInt64) v1008)), .second, .val (.double (own_rc (0 : UInt64) v1008)), .second, .val (.double (own_rc (0 : UInt64) r2)), .second, .val (.int (1 : Int32))] [(.double (own_rc (0 : UInt64) v1008))]))
      refine OEnds.st (fun _ k => XS.dconst1 X1055.here hx rfl (hb hby at_212) (v := (4607182418800017408 : UInt64)) rfl k) ?_
      show OEnds p.tables e below G (T1055.setTop (mkF m 213 #[.val (.int p1), .val (.int p2), .val (.int p3), .val (.int p4), .val (.int p5), .val (.int p6), .val (.int (0 : Int32)), .val (.int v1002), .val (.int v1003), .val (.int v1004), .val (.int (0 : Int32)), .val (.int v1006), .val (.int v1008), .val (.int r2), .val (.ref b_1010), .val (.ref b1014), .val (.ref b1030), .val (.double (own_rc (0 : UInt64) v1008)), .second, .val (.double (own_rc (0 : UInt64) v1008)), .second, .val (.double (own_rc (0 : UInt64) r2)), .second, .val (.int (1 : Int32))] [(.double (4607182418800017408 : UInt64)), (.double (own_rc (0 : UInt64) v1008))]))
      refine OEnds.st (fun _ k => XS.dcmpS X1055.here hx rfl (hb hby at_213) rfl rfl k) ?_
      show OEnds p.tables e below G (T1055.setTop (mkF m 214 #[.val (.int p1), .val (.int p2), .val (.int p3), .val (.int p4), .val (.int p5), .val (.int p6), .val (.int (0 : Int32)), .val (.int v1002), .val (.int v1003), .val (.int v1004), .val (.int (0 : Int32)), .val (.int v1006), .val (.int v1008), .val (.int r2), .val (.ref b_1010), .val (.ref b1014), .val (.ref b1030), .val (.double (own_rc (0 : UInt64) v1008)), .second, .val (.double (own_rc (0 : UInt64) v1008)), .second, .val (.double (own_rc (0 : UInt64) r2)), .second, .val (.int (1 : Int32))] [(.int (cmpValue (FP.dcmp (own_rc (0 : UInt64) v1008) (4607182418800017408 : UInt64)) .g))]))
      have hc214_1058 : ¬ ((0 : Int32) < (cmpValue (FP.dcmp (own_rc (0 : UInt64) v1008) (4607182418800017408 : UInt64)) .g)) := fun q => Nat.not_lt.mpr hM1 ((own_cgt hP1 own_B1 .g).mp q)
      refine OEnds.st (fun _ k => XS.ifNo X1055.here hx rfl (hb hby at_214) rfl ((if0 _ _).trans (flt hc214_1058).2.2.1) k) ?_
      show OEnds p.tables e below G (T1055.setTop (mkF m 217 #[.val (.int p1), .val (.int p2), .val (.int p3), .val (.int p4), .val (.int p5), .val (.int p6), .val (.int (0 : Int32)), .val (.int v1002), .val (.int v1003), .val (.int v1004), .val (.int (0 : Int32)), .val (.int v1006), .val (.int v1008), .val (.int r2), .val (.ref b_1010), .val (.ref b1014), .val (.ref b1030), .val (.double (own_rc (0 : UInt64) v1008)), .second, .val (.double (own_rc (0 : UInt64) v1008)), .second, .val (.double (own_rc (0 : UInt64) r2)), .second, .val (.int (1 : Int32))] []))
      refine OEnds.st (fun _ k => XS.iconst X1055.here hx rfl (hb hby at_217) k) ?_
      show OEnds p.tables e below G (T1055.setTop (mkF m 218 #[.val (.int p1), .val (.int p2), .val (.int p3), .val (.int p4), .val (.int p5), .val (.int p6), .val (.int (0 : Int32)), .val (.int v1002), .val (.int v1003), .val (.int v1004), .val (.int (0 : Int32)), .val (.int v1006), .val (.int v1008), .val (.int r2), .val (.ref b_1010), .val (.ref b1014), .val (.ref b1030), .val (.double (own_rc (0 : UInt64) v1008)), .second, .val (.double (own_rc (0 : UInt64) v1008)), .second, .val (.double (own_rc (0 : UInt64) r2)), .second, .val (.int (1 : Int32))] [(.int (1 : Int32))]))
      refine OEnds.st (fun _ k => XS.goto X1055.here hx rfl (pc0 := 218) (pc' := 222) rfl (hb hby at_218) (by decide) (by decide) k) ?_
      show OEnds p.tables e below G (T1055.setTop (mkF m 222 #[.val (.int p1), .val (.int p2), .val (.int p3), .val (.int p4), .val (.int p5), .val (.int p6), .val (.int (0 : Int32)), .val (.int v1002), .val (.int v1003), .val (.int v1004), .val (.int (0 : Int32)), .val (.int v1006), .val (.int v1008), .val (.int r2), .val (.ref b_1010), .val (.ref b1014), .val (.ref b1030), .val (.double (own_rc (0 : UInt64) v1008)), .second, .val (.double (own_rc (0 : UInt64) v1008)), .second, .val (.double (own_rc (0 : UInt64) r2)), .second, .val (.int (1 : Int32))] [(.int (1 : Int32))]))
      refine OEnds.st (fun _ k => XS.istore X1055.here hx rfl (hb hby at_222) rfl (l' := #[.val (.int p1), .val (.int p2), .val (.int p3), .val (.int p4), .val (.int p5), .val (.int p6), .val (.int (0 : Int32)), .val (.int v1002), .val (.int v1003), .val (.int v1004), .val (.int (0 : Int32)), .val (.int v1006), .val (.int v1008), .val (.int r2), .val (.ref b_1010), .val (.ref b1014), .val (.ref b1030), .val (.double (own_rc (0 : UInt64) v1008)), .second, .val (.double (own_rc (0 : UInt64) v1008)), .second, .val (.double (own_rc (0 : UInt64) r2)), .second, .val (.int (1 : Int32))]) rfl k) ?_
      show OEnds p.tables e below G (T1055.setTop (mkF m 224 #[.val (.int p1), .val (.int p2), .val (.int p3), .val (.int p4), .val (.int p5), .val (.int p6), .val (.int (0 : Int32)), .val (.int v1002), .val (.int v1003), .val (.int v1004), .val (.int (0 : Int32)), .val (.int v1006), .val (.int v1008), .val (.int r2), .val (.ref b_1010), .val (.ref b1014), .val (.ref b1030), .val (.double (own_rc (0 : UInt64) v1008)), .second, .val (.double (own_rc (0 : UInt64) v1008)), .second, .val (.double (own_rc (0 : UInt64) r2)), .second, .val (.int (1 : Int32))] []))
      refine OEnds.st (fun _ k => XS.iload X1055.here hx rfl (hb hby at_224) rfl k) ?_
      show OEnds p.tables e below G (T1055.setTop (mkF m 226 #[.val (.int p1), .val (.int p2), .val (.int p3), .val (.int p4), .val (.int p5), .val (.int p6), .val (.int (0 : Int32)), .val (.int v1002), .val (.int v1003), .val (.int v1004), .val (.int (0 : Int32)), .val (.int v1006), .val (.int v1008), .val (.int r2), .val (.ref b_1010), .val (.ref b1014), .val (.ref b1030), .val (.double (own_rc (0 : UInt64) v1008)), .second, .val (.double (own_rc (0 : UInt64) v1008)), .second, .val (.double (own_rc (0 : UInt64) r2)), .second, .val (.int (1 : Int32))] [(.int (1 : Int32))]))
      refine OEnds.st (fun _ k => XS.ifNo X1055.here hx rfl (hb hby at_226) rfl ((if0 _ _).trans (feq (by decide : ¬ ((1 : Int32) = (0 : Int32)))).1) k) ?_
      show OEnds p.tables e below G (T1055.setTop (mkF m 229 #[.val (.int p1), .val (.int p2), .val (.int p3), .val (.int p4), .val (.int p5), .val (.int p6), .val (.int (0 : Int32)), .val (.int v1002), .val (.int v1003), .val (.int v1004), .val (.int (0 : Int32)), .val (.int v1006), .val (.int v1008), .val (.int r2), .val (.ref b_1010), .val (.ref b1014), .val (.ref b1030), .val (.double (own_rc (0 : UInt64) v1008)), .second, .val (.double (own_rc (0 : UInt64) v1008)), .second, .val (.double (own_rc (0 : UInt64) r2)), .second, .val (.int (1 : Int32))] []))
      refine OEnds.st (fun _ k => XS.dload X1055.here hx rfl (hb hby at_229) rfl k) ?_
      show OEnds p.tables e below G (T1055.setTop (mkF m 231 #[.val (.int p1), .val (.int p2), .val (.int p3), .val (.int p4), .val (.int p5), .val (.int p6), .val (.int (0 : Int32)), .val (.int v1002), .val (.int v1003), .val (.int v1004), .val (.int (0 : Int32)), .val (.int v1006), .val (.int v1008), .val (.int r2), .val (.ref b_1010), .val (.ref b1014), .val (.ref b1030), .val (.double (own_rc (0 : UInt64) v1008)), .second, .val (.double (own_rc (0 : UInt64) v1008)), .second, .val (.double (own_rc (0 : UInt64) r2)), .second, .val (.int (1 : Int32))] [(.double (own_rc (0 : UInt64) v1008))]))
      refine OEnds.st (fun _ k => XS.dconst0 X1055.here hx rfl (hb hby at_231) (v := (0 : UInt64)) rfl k) ?_
      show OEnds p.tables e below G (T1055.setTop (mkF m 232 #[.val (.int p1), .val (.int p2), .val (.int p3), .val (.int p4), .val (.int p5), .val (.int p6), .val (.int (0 : Int32)), .val (.int v1002), .val (.int v1003), .val (.int v1004), .val (.int (0 : Int32)), .val (.int v1006), .val (.int v1008), .val (.int r2), .val (.ref b_1010), .val (.ref b1014), .val (.ref b1030), .val (.double (own_rc (0 : UInt64) v1008)), .second, .val (.double (own_rc (0 : UInt64) v1008)), .second, .val (.double (own_rc (0 : UInt64) r2)), .second, .val (.int (1 : Int32))] [(.double (0 : UInt64)), (.double (own_rc (0 : UInt64) v1008))]))
      refine OEnds.st (fun _ k => XS.dcmpS X1055.here hx rfl (hb hby at_232) rfl rfl k) ?_
      show OEnds p.tables e below G (T1055.setTop (mkF m 233 #[.val (.int p1), .val (.int p2), .val (.int p3), .val (.int p4), .val (.int p5), .val (.int p6), .val (.int (0 : Int32)), .val (.int v1002), .val (.int v1003), .val (.int v1004), .val (.int (0 : Int32)), .val (.int v1006), .val (.int v1008), .val (.int r2), .val (.ref b_1010), .val (.ref b1014), .val (.ref b1030), .val (.double (own_rc (0 : UInt64) v1008)), .second, .val (.double (own_rc (0 : UInt64) v1008)), .second, .val (.double (own_rc (0 : UInt64) r2)), .second, .val (.int (1 : Int32))] [(.int (cmpValue (FP.dcmp (own_rc (0 : UInt64) v1008) (0 : UInt64)) .l))]))
      have hc233_1059 : (cmpValue (FP.dcmp (own_rc (0 : UInt64) v1008) (0 : UInt64)) .l) = (0 : Int32) := (own_ceq hP1 own_Pz0 .l).mpr (hM2.mpr rfl)
      refine OEnds.st (fun _ k => XS.ifNo X1055.here hx rfl (hb hby at_233) rfl ((if0 _ _).trans (teq hc233_1059).2) k) ?_
      show OEnds p.tables e below G (T1055.setTop (mkF m 236 #[.val (.int p1), .val (.int p2), .val (.int p3), .val (.int p4), .val (.int p5), .val (.int p6), .val (.int (0 : Int32)), .val (.int v1002), .val (.int v1003), .val (.int v1004), .val (.int (0 : Int32)), .val (.int v1006), .val (.int v1008), .val (.int r2), .val (.ref b_1010), .val (.ref b1014), .val (.ref b1030), .val (.double (own_rc (0 : UInt64) v1008)), .second, .val (.double (own_rc (0 : UInt64) v1008)), .second, .val (.double (own_rc (0 : UInt64) r2)), .second, .val (.int (1 : Int32))] []))
      refine OEnds.st (fun _ k => XS.iconst X1055.here hx rfl (hb hby at_236) k) ?_
      show OEnds p.tables e below G (T1055.setTop (mkF m 237 #[.val (.int p1), .val (.int p2), .val (.int p3), .val (.int p4), .val (.int p5), .val (.int p6), .val (.int (0 : Int32)), .val (.int v1002), .val (.int v1003), .val (.int v1004), .val (.int (0 : Int32)), .val (.int v1006), .val (.int v1008), .val (.int r2), .val (.ref b_1010), .val (.ref b1014), .val (.ref b1030), .val (.double (own_rc (0 : UInt64) v1008)), .second, .val (.double (own_rc (0 : UInt64) v1008)), .second, .val (.double (own_rc (0 : UInt64) r2)), .second, .val (.int (1 : Int32))] [(.int (1 : Int32))]))
      refine OEnds.st (fun _ k => XS.goto X1055.here hx rfl (pc0 := 237) (pc' := 241) rfl (hb hby at_237) (by decide) (by decide) k) ?_
      show OEnds p.tables e below G (T1055.setTop (mkF m 241 #[.val (.int p1), .val (.int p2), .val (.int p3), .val (.int p4), .val (.int p5), .val (.int p6), .val (.int (0 : Int32)), .val (.int v1002), .val (.int v1003), .val (.int v1004), .val (.int (0 : Int32)), .val (.int v1006), .val (.int v1008), .val (.int r2), .val (.ref b_1010), .val (.ref b1014), .val (.ref b1030), .val (.double (own_rc (0 : UInt64) v1008)), .second, .val (.double (own_rc (0 : UInt64) v1008)), .second, .val (.double (own_rc (0 : UInt64) r2)), .second, .val (.int (1 : Int32))] [(.int (1 : Int32))]))
      refine OEnds.st (fun _ k => XS.iload X1055.here hx rfl (hb hby at_241) rfl k) ?_
      show OEnds p.tables e below G (T1055.setTop (mkF m 243 #[.val (.int p1), .val (.int p2), .val (.int p3), .val (.int p4), .val (.int p5), .val (.int p6), .val (.int (0 : Int32)), .val (.int v1002), .val (.int v1003), .val (.int v1004), .val (.int (0 : Int32)), .val (.int v1006), .val (.int v1008), .val (.int r2), .val (.ref b_1010), .val (.ref b1014), .val (.ref b1030), .val (.double (own_rc (0 : UInt64) v1008)), .second, .val (.double (own_rc (0 : UInt64) v1008)), .second, .val (.double (own_rc (0 : UInt64) r2)), .second, .val (.int (1 : Int32))] [(.int (0 : Int32)), (.int (1 : Int32))]))
      refine OEnds.st (fun _ k => XS.ifYes X1055.here hx rfl (pc0 := 243) (pc' := 251) rfl (hb hby at_243) rfl ((if0 _ _).trans (teq (by decide : (0 : Int32) = (0 : Int32))).1) (by decide) (by decide) k) ?_
      show OEnds p.tables e below G (T1055.setTop (mkF m 251 #[.val (.int p1), .val (.int p2), .val (.int p3), .val (.int p4), .val (.int p5), .val (.int p6), .val (.int (0 : Int32)), .val (.int v1002), .val (.int v1003), .val (.int v1004), .val (.int (0 : Int32)), .val (.int v1006), .val (.int v1008), .val (.int r2), .val (.ref b_1010), .val (.ref b1014), .val (.ref b1030), .val (.double (own_rc (0 : UInt64) v1008)), .second, .val (.double (own_rc (0 : UInt64) v1008)), .second, .val (.double (own_rc (0 : UInt64) r2)), .second, .val (.int (1 : Int32))] [(.int (1 : Int32))]))
      refine OEnds.st (fun _ k => XS.iconst X1055.here hx rfl (hb hby at_251) k) ?_
      show OEnds p.tables e below G (T1055.setTop (mkF m 252 #[.val (.int p1), .val (.int p2), .val (.int p3), .val (.int p4), .val (.int p5), .val (.int p6), .val (.int (0 : Int32)), .val (.int v1002), .val (.int v1003), .val (.int v1004), .val (.int (0 : Int32)), .val (.int v1006), .val (.int v1008), .val (.int r2), .val (.ref b_1010), .val (.ref b1014), .val (.ref b1030), .val (.double (own_rc (0 : UInt64) v1008)), .second, .val (.double (own_rc (0 : UInt64) v1008)), .second, .val (.double (own_rc (0 : UInt64) r2)), .second, .val (.int (1 : Int32))] [(.int (1 : Int32)), (.int (1 : Int32))]))
      refine OEnds.st (fun _ k => XS.goto X1055.here hx rfl (pc0 := 252) (pc' := 256) rfl (hb hby at_252) (by decide) (by decide) k) ?_
      show OEnds p.tables e below G (T1055.setTop (mkF m 256 #[.val (.int p1), .val (.int p2), .val (.int p3), .val (.int p4), .val (.int p5), .val (.int p6), .val (.int (0 : Int32)), .val (.int v1002), .val (.int v1003), .val (.int v1004), .val (.int (0 : Int32)), .val (.int v1006), .val (.int v1008), .val (.int r2), .val (.ref b_1010), .val (.ref b1014), .val (.ref b1030), .val (.double (own_rc (0 : UInt64) v1008)), .second, .val (.double (own_rc (0 : UInt64) v1008)), .second, .val (.double (own_rc (0 : UInt64) r2)), .second, .val (.int (1 : Int32))] [(.int (1 : Int32)), (.int (1 : Int32))]))
      refine OEnds.st (fun _ k => XS.icmpNo X1055.here hx rfl (hb hby at_256) rfl (teq (by decide : (1 : Int32) = (1 : Int32))).2 k) ?_
      show OEnds p.tables e below G (T1055.setTop (mkF m 259 #[.val (.int p1), .val (.int p2), .val (.int p3), .val (.int p4), .val (.int p5), .val (.int p6), .val (.int (0 : Int32)), .val (.int v1002), .val (.int v1003), .val (.int v1004), .val (.int (0 : Int32)), .val (.int v1006), .val (.int v1008), .val (.int r2), .val (.ref b_1010), .val (.ref b1014), .val (.ref b1030), .val (.double (own_rc (0 : UInt64) v1008)), .second, .val (.double (own_rc (0 : UInt64) v1008)), .second, .val (.double (own_rc (0 : UInt64) r2)), .second, .val (.int (1 : Int32))] []))
      refine OEnds.st (fun _ k => XS.iconst X1055.here hx rfl (hb hby at_259) k) ?_
      show OEnds p.tables e below G (T1055.setTop (mkF m 260 #[.val (.int p1), .val (.int p2), .val (.int p3), .val (.int p4), .val (.int p5), .val (.int p6), .val (.int (0 : Int32)), .val (.int v1002), .val (.int v1003), .val (.int v1004), .val (.int (0 : Int32)), .val (.int v1006), .val (.int v1008), .val (.int r2), .val (.ref b_1010), .val (.ref b1014), .val (.ref b1030), .val (.double (own_rc (0 : UInt64) v1008)), .second, .val (.double (own_rc (0 : UInt64) v1008)), .second, .val (.double (own_rc (0 : UInt64) r2)), .second, .val (.int (1 : Int32))] [(.int (1 : Int32))]))
      refine OEnds.st (fun _ k => XS.goto X1055.here hx rfl (pc0 := 260) (pc' := 264) rfl (hb hby at_260) (by decide) (by decide) k) ?_
      show OEnds p.tables e below G (T1055.setTop (mkF m 264 #[.val (.int p1), .val (.int p2), .val (.int p3), .val (.int p4), .val (.int p5), .val (.int p6), .val (.int (0 : Int32)), .val (.int v1002), .val (.int v1003), .val (.int v1004), .val (.int (0 : Int32)), .val (.int v1006), .val (.int v1008), .val (.int r2), .val (.ref b_1010), .val (.ref b1014), .val (.ref b1030), .val (.double (own_rc (0 : UInt64) v1008)), .second, .val (.double (own_rc (0 : UInt64) v1008)), .second, .val (.double (own_rc (0 : UInt64) r2)), .second, .val (.int (1 : Int32))] [(.int (1 : Int32))]))
      refine OEnds.st (fun _ k => XS.istore X1055.here hx rfl (hb hby at_264) rfl (l' := #[.val (.int p1), .val (.int p2), .val (.int p3), .val (.int p4), .val (.int p5), .val (.int p6), .val (.int (0 : Int32)), .val (.int v1002), .val (.int v1003), .val (.int v1004), .val (.int (0 : Int32)), .val (.int v1006), .val (.int v1008), .val (.int r2), .val (.ref b_1010), .val (.ref b1014), .val (.ref b1030), .val (.double (own_rc (0 : UInt64) v1008)), .second, .val (.double (own_rc (0 : UInt64) v1008)), .second, .val (.double (own_rc (0 : UInt64) r2)), .second, .val (.int (1 : Int32))]) rfl k) ?_
      show OEnds p.tables e below G (T1055.setTop (mkF m 266 #[.val (.int p1), .val (.int p2), .val (.int p3), .val (.int p4), .val (.int p5), .val (.int p6), .val (.int (0 : Int32)), .val (.int v1002), .val (.int v1003), .val (.int v1004), .val (.int (0 : Int32)), .val (.int v1006), .val (.int v1008), .val (.int r2), .val (.ref b_1010), .val (.ref b1014), .val (.ref b1030), .val (.double (own_rc (0 : UInt64) v1008)), .second, .val (.double (own_rc (0 : UInt64) v1008)), .second, .val (.double (own_rc (0 : UInt64) r2)), .second, .val (.int (1 : Int32))] []))
      refine OEnds.st (fun _ k => XS.iload X1055.here hx rfl (hb hby at_266) rfl k) ?_
      show OEnds p.tables e below G (T1055.setTop (mkF m 268 #[.val (.int p1), .val (.int p2), .val (.int p3), .val (.int p4), .val (.int p5), .val (.int p6), .val (.int (0 : Int32)), .val (.int v1002), .val (.int v1003), .val (.int v1004), .val (.int (0 : Int32)), .val (.int v1006), .val (.int v1008), .val (.int r2), .val (.ref b_1010), .val (.ref b1014), .val (.ref b1030), .val (.double (own_rc (0 : UInt64) v1008)), .second, .val (.double (own_rc (0 : UInt64) v1008)), .second, .val (.double (own_rc (0 : UInt64) r2)), .second, .val (.int (1 : Int32))] [(.int (1 : Int32))]))
      refine OEnds.st (fun _ k => XS.ifNo X1055.here hx rfl (hb hby at_268) rfl ((if0 _ _).trans (feq (by decide : ¬ ((1 : Int32) = (0 : Int32)))).1) k) ?_
      have rest308_1060 :  OEnds p.tables e below G (T1055.setTop (mkF m 308 #[.val (.int p1), .val (.int p2), .val (.int p3), .val (.int p4), .val (.int p5), .val (.int p6), .val (.int (0 : Int32)), .val (.int v1002), .val (.int v1003), .val (.int v1004), .val (.int (0 : Int32)), .val (.int v1006), .val (.int v1008), .val (.int r2), .val (.ref b_1010), .val (.ref b1014), .val (.ref b1030), .val (.double (own_rc (0 : UInt64) v1008)), .second, .val (.double (own_rc (0 : UInt64) v1008)), .second, .val (.double (own_rc (0 : UInt64) r2)), .second, .val (.int (1 : Int32))] [(.int (1 : Int32))])) := by
        show OEnds p.tables e below G (T1055.setTop (mkF m 308 #[.val (.int p1), .val (.int p2), .val (.int p3), .val (.int p4), .val (.int p5), .val (.int p6), .val (.int (0 : Int32)), .val (.int v1002), .val (.int v1003), .val (.int v1004), .val (.int (0 : Int32)), .val (.int v1006), .val (.int v1008), .val (.int r2), .val (.ref b_1010), .val (.ref b1014), .val (.ref b1030), .val (.double (own_rc (0 : UInt64) v1008)), .second, .val (.double (own_rc (0 : UInt64) v1008)), .second, .val (.double (own_rc (0 : UInt64) r2)), .second, .val (.int (1 : Int32))] [(.int (1 : Int32))]))
        refine OEnds.st (fun _ k => XS.istore X1055.here hx rfl (hb hby at_308) rfl (l' := #[.val (.int p1), .val (.int p2), .val (.int p3), .val (.int p4), .val (.int p5), .val (.int p6), .val (.int (0 : Int32)), .val (.int v1002), .val (.int v1003), .val (.int v1004), .val (.int (0 : Int32)), .val (.int v1006), .val (.int v1008), .val (.int r2), .val (.ref b_1010), .val (.ref b1014), .val (.ref b1030), .val (.double (own_rc (0 : UInt64) v1008)), .second, .val (.double (own_rc (0 : UInt64) v1008)), .second, .val (.double (own_rc (0 : UInt64) r2)), .second, .val (.int (1 : Int32))]) rfl k) ?_
        rcases hR2 with hm | ⟨hm, hi2⟩
        ·
          show OEnds p.tables e below G (T1055.setTop (mkF m 310 #[.val (.int p1), .val (.int p2), .val (.int p3), .val (.int p4), .val (.int p5), .val (.int p6), .val (.int (0 : Int32)), .val (.int v1002), .val (.int v1003), .val (.int v1004), .val (.int (0 : Int32)), .val (.int v1006), .val (.int v1008), .val (.int r2), .val (.ref b_1010), .val (.ref b1014), .val (.ref b1030), .val (.double (own_rc (0 : UInt64) v1008)), .second, .val (.double (own_rc (0 : UInt64) v1008)), .second, .val (.double (own_rc (0 : UInt64) r2)), .second, .val (.int (1 : Int32))] []))
          refine OEnds.st (fun _ k => XS.iload X1055.here hx rfl (hb hby at_310) rfl k) ?_
          show OEnds p.tables e below G (T1055.setTop (mkF m 312 #[.val (.int p1), .val (.int p2), .val (.int p3), .val (.int p4), .val (.int p5), .val (.int p6), .val (.int (0 : Int32)), .val (.int v1002), .val (.int v1003), .val (.int v1004), .val (.int (0 : Int32)), .val (.int v1006), .val (.int v1008), .val (.int r2), .val (.ref b_1010), .val (.ref b1014), .val (.ref b1030), .val (.double (own_rc (0 : UInt64) v1008)), .second, .val (.double (own_rc (0 : UInt64) v1008)), .second, .val (.double (own_rc (0 : UInt64) r2)), .second, .val (.int (1 : Int32))] [(.int v1008)]))
          refine OEnds.st (X1055.ldcInt hx hown (mvT hZ (hw _ (List.mem_of_getElem? (i := 5) rfl))) (g := (mkF m 312 #[.val (.int p1), .val (.int p2), .val (.int p3), .val (.int p4), .val (.int p5), .val (.int p6), .val (.int (0 : Int32)), .val (.int v1002), .val (.int v1003), .val (.int v1004), .val (.int (0 : Int32)), .val (.int v1006), .val (.int v1008), .val (.int r2), .val (.ref b_1010), .val (.ref b1014), .val (.ref b1030), .val (.double (own_rc (0 : UInt64) v1008)), .second, .val (.double (own_rc (0 : UInt64) v1008)), .second, .val (.double (own_rc (0 : UInt64) r2)), .second, .val (.int (1 : Int32))] [(.int v1008)])) rfl (hb hby at_312)) ?_
          show OEnds p.tables e below G (T1055.setTop (mkF m 314 #[.val (.int p1), .val (.int p2), .val (.int p3), .val (.int p4), .val (.int p5), .val (.int p6), .val (.int (0 : Int32)), .val (.int v1002), .val (.int v1003), .val (.int v1004), .val (.int (0 : Int32)), .val (.int v1006), .val (.int v1008), .val (.int r2), .val (.ref b_1010), .val (.ref b1014), .val (.ref b1030), .val (.double (own_rc (0 : UInt64) v1008)), .second, .val (.double (own_rc (0 : UInt64) v1008)), .second, .val (.double (own_rc (0 : UInt64) r2)), .second, .val (.int (1 : Int32))] [(.int (2147483647 : Int32)), (.int v1008)]))
          have hc314_1061 : ¬ (v1008 < (2147483647 : Int32)) := own_gtM hm
          refine OEnds.st (fun _ k => XS.icmpYes X1055.here hx rfl (pc0 := 314) (pc' := 371) rfl (hb hby at_314) rfl (flt hc314_1061).2.1 (by decide) (by decide) k) ?_
          show OEnds p.tables e below G (T1055.setTop (mkF m 371 #[.val (.int p1), .val (.int p2), .val (.int p3), .val (.int p4), .val (.int p5), .val (.int p6), .val (.int (0 : Int32)), .val (.int v1002), .val (.int v1003), .val (.int v1004), .val (.int (0 : Int32)), .val (.int v1006), .val (.int v1008), .val (.int r2), .val (.ref b_1010), .val (.ref b1014), .val (.ref b1030), .val (.double (own_rc (0 : UInt64) v1008)), .second, .val (.double (own_rc (0 : UInt64) v1008)), .second, .val (.double (own_rc (0 : UInt64) r2)), .second, .val (.int (1 : Int32))] []))
          refine OEnds.st (fun _ k => XS.iload X1055.here hx rfl (hb hby at_371) rfl k) ?_
          show OEnds p.tables e below G (T1055.setTop (mkF m 373 #[.val (.int p1), .val (.int p2), .val (.int p3), .val (.int p4), .val (.int p5), .val (.int p6), .val (.int (0 : Int32)), .val (.int v1002), .val (.int v1003), .val (.int v1004), .val (.int (0 : Int32)), .val (.int v1006), .val (.int v1008), .val (.int r2), .val (.ref b_1010), .val (.ref b1014), .val (.ref b1030), .val (.double (own_rc (0 : UInt64) v1008)), .second, .val (.double (own_rc (0 : UInt64) v1008)), .second, .val (.double (own_rc (0 : UInt64) r2)), .second, .val (.int (1 : Int32))] [(.int (1 : Int32))]))
          rw [← hG]
          refine OEnds.retZ X1055 hx hlk Bd.returns rfl (hb hby at_373) (by decide) (by decide) ?_
          rw [e1055]
          exact ⟨rfl, N1055⟩
        ·
          obtain ⟨M2, hP2, -, hN2, -⟩ := own_R (rel := r2) own_B0 (by decide) (by omega)
          show OEnds p.tables e below G (T1055.setTop (mkF m 310 #[.val (.int p1), .val (.int p2), .val (.int p3), .val (.int p4), .val (.int p5), .val (.int p6), .val (.int (0 : Int32)), .val (.int v1002), .val (.int v1003), .val (.int v1004), .val (.int (0 : Int32)), .val (.int v1006), .val (.int v1008), .val (.int r2), .val (.ref b_1010), .val (.ref b1014), .val (.ref b1030), .val (.double (own_rc (0 : UInt64) v1008)), .second, .val (.double (own_rc (0 : UInt64) v1008)), .second, .val (.double (own_rc (0 : UInt64) r2)), .second, .val (.int (1 : Int32))] []))
          refine OEnds.st (fun _ k => XS.iload X1055.here hx rfl (hb hby at_310) rfl k) ?_
          show OEnds p.tables e below G (T1055.setTop (mkF m 312 #[.val (.int p1), .val (.int p2), .val (.int p3), .val (.int p4), .val (.int p5), .val (.int p6), .val (.int (0 : Int32)), .val (.int v1002), .val (.int v1003), .val (.int v1004), .val (.int (0 : Int32)), .val (.int v1006), .val (.int v1008), .val (.int r2), .val (.ref b_1010), .val (.ref b1014), .val (.ref b1030), .val (.double (own_rc (0 : UInt64) v1008)), .second, .val (.double (own_rc (0 : UInt64) v1008)), .second, .val (.double (own_rc (0 : UInt64) r2)), .second, .val (.int (1 : Int32))] [(.int v1008)]))
          refine OEnds.st (X1055.ldcInt hx hown (mvT hZ (hw _ (List.mem_of_getElem? (i := 5) rfl))) (g := (mkF m 312 #[.val (.int p1), .val (.int p2), .val (.int p3), .val (.int p4), .val (.int p5), .val (.int p6), .val (.int (0 : Int32)), .val (.int v1002), .val (.int v1003), .val (.int v1004), .val (.int (0 : Int32)), .val (.int v1006), .val (.int v1008), .val (.int r2), .val (.ref b_1010), .val (.ref b1014), .val (.ref b1030), .val (.double (own_rc (0 : UInt64) v1008)), .second, .val (.double (own_rc (0 : UInt64) v1008)), .second, .val (.double (own_rc (0 : UInt64) r2)), .second, .val (.int (1 : Int32))] [(.int v1008)])) rfl (hb hby at_312)) ?_
          show OEnds p.tables e below G (T1055.setTop (mkF m 314 #[.val (.int p1), .val (.int p2), .val (.int p3), .val (.int p4), .val (.int p5), .val (.int p6), .val (.int (0 : Int32)), .val (.int v1002), .val (.int v1003), .val (.int v1004), .val (.int (0 : Int32)), .val (.int v1006), .val (.int v1008), .val (.int r2), .val (.ref b_1010), .val (.ref b1014), .val (.ref b1030), .val (.double (own_rc (0 : UInt64) v1008)), .second, .val (.double (own_rc (0 : UInt64) v1008)), .second, .val (.double (own_rc (0 : UInt64) r2)), .second, .val (.int (1 : Int32))] [(.int (2147483647 : Int32)), (.int v1008)]))
          have hc314_1062 : v1008 < (2147483647 : Int32) := own_ltM hm
          refine OEnds.st (fun _ k => XS.icmpNo X1055.here hx rfl (hb hby at_314) rfl (tlt hc314_1062).2.1 k) ?_
          show OEnds p.tables e below G (T1055.setTop (mkF m 317 #[.val (.int p1), .val (.int p2), .val (.int p3), .val (.int p4), .val (.int p5), .val (.int p6), .val (.int (0 : Int32)), .val (.int v1002), .val (.int v1003), .val (.int v1004), .val (.int (0 : Int32)), .val (.int v1006), .val (.int v1008), .val (.int r2), .val (.ref b_1010), .val (.ref b1014), .val (.ref b1030), .val (.double (own_rc (0 : UInt64) v1008)), .second, .val (.double (own_rc (0 : UInt64) v1008)), .second, .val (.double (own_rc (0 : UInt64) r2)), .second, .val (.int (1 : Int32))] []))
          refine OEnds.st (fun _ k => XS.iload X1055.here hx rfl (hb hby at_317) rfl k) ?_
          show OEnds p.tables e below G (T1055.setTop (mkF m 319 #[.val (.int p1), .val (.int p2), .val (.int p3), .val (.int p4), .val (.int p5), .val (.int p6), .val (.int (0 : Int32)), .val (.int v1002), .val (.int v1003), .val (.int v1004), .val (.int (0 : Int32)), .val (.int v1006), .val (.int v1008), .val (.int r2), .val (.ref b_1010), .val (.ref b1014), .val (.ref b1030), .val (.double (own_rc (0 : UInt64) v1008)), .second, .val (.double (own_rc (0 : UInt64) v1008)), .second, .val (.double (own_rc (0 : UInt64) r2)), .second, .val (.int (1 : Int32))] [(.int (0 : Int32))]))
          refine OEnds.st (fun _ k => XS.ifYes X1055.here hx rfl (pc0 := 319) (pc' := 345) rfl (hb hby at_319) rfl ((if0 _ _).trans (flt (by decide : ¬ ((0 : Int32) < (0 : Int32)))).2.2.2) (by decide) (by decide) k) ?_
          show OEnds p.tables e below G (T1055.setTop (mkF m 345 #[.val (.int p1), .val (.int p2), .val (.int p3), .val (.int p4), .val (.int p5), .val (.int p6), .val (.int (0 : Int32)), .val (.int v1002), .val (.int v1003), .val (.int v1004), .val (.int (0 : Int32)), .val (.int v1006), .val (.int v1008), .val (.int r2), .val (.ref b_1010), .val (.ref b1014), .val (.ref b1030), .val (.double (own_rc (0 : UInt64) v1008)), .second, .val (.double (own_rc (0 : UInt64) v1008)), .second, .val (.double (own_rc (0 : UInt64) r2)), .second, .val (.int (1 : Int32))] []))
          refine OEnds.st (fun _ k => XS.iload X1055.here hx rfl (hb hby at_345) rfl k) ?_
          show OEnds p.tables e below G (T1055.setTop (mkF m 347 #[.val (.int p1), .val (.int p2), .val (.int p3), .val (.int p4), .val (.int p5), .val (.int p6), .val (.int (0 : Int32)), .val (.int v1002), .val (.int v1003), .val (.int v1004), .val (.int (0 : Int32)), .val (.int v1006), .val (.int v1008), .val (.int r2), .val (.ref b_1010), .val (.ref b1014), .val (.ref b1030), .val (.double (own_rc (0 : UInt64) v1008)), .second, .val (.double (own_rc (0 : UInt64) v1008)), .second, .val (.double (own_rc (0 : UInt64) r2)), .second, .val (.int (1 : Int32))] [(.int (1 : Int32))]))
          refine OEnds.st (fun _ k => XS.ifNo X1055.here hx rfl (hb hby at_347) rfl ((if0 _ _).trans (feq (by decide : ¬ ((1 : Int32) = (0 : Int32)))).1) k) ?_
          show OEnds p.tables e below G (T1055.setTop (mkF m 350 #[.val (.int p1), .val (.int p2), .val (.int p3), .val (.int p4), .val (.int p5), .val (.int p6), .val (.int (0 : Int32)), .val (.int v1002), .val (.int v1003), .val (.int v1004), .val (.int (0 : Int32)), .val (.int v1006), .val (.int v1008), .val (.int r2), .val (.ref b_1010), .val (.ref b1014), .val (.ref b1030), .val (.double (own_rc (0 : UInt64) v1008)), .second, .val (.double (own_rc (0 : UInt64) v1008)), .second, .val (.double (own_rc (0 : UInt64) r2)), .second, .val (.int (1 : Int32))] []))
          refine OEnds.st (fun _ k => XS.dload X1055.here hx rfl (hb hby at_350) rfl k) ?_
          show OEnds p.tables e below G (T1055.setTop (mkF m 352 #[.val (.int p1), .val (.int p2), .val (.int p3), .val (.int p4), .val (.int p5), .val (.int p6), .val (.int (0 : Int32)), .val (.int v1002), .val (.int v1003), .val (.int v1004), .val (.int (0 : Int32)), .val (.int v1006), .val (.int v1008), .val (.int r2), .val (.ref b_1010), .val (.ref b1014), .val (.ref b1030), .val (.double (own_rc (0 : UInt64) v1008)), .second, .val (.double (own_rc (0 : UInt64) v1008)), .second, .val (.double (own_rc (0 : UInt64) r2)), .second, .val (.int (1 : Int32))] [(.double (own_rc (0 : UInt64) r2))]))
          refine OEnds.st (fun _ k => XS.dconst0 X1055.here hx rfl (hb hby at_352) (v := (0 : UInt64)) rfl k) ?_
          show OEnds p.tables e below G (T1055.setTop (mkF m 353 #[.val (.int p1), .val (.int p2), .val (.int p3), .val (.int p4), .val (.int p5), .val (.int p6), .val (.int (0 : Int32)), .val (.int v1002), .val (.int v1003), .val (.int v1004), .val (.int (0 : Int32)), .val (.int v1006), .val (.int v1008), .val (.int r2), .val (.ref b_1010), .val (.ref b1014), .val (.ref b1030), .val (.double (own_rc (0 : UInt64) v1008)), .second, .val (.double (own_rc (0 : UInt64) v1008)), .second, .val (.double (own_rc (0 : UInt64) r2)), .second, .val (.int (1 : Int32))] [(.double (0 : UInt64)), (.double (own_rc (0 : UInt64) r2))]))
          refine OEnds.st (fun _ k => XS.dcmpS X1055.here hx rfl (hb hby at_353) rfl rfl k) ?_
          show OEnds p.tables e below G (T1055.setTop (mkF m 354 #[.val (.int p1), .val (.int p2), .val (.int p3), .val (.int p4), .val (.int p5), .val (.int p6), .val (.int (0 : Int32)), .val (.int v1002), .val (.int v1003), .val (.int v1004), .val (.int (0 : Int32)), .val (.int v1006), .val (.int v1008), .val (.int r2), .val (.ref b_1010), .val (.ref b1014), .val (.ref b1030), .val (.double (own_rc (0 : UInt64) v1008)), .second, .val (.double (own_rc (0 : UInt64) v1008)), .second, .val (.double (own_rc (0 : UInt64) r2)), .second, .val (.int (1 : Int32))] [(.int (cmpValue (FP.dcmp (own_rc (0 : UInt64) r2) (0 : UInt64)) .l))]))
          have hc354_1063 : (cmpValue (FP.dcmp (own_rc (0 : UInt64) r2) (0 : UInt64)) .l) = (0 : Int32) := (own_ceq hP2 own_Pz0 .l).mpr (hN2.mpr rfl)
          refine OEnds.st (fun _ k => XS.ifNo X1055.here hx rfl (hb hby at_354) rfl ((if0 _ _).trans (teq hc354_1063).2) k) ?_
          show OEnds p.tables e below G (T1055.setTop (mkF m 357 #[.val (.int p1), .val (.int p2), .val (.int p3), .val (.int p4), .val (.int p5), .val (.int p6), .val (.int (0 : Int32)), .val (.int v1002), .val (.int v1003), .val (.int v1004), .val (.int (0 : Int32)), .val (.int v1006), .val (.int v1008), .val (.int r2), .val (.ref b_1010), .val (.ref b1014), .val (.ref b1030), .val (.double (own_rc (0 : UInt64) v1008)), .second, .val (.double (own_rc (0 : UInt64) v1008)), .second, .val (.double (own_rc (0 : UInt64) r2)), .second, .val (.int (1 : Int32))] []))
          refine OEnds.st (fun _ k => XS.dload X1055.here hx rfl (hb hby at_357) rfl k) ?_
          show OEnds p.tables e below G (T1055.setTop (mkF m 359 #[.val (.int p1), .val (.int p2), .val (.int p3), .val (.int p4), .val (.int p5), .val (.int p6), .val (.int (0 : Int32)), .val (.int v1002), .val (.int v1003), .val (.int v1004), .val (.int (0 : Int32)), .val (.int v1006), .val (.int v1008), .val (.int r2), .val (.ref b_1010), .val (.ref b1014), .val (.ref b1030), .val (.double (own_rc (0 : UInt64) v1008)), .second, .val (.double (own_rc (0 : UInt64) v1008)), .second, .val (.double (own_rc (0 : UInt64) r2)), .second, .val (.int (1 : Int32))] [(.double (own_rc (0 : UInt64) v1008))]))
          refine OEnds.st (fun _ k => XS.dconst0 X1055.here hx rfl (hb hby at_359) (v := (0 : UInt64)) rfl k) ?_
          show OEnds p.tables e below G (T1055.setTop (mkF m 360 #[.val (.int p1), .val (.int p2), .val (.int p3), .val (.int p4), .val (.int p5), .val (.int p6), .val (.int (0 : Int32)), .val (.int v1002), .val (.int v1003), .val (.int v1004), .val (.int (0 : Int32)), .val (.int v1006), .val (.int v1008), .val (.int r2), .val (.ref b_1010), .val (.ref b1014), .val (.ref b1030), .val (.double (own_rc (0 : UInt64) v1008)), .second, .val (.double (own_rc (0 : UInt64) v1008)), .second, .val (.double (own_rc (0 : UInt64) r2)), .second, .val (.int (1 : Int32))] [(.double (0 : UInt64)), (.double (own_rc (0 : UInt64) v1008))]))
          refine OEnds.st (fun _ k => XS.dcmpS X1055.here hx rfl (hb hby at_360) rfl rfl k) ?_
          show OEnds p.tables e below G (T1055.setTop (mkF m 361 #[.val (.int p1), .val (.int p2), .val (.int p3), .val (.int p4), .val (.int p5), .val (.int p6), .val (.int (0 : Int32)), .val (.int v1002), .val (.int v1003), .val (.int v1004), .val (.int (0 : Int32)), .val (.int v1006), .val (.int v1008), .val (.int r2), .val (.ref b_1010), .val (.ref b1014), .val (.ref b1030), .val (.double (own_rc (0 : UInt64) v1008)), .second, .val (.double (own_rc (0 : UInt64) v1008)), .second, .val (.double (own_rc (0 : UInt64) r2)), .second, .val (.int (1 : Int32))] [(.int (cmpValue (FP.dcmp (own_rc (0 : UInt64) v1008) (0 : UInt64)) .l))]))
          refine OEnds.st (fun _ k => XS.ifNo X1055.here hx rfl (hb hby at_361) rfl ((if0 _ _).trans (teq hc233_1059).2) k) ?_
          show OEnds p.tables e below G (T1055.setTop (mkF m 364 #[.val (.int p1), .val (.int p2), .val (.int p3), .val (.int p4), .val (.int p5), .val (.int p6), .val (.int (0 : Int32)), .val (.int v1002), .val (.int v1003), .val (.int v1004), .val (.int (0 : Int32)), .val (.int v1006), .val (.int v1008), .val (.int r2), .val (.ref b_1010), .val (.ref b1014), .val (.ref b1030), .val (.double (own_rc (0 : UInt64) v1008)), .second, .val (.double (own_rc (0 : UInt64) v1008)), .second, .val (.double (own_rc (0 : UInt64) r2)), .second, .val (.int (1 : Int32))] []))
          refine OEnds.st (fun _ k => XS.iconst X1055.here hx rfl (hb hby at_364) k) ?_
          show OEnds p.tables e below G (T1055.setTop (mkF m 365 #[.val (.int p1), .val (.int p2), .val (.int p3), .val (.int p4), .val (.int p5), .val (.int p6), .val (.int (0 : Int32)), .val (.int v1002), .val (.int v1003), .val (.int v1004), .val (.int (0 : Int32)), .val (.int v1006), .val (.int v1008), .val (.int r2), .val (.ref b_1010), .val (.ref b1014), .val (.ref b1030), .val (.double (own_rc (0 : UInt64) v1008)), .second, .val (.double (own_rc (0 : UInt64) v1008)), .second, .val (.double (own_rc (0 : UInt64) r2)), .second, .val (.int (1 : Int32))] [(.int (1 : Int32))]))
          refine OEnds.st (fun _ k => XS.goto X1055.here hx rfl (pc0 := 365) (pc' := 369) rfl (hb hby at_365) (by decide) (by decide) k) ?_
          show OEnds p.tables e below G (T1055.setTop (mkF m 369 #[.val (.int p1), .val (.int p2), .val (.int p3), .val (.int p4), .val (.int p5), .val (.int p6), .val (.int (0 : Int32)), .val (.int v1002), .val (.int v1003), .val (.int v1004), .val (.int (0 : Int32)), .val (.int v1006), .val (.int v1008), .val (.int r2), .val (.ref b_1010), .val (.ref b1014), .val (.ref b1030), .val (.double (own_rc (0 : UInt64) v1008)), .second, .val (.double (own_rc (0 : UInt64) v1008)), .second, .val (.double (own_rc (0 : UInt64) r2)), .second, .val (.int (1 : Int32))] [(.int (1 : Int32))]))
          refine OEnds.st (fun _ k => XS.istore X1055.here hx rfl (hb hby at_369) rfl (l' := #[.val (.int p1), .val (.int p2), .val (.int p3), .val (.int p4), .val (.int p5), .val (.int p6), .val (.int (0 : Int32)), .val (.int v1002), .val (.int v1003), .val (.int v1004), .val (.int (0 : Int32)), .val (.int v1006), .val (.int v1008), .val (.int r2), .val (.ref b_1010), .val (.ref b1014), .val (.ref b1030), .val (.double (own_rc (0 : UInt64) v1008)), .second, .val (.double (own_rc (0 : UInt64) v1008)), .second, .val (.double (own_rc (0 : UInt64) r2)), .second, .val (.int (1 : Int32))]) rfl k) ?_
          show OEnds p.tables e below G (T1055.setTop (mkF m 371 #[.val (.int p1), .val (.int p2), .val (.int p3), .val (.int p4), .val (.int p5), .val (.int p6), .val (.int (0 : Int32)), .val (.int v1002), .val (.int v1003), .val (.int v1004), .val (.int (0 : Int32)), .val (.int v1006), .val (.int v1008), .val (.int r2), .val (.ref b_1010), .val (.ref b1014), .val (.ref b1030), .val (.double (own_rc (0 : UInt64) v1008)), .second, .val (.double (own_rc (0 : UInt64) v1008)), .second, .val (.double (own_rc (0 : UInt64) r2)), .second, .val (.int (1 : Int32))] []))
          refine OEnds.st (fun _ k => XS.iload X1055.here hx rfl (hb hby at_371) rfl k) ?_
          show OEnds p.tables e below G (T1055.setTop (mkF m 373 #[.val (.int p1), .val (.int p2), .val (.int p3), .val (.int p4), .val (.int p5), .val (.int p6), .val (.int (0 : Int32)), .val (.int v1002), .val (.int v1003), .val (.int v1004), .val (.int (0 : Int32)), .val (.int v1006), .val (.int v1008), .val (.int r2), .val (.ref b_1010), .val (.ref b1014), .val (.ref b1030), .val (.double (own_rc (0 : UInt64) v1008)), .second, .val (.double (own_rc (0 : UInt64) v1008)), .second, .val (.double (own_rc (0 : UInt64) r2)), .second, .val (.int (1 : Int32))] [(.int (1 : Int32))]))
          rw [← hG]
          refine OEnds.retZ X1055 hx hlk Bd.returns rfl (hb hby at_373) (by decide) (by decide) ?_
          rw [e1055]
          exact ⟨rfl, N1055⟩
      show OEnds p.tables e below G (T1055.setTop (mkF m 271 #[.val (.int p1), .val (.int p2), .val (.int p3), .val (.int p4), .val (.int p5), .val (.int p6), .val (.int (0 : Int32)), .val (.int v1002), .val (.int v1003), .val (.int v1004), .val (.int (0 : Int32)), .val (.int v1006), .val (.int v1008), .val (.int r2), .val (.ref b_1010), .val (.ref b1014), .val (.ref b1030), .val (.double (own_rc (0 : UInt64) v1008)), .second, .val (.double (own_rc (0 : UInt64) v1008)), .second, .val (.double (own_rc (0 : UInt64) r2)), .second, .val (.int (1 : Int32))] []))
      refine OEnds.st (fun _ k => XS.dload X1055.here hx rfl (hb hby at_271) rfl k) ?_
      show OEnds p.tables e below G (T1055.setTop (mkF m 273 #[.val (.int p1), .val (.int p2), .val (.int p3), .val (.int p4), .val (.int p5), .val (.int p6), .val (.int (0 : Int32)), .val (.int v1002), .val (.int v1003), .val (.int v1004), .val (.int (0 : Int32)), .val (.int v1006), .val (.int v1008), .val (.int r2), .val (.ref b_1010), .val (.ref b1014), .val (.ref b1030), .val (.double (own_rc (0 : UInt64) v1008)), .second, .val (.double (own_rc (0 : UInt64) v1008)), .second, .val (.double (own_rc (0 : UInt64) r2)), .second, .val (.int (1 : Int32))] [(.double (own_rc (0 : UInt64) v1008))]))
      refine OEnds.st (fun _ k => XS.dconst1 X1055.here hx rfl (hb hby at_273) (v := (4607182418800017408 : UInt64)) rfl k) ?_
      show OEnds p.tables e below G (T1055.setTop (mkF m 274 #[.val (.int p1), .val (.int p2), .val (.int p3), .val (.int p4), .val (.int p5), .val (.int p6), .val (.int (0 : Int32)), .val (.int v1002), .val (.int v1003), .val (.int v1004), .val (.int (0 : Int32)), .val (.int v1006), .val (.int v1008), .val (.int r2), .val (.ref b_1010), .val (.ref b1014), .val (.ref b1030), .val (.double (own_rc (0 : UInt64) v1008)), .second, .val (.double (own_rc (0 : UInt64) v1008)), .second, .val (.double (own_rc (0 : UInt64) r2)), .second, .val (.int (1 : Int32))] [(.double (4607182418800017408 : UInt64)), (.double (own_rc (0 : UInt64) v1008))]))
      refine OEnds.st (fun _ k => XS.dcmpS X1055.here hx rfl (hb hby at_274) rfl rfl k) ?_
      show OEnds p.tables e below G (T1055.setTop (mkF m 275 #[.val (.int p1), .val (.int p2), .val (.int p3), .val (.int p4), .val (.int p5), .val (.int p6), .val (.int (0 : Int32)), .val (.int v1002), .val (.int v1003), .val (.int v1004), .val (.int (0 : Int32)), .val (.int v1006), .val (.int v1008), .val (.int r2), .val (.ref b_1010), .val (.ref b1014), .val (.ref b1030), .val (.double (own_rc (0 : UInt64) v1008)), .second, .val (.double (own_rc (0 : UInt64) v1008)), .second, .val (.double (own_rc (0 : UInt64) r2)), .second, .val (.int (1 : Int32))] [(.int (cmpValue (FP.dcmp (own_rc (0 : UInt64) v1008) (4607182418800017408 : UInt64)) .l))]))
      have hc275_1064 : ¬ ((cmpValue (FP.dcmp (own_rc (0 : UInt64) v1008) (4607182418800017408 : UInt64)) .l) = (0 : Int32)) := fun q => (hM3.mp ((own_ceq hP1 own_B1 .l).mp q)).1 rfl
      refine OEnds.st (fun _ k => XS.ifYes X1055.here hx rfl (pc0 := 275) (pc' := 282) rfl (hb hby at_275) rfl ((if0 _ _).trans (feq hc275_1064).2) (by decide) (by decide) k) ?_
      show OEnds p.tables e below G (T1055.setTop (mkF m 282 #[.val (.int p1), .val (.int p2), .val (.int p3), .val (.int p4), .val (.int p5), .val (.int p6), .val (.int (0 : Int32)), .val (.int v1002), .val (.int v1003), .val (.int v1004), .val (.int (0 : Int32)), .val (.int v1006), .val (.int v1008), .val (.int r2), .val (.ref b_1010), .val (.ref b1014), .val (.ref b1030), .val (.double (own_rc (0 : UInt64) v1008)), .second, .val (.double (own_rc (0 : UInt64) v1008)), .second, .val (.double (own_rc (0 : UInt64) r2)), .second, .val (.int (1 : Int32))] []))
      refine OEnds.st (fun _ k => XS.iconst X1055.here hx rfl (hb hby at_282) k) ?_
      show OEnds p.tables e below G (T1055.setTop (mkF m 283 #[.val (.int p1), .val (.int p2), .val (.int p3), .val (.int p4), .val (.int p5), .val (.int p6), .val (.int (0 : Int32)), .val (.int v1002), .val (.int v1003), .val (.int v1004), .val (.int (0 : Int32)), .val (.int v1006), .val (.int v1008), .val (.int r2), .val (.ref b_1010), .val (.ref b1014), .val (.ref b1030), .val (.double (own_rc (0 : UInt64) v1008)), .second, .val (.double (own_rc (0 : UInt64) v1008)), .second, .val (.double (own_rc (0 : UInt64) r2)), .second, .val (.int (1 : Int32))] [(.int (0 : Int32))]))
      refine OEnds.st (fun _ k => XS.iload X1055.here hx rfl (hb hby at_283) rfl k) ?_
      show OEnds p.tables e below G (T1055.setTop (mkF m 285 #[.val (.int p1), .val (.int p2), .val (.int p3), .val (.int p4), .val (.int p5), .val (.int p6), .val (.int (0 : Int32)), .val (.int v1002), .val (.int v1003), .val (.int v1004), .val (.int (0 : Int32)), .val (.int v1006), .val (.int v1008), .val (.int r2), .val (.ref b_1010), .val (.ref b1014), .val (.ref b1030), .val (.double (own_rc (0 : UInt64) v1008)), .second, .val (.double (own_rc (0 : UInt64) v1008)), .second, .val (.double (own_rc (0 : UInt64) r2)), .second, .val (.int (1 : Int32))] [(.int v1008), (.int (0 : Int32))]))
      by_cases hc285_1065 : v1008 = (0 : Int32)
      · -- pc 285: yes
        refine OEnds.st (fun _ k => XS.ifYes X1055.here hx rfl (pc0 := 285) (pc' := 299) rfl (hb hby at_285) rfl ((if0 _ _).trans (teq hc285_1065).1) (by decide) (by decide) k) ?_
        show OEnds p.tables e below G (T1055.setTop (mkF m 299 #[.val (.int p1), .val (.int p2), .val (.int p3), .val (.int p4), .val (.int p5), .val (.int p6), .val (.int (0 : Int32)), .val (.int v1002), .val (.int v1003), .val (.int v1004), .val (.int (0 : Int32)), .val (.int v1006), .val (.int v1008), .val (.int r2), .val (.ref b_1010), .val (.ref b1014), .val (.ref b1030), .val (.double (own_rc (0 : UInt64) v1008)), .second, .val (.double (own_rc (0 : UInt64) v1008)), .second, .val (.double (own_rc (0 : UInt64) r2)), .second, .val (.int (1 : Int32))] [(.int (0 : Int32))]))
        refine OEnds.st (fun _ k => XS.iconst X1055.here hx rfl (hb hby at_299) k) ?_
        show OEnds p.tables e below G (T1055.setTop (mkF m 300 #[.val (.int p1), .val (.int p2), .val (.int p3), .val (.int p4), .val (.int p5), .val (.int p6), .val (.int (0 : Int32)), .val (.int v1002), .val (.int v1003), .val (.int v1004), .val (.int (0 : Int32)), .val (.int v1006), .val (.int v1008), .val (.int r2), .val (.ref b_1010), .val (.ref b1014), .val (.ref b1030), .val (.double (own_rc (0 : UInt64) v1008)), .second, .val (.double (own_rc (0 : UInt64) v1008)), .second, .val (.double (own_rc (0 : UInt64) r2)), .second, .val (.int (1 : Int32))] [(.int (0 : Int32)), (.int (0 : Int32))]))
        refine OEnds.st (fun _ k => XS.icmpNo X1055.here hx rfl (hb hby at_300) rfl (teq (by decide : (0 : Int32) = (0 : Int32))).2 k) ?_
        show OEnds p.tables e below G (T1055.setTop (mkF m 303 #[.val (.int p1), .val (.int p2), .val (.int p3), .val (.int p4), .val (.int p5), .val (.int p6), .val (.int (0 : Int32)), .val (.int v1002), .val (.int v1003), .val (.int v1004), .val (.int (0 : Int32)), .val (.int v1006), .val (.int v1008), .val (.int r2), .val (.ref b_1010), .val (.ref b1014), .val (.ref b1030), .val (.double (own_rc (0 : UInt64) v1008)), .second, .val (.double (own_rc (0 : UInt64) v1008)), .second, .val (.double (own_rc (0 : UInt64) r2)), .second, .val (.int (1 : Int32))] []))
        refine OEnds.st (fun _ k => XS.iconst X1055.here hx rfl (hb hby at_303) k) ?_
        show OEnds p.tables e below G (T1055.setTop (mkF m 304 #[.val (.int p1), .val (.int p2), .val (.int p3), .val (.int p4), .val (.int p5), .val (.int p6), .val (.int (0 : Int32)), .val (.int v1002), .val (.int v1003), .val (.int v1004), .val (.int (0 : Int32)), .val (.int v1006), .val (.int v1008), .val (.int r2), .val (.ref b_1010), .val (.ref b1014), .val (.ref b1030), .val (.double (own_rc (0 : UInt64) v1008)), .second, .val (.double (own_rc (0 : UInt64) v1008)), .second, .val (.double (own_rc (0 : UInt64) r2)), .second, .val (.int (1 : Int32))] [(.int (1 : Int32))]))
        refine OEnds.st (fun _ k => XS.goto X1055.here hx rfl (pc0 := 304) (pc' := 308) rfl (hb hby at_304) (by decide) (by decide) k) ?_
        exact rest308_1060  
      · -- pc 285: no
        refine OEnds.st (fun _ k => XS.ifNo X1055.here hx rfl (hb hby at_285) rfl ((if0 _ _).trans (feq hc285_1065).1) k) ?_
        show OEnds p.tables e below G (T1055.setTop (mkF m 288 #[.val (.int p1), .val (.int p2), .val (.int p3), .val (.int p4), .val (.int p5), .val (.int p6), .val (.int (0 : Int32)), .val (.int v1002), .val (.int v1003), .val (.int v1004), .val (.int (0 : Int32)), .val (.int v1006), .val (.int v1008), .val (.int r2), .val (.ref b_1010), .val (.ref b1014), .val (.ref b1030), .val (.double (own_rc (0 : UInt64) v1008)), .second, .val (.double (own_rc (0 : UInt64) v1008)), .second, .val (.double (own_rc (0 : UInt64) r2)), .second, .val (.int (1 : Int32))] [(.int (0 : Int32))]))
        refine OEnds.st (fun _ k => XS.iload X1055.here hx rfl (hb hby at_288) rfl k) ?_
        show OEnds p.tables e below G (T1055.setTop (mkF m 290 #[.val (.int p1), .val (.int p2), .val (.int p3), .val (.int p4), .val (.int p5), .val (.int p6), .val (.int (0 : Int32)), .val (.int v1002), .val (.int v1003), .val (.int v1004), .val (.int (0 : Int32)), .val (.int v1006), .val (.int v1008), .val (.int r2), .val (.ref b_1010), .val (.ref b1014), .val (.ref b1030), .val (.double (own_rc (0 : UInt64) v1008)), .second, .val (.double (own_rc (0 : UInt64) v1008)), .second, .val (.double (own_rc (0 : UInt64) r2)), .second, .val (.int (1 : Int32))] [(.int (0 : Int32)), (.int (0 : Int32))]))
        refine OEnds.st (fun _ k => XS.iload X1055.here hx rfl (hb hby at_290) rfl k) ?_
        show OEnds p.tables e below G (T1055.setTop (mkF m 292 #[.val (.int p1), .val (.int p2), .val (.int p3), .val (.int p4), .val (.int p5), .val (.int p6), .val (.int (0 : Int32)), .val (.int v1002), .val (.int v1003), .val (.int v1004), .val (.int (0 : Int32)), .val (.int v1006), .val (.int v1008), .val (.int r2), .val (.ref b_1010), .val (.ref b1014), .val (.ref b1030), .val (.double (own_rc (0 : UInt64) v1008)), .second, .val (.double (own_rc (0 : UInt64) v1008)), .second, .val (.double (own_rc (0 : UInt64) r2)), .second, .val (.int (1 : Int32))] [(.int v1008), (.int (0 : Int32)), (.int (0 : Int32))]))
        have hc292_1066 : ¬ ((0 : Int32) = v1008) := fun q => hc285_1065 q.symm
        refine OEnds.st (fun _ k => XS.icmpYes X1055.here hx rfl (pc0 := 292) (pc' := 299) rfl (hb hby at_292) rfl (feq hc292_1066).2 (by decide) (by decide) k) ?_
        show OEnds p.tables e below G (T1055.setTop (mkF m 299 #[.val (.int p1), .val (.int p2), .val (.int p3), .val (.int p4), .val (.int p5), .val (.int p6), .val (.int (0 : Int32)), .val (.int v1002), .val (.int v1003), .val (.int v1004), .val (.int (0 : Int32)), .val (.int v1006), .val (.int v1008), .val (.int r2), .val (.ref b_1010), .val (.ref b1014), .val (.ref b1030), .val (.double (own_rc (0 : UInt64) v1008)), .second, .val (.double (own_rc (0 : UInt64) v1008)), .second, .val (.double (own_rc (0 : UInt64) r2)), .second, .val (.int (1 : Int32))] [(.int (0 : Int32))]))
        refine OEnds.st (fun _ k => XS.iconst X1055.here hx rfl (hb hby at_299) k) ?_
        show OEnds p.tables e below G (T1055.setTop (mkF m 300 #[.val (.int p1), .val (.int p2), .val (.int p3), .val (.int p4), .val (.int p5), .val (.int p6), .val (.int (0 : Int32)), .val (.int v1002), .val (.int v1003), .val (.int v1004), .val (.int (0 : Int32)), .val (.int v1006), .val (.int v1008), .val (.int r2), .val (.ref b_1010), .val (.ref b1014), .val (.ref b1030), .val (.double (own_rc (0 : UInt64) v1008)), .second, .val (.double (own_rc (0 : UInt64) v1008)), .second, .val (.double (own_rc (0 : UInt64) r2)), .second, .val (.int (1 : Int32))] [(.int (0 : Int32)), (.int (0 : Int32))]))
        refine OEnds.st (fun _ k => XS.icmpNo X1055.here hx rfl (hb hby at_300) rfl (teq (by decide : (0 : Int32) = (0 : Int32))).2 k) ?_
        show OEnds p.tables e below G (T1055.setTop (mkF m 303 #[.val (.int p1), .val (.int p2), .val (.int p3), .val (.int p4), .val (.int p5), .val (.int p6), .val (.int (0 : Int32)), .val (.int v1002), .val (.int v1003), .val (.int v1004), .val (.int (0 : Int32)), .val (.int v1006), .val (.int v1008), .val (.int r2), .val (.ref b_1010), .val (.ref b1014), .val (.ref b1030), .val (.double (own_rc (0 : UInt64) v1008)), .second, .val (.double (own_rc (0 : UInt64) v1008)), .second, .val (.double (own_rc (0 : UInt64) r2)), .second, .val (.int (1 : Int32))] []))
        refine OEnds.st (fun _ k => XS.iconst X1055.here hx rfl (hb hby at_303) k) ?_
        show OEnds p.tables e below G (T1055.setTop (mkF m 304 #[.val (.int p1), .val (.int p2), .val (.int p3), .val (.int p4), .val (.int p5), .val (.int p6), .val (.int (0 : Int32)), .val (.int v1002), .val (.int v1003), .val (.int v1004), .val (.int (0 : Int32)), .val (.int v1006), .val (.int v1008), .val (.int r2), .val (.ref b_1010), .val (.ref b1014), .val (.ref b1030), .val (.double (own_rc (0 : UInt64) v1008)), .second, .val (.double (own_rc (0 : UInt64) v1008)), .second, .val (.double (own_rc (0 : UInt64) r2)), .second, .val (.int (1 : Int32))] [(.int (1 : Int32))]))
        refine OEnds.st (fun _ k => XS.goto X1055.here hx rfl (pc0 := 304) (pc' := 308) rfl (hb hby at_304) (by decide) (by decide) k) ?_
        exact rest308_1060  
    show OEnds p.tables e below G (T1007.setTop (mkF m 99 #[.val (.int p1), .val (.int p2), .val (.int p3), .val (.int p4), .val (.int p5), .val (.int p6), .val (.int (0 : Int32)), .val (.int v1002), .val (.int v1003), .val (.int v1004), .val (.int (0 : Int32)), .val (.int v1006), .val (.int v1008), .unset, .unset, .unset, .unset, .unset, .unset, .unset, .unset, .unset, .unset, .unset] []))
    refine OEnds.st (fun _ k => XS.iload X1007.here hx rfl (hb hby at_99) rfl k) ?_
    show OEnds p.tables e below G (T1007.setTop (mkF m 101 #[.val (.int p1), .val (.int p2), .val (.int p3), .val (.int p4), .val (.int p5), .val (.int p6), .val (.int (0 : Int32)), .val (.int v1002), .val (.int v1003), .val (.int v1004), .val (.int (0 : Int32)), .val (.int v1006), .val (.int v1008), .unset, .unset, .unset, .unset, .unset, .unset, .unset, .unset, .unset, .unset, .unset] [(.int v1008)]))
    refine OEnds.st (X1007.ldcInt hx hown (mvT hZ (hw _ (List.mem_of_getElem? (i := 5) rfl))) (g := (mkF m 101 #[.val (.int p1), .val (.int p2), .val (.int p3), .val (.int p4), .val (.int p5), .val (.int p6), .val (.int (0 : Int32)), .val (.int v1002), .val (.int v1003), .val (.int v1004), .val (.int (0 : Int32)), .val (.int v1006), .val (.int v1008), .unset, .unset, .unset, .unset, .unset, .unset, .unset, .unset, .unset, .unset, .unset] [(.int v1008)])) rfl (hb hby at_101)) ?_
    show OEnds p.tables e below G (T1007.setTop (mkF m 103 #[.val (.int p1), .val (.int p2), .val (.int p3), .val (.int p4), .val (.int p5), .val (.int p6), .val (.int (0 : Int32)), .val (.int v1002), .val (.int v1003), .val (.int v1004), .val (.int (0 : Int32)), .val (.int v1006), .val (.int v1008), .unset, .unset, .unset, .unset, .unset, .unset, .unset, .unset, .unset, .unset, .unset] [(.int (2147483647 : Int32)), (.int v1008)]))
    by_cases hc103_1067 : v1008 = (2147483647 : Int32)
    · -- pc 103: yes
      refine OEnds.st (fun _ k => XS.icmpNo X1007.here hx rfl (hb hby at_103) rfl (teq hc103_1067).2 k) ?_
      show OEnds p.tables e below G (T1007.setTop (mkF m 106 #[.val (.int p1), .val (.int p2), .val (.int p3), .val (.int p4), .val (.int p5), .val (.int p6), .val (.int (0 : Int32)), .val (.int v1002), .val (.int v1003), .val (.int v1004), .val (.int (0 : Int32)), .val (.int v1006), .val (.int v1008), .unset, .unset, .unset, .unset, .unset, .unset, .unset, .unset, .unset, .unset, .unset] []))
      refine OEnds.st (fun _ k => XS.iload X1007.here hx rfl (hb hby at_106) rfl k) ?_
      show OEnds p.tables e below G (T1007.setTop (mkF m 108 #[.val (.int p1), .val (.int p2), .val (.int p3), .val (.int p4), .val (.int p5), .val (.int p6), .val (.int (0 : Int32)), .val (.int v1002), .val (.int v1003), .val (.int v1004), .val (.int (0 : Int32)), .val (.int v1006), .val (.int v1008), .unset, .unset, .unset, .unset, .unset, .unset, .unset, .unset, .unset, .unset, .unset] [(.int v1008)]))
      refine OEnds.st (fun _ k => XS.goto X1007.here hx rfl (pc0 := 108) (pc' := 115) rfl (hb hby at_108) (by decide) (by decide) k) ?_
      exact rest115_1009 v1008 (Or.inl hc103_1067)
    · -- pc 103: no
      refine OEnds.st (fun _ k => XS.icmpYes X1007.here hx rfl (pc0 := 103) (pc' := 111) rfl (hb hby at_103) rfl (feq hc103_1067).2 (by decide) (by decide) k) ?_
      show OEnds p.tables e below G (T1007.setTop (mkF m 111 #[.val (.int p1), .val (.int p2), .val (.int p3), .val (.int p4), .val (.int p5), .val (.int p6), .val (.int (0 : Int32)), .val (.int v1002), .val (.int v1003), .val (.int v1004), .val (.int (0 : Int32)), .val (.int v1006), .val (.int v1008), .unset, .unset, .unset, .unset, .unset, .unset, .unset, .unset, .unset, .unset, .unset] []))
      refine OEnds.st (fun _ k => XS.iload X1007.here hx rfl (hb hby at_111) rfl k) ?_
      show OEnds p.tables e below G (T1007.setTop (mkF m 113 #[.val (.int p1), .val (.int p2), .val (.int p3), .val (.int p4), .val (.int p5), .val (.int p6), .val (.int (0 : Int32)), .val (.int v1002), .val (.int v1003), .val (.int v1004), .val (.int (0 : Int32)), .val (.int v1006), .val (.int v1008), .unset, .unset, .unset, .unset, .unset, .unset, .unset, .unset, .unset, .unset, .unset] [(.int v1008)]))
      refine OEnds.st (fun _ k => XS.iconst X1007.here hx rfl (hb hby at_113) k) ?_
      show OEnds p.tables e below G (T1007.setTop (mkF m 114 #[.val (.int p1), .val (.int p2), .val (.int p3), .val (.int p4), .val (.int p5), .val (.int p6), .val (.int (0 : Int32)), .val (.int v1002), .val (.int v1003), .val (.int v1004), .val (.int (0 : Int32)), .val (.int v1006), .val (.int v1008), .unset, .unset, .unset, .unset, .unset, .unset, .unset, .unset, .unset, .unset, .unset] [(.int (1 : Int32)), (.int v1008)]))
      refine OEnds.st (fun _ k => XS.iadd X1007.here hx rfl (hb hby at_114) rfl k) ?_
      exact rest115_1009 (v1008 + (1 : Int32)) (Or.inr ⟨hc103_1067, own_inc hc103_1067 rfl⟩)
  · -- 1
    rw [hi]
    show OEnds p.tables e below G (s₁.setTop (mkF m 5 #[.val (.int p1), .val (.int p2), .val (.int p3), .val (.int p4), .val (.int p5), .val (.int p6), .val (.int (1 : Int32)), .unset, .unset, .unset, .unset, .unset, .unset, .unset, .unset, .unset, .unset, .unset, .unset, .unset, .unset, .unset, .unset, .unset] []))
    refine OEnds.st (fun _ k => XS.iconst X0.here hx rfl (hb hby at_5) k) ?_
    show OEnds p.tables e below G (s₁.setTop (mkF m 6 #[.val (.int p1), .val (.int p2), .val (.int p3), .val (.int p4), .val (.int p5), .val (.int p6), .val (.int (1 : Int32)), .unset, .unset, .unset, .unset, .unset, .unset, .unset, .unset, .unset, .unset, .unset, .unset, .unset, .unset, .unset, .unset, .unset] [(.int (1 : Int32))]))
    refine OEnds.st (fun _ k => XS.iloadN X0.here hx rfl (hb hby at_6) rfl k) ?_
    show OEnds p.tables e below G (s₁.setTop (mkF m 7 #[.val (.int p1), .val (.int p2), .val (.int p3), .val (.int p4), .val (.int p5), .val (.int p6), .val (.int (1 : Int32)), .unset, .unset, .unset, .unset, .unset, .unset, .unset, .unset, .unset, .unset, .unset, .unset, .unset, .unset, .unset, .unset, .unset] [(.int p3), (.int (1 : Int32))]))
    refine OEnds.st (fun _ k => XS.sipush X0.here hx rfl (hb hby at_7) k) ?_
    show OEnds p.tables e below G (s₁.setTop (mkF m 10 #[.val (.int p1), .val (.int p2), .val (.int p3), .val (.int p4), .val (.int p5), .val (.int p6), .val (.int (1 : Int32)), .unset, .unset, .unset, .unset, .unset, .unset, .unset, .unset, .unset, .unset, .unset, .unset, .unset, .unset, .unset, .unset, .unset] [(.int (255 : Int32)), (.int p3), (.int (1 : Int32))]))
    refine OEnds.st (fun _ k => XS.iand X0.here hx rfl (hb hby at_10) rfl k) ?_
    show OEnds p.tables e below G (s₁.setTop (mkF m 11 #[.val (.int p1), .val (.int p2), .val (.int p3), .val (.int p4), .val (.int p5), .val (.int p6), .val (.int (1 : Int32)), .unset, .unset, .unset, .unset, .unset, .unset, .unset, .unset, .unset, .unset, .unset, .unset, .unset, .unset, .unset, .unset, .unset] [(.int (p3 &&& (255 : Int32))), (.int (1 : Int32))]))
    refine OEnds.st (fun _ k => XS.iadd X0.here hx rfl (hb hby at_11) rfl k) ?_
    show OEnds p.tables e below G (s₁.setTop (mkF m 12 #[.val (.int p1), .val (.int p2), .val (.int p3), .val (.int p4), .val (.int p5), .val (.int p6), .val (.int (1 : Int32)), .unset, .unset, .unset, .unset, .unset, .unset, .unset, .unset, .unset, .unset, .unset, .unset, .unset, .unset, .unset, .unset, .unset] [(.int ((1 : Int32) + (p3 &&& (255 : Int32))))]))
    refine OEnds.st (fun _ k => XS.istore X0.here hx rfl (hb hby at_12) rfl (l' := #[.val (.int p1), .val (.int p2), .val (.int p3), .val (.int p4), .val (.int p5), .val (.int p6), .val (.int (1 : Int32)), .val (.int ((1 : Int32) + (p3 &&& (255 : Int32)))), .unset, .unset, .unset, .unset, .unset, .unset, .unset, .unset, .unset, .unset, .unset, .unset, .unset, .unset, .unset, .unset]) rfl k) ?_
    show OEnds p.tables e below G (s₁.setTop (mkF m 14 #[.val (.int p1), .val (.int p2), .val (.int p3), .val (.int p4), .val (.int p5), .val (.int p6), .val (.int (1 : Int32)), .val (.int ((1 : Int32) + (p3 &&& (255 : Int32)))), .unset, .unset, .unset, .unset, .unset, .unset, .unset, .unset, .unset, .unset, .unset, .unset, .unset, .unset, .unset, .unset] []))
    generalize hv_v1068 : ((1 : Int32) + (p3 &&& (255 : Int32))) = v1068
    show OEnds p.tables e below G (s₁.setTop (mkF m 14 #[.val (.int p1), .val (.int p2), .val (.int p3), .val (.int p4), .val (.int p5), .val (.int p6), .val (.int (1 : Int32)), .val (.int v1068), .unset, .unset, .unset, .unset, .unset, .unset, .unset, .unset, .unset, .unset, .unset, .unset, .unset, .unset, .unset, .unset] []))
    refine OEnds.st (fun _ k => XS.iload X0.here hx rfl (hb hby at_14) rfl k) ?_
    show OEnds p.tables e below G (s₁.setTop (mkF m 16 #[.val (.int p1), .val (.int p2), .val (.int p3), .val (.int p4), .val (.int p5), .val (.int p6), .val (.int (1 : Int32)), .val (.int v1068), .unset, .unset, .unset, .unset, .unset, .unset, .unset, .unset, .unset, .unset, .unset, .unset, .unset, .unset, .unset, .unset] [(.int v1068)]))
    refine OEnds.st (fun _ k => XS.iconst X0.here hx rfl (hb hby at_16) k) ?_
    show OEnds p.tables e below G (s₁.setTop (mkF m 17 #[.val (.int p1), .val (.int p2), .val (.int p3), .val (.int p4), .val (.int p5), .val (.int p6), .val (.int (1 : Int32)), .val (.int v1068), .unset, .unset, .unset, .unset, .unset, .unset, .unset, .unset, .unset, .unset, .unset, .unset, .unset, .unset, .unset, .unset] [(.int (1 : Int32)), (.int v1068)]))
    refine OEnds.st (fun _ k => XS.iadd X0.here hx rfl (hb hby at_17) rfl k) ?_
    show OEnds p.tables e below G (s₁.setTop (mkF m 18 #[.val (.int p1), .val (.int p2), .val (.int p3), .val (.int p4), .val (.int p5), .val (.int p6), .val (.int (1 : Int32)), .val (.int v1068), .unset, .unset, .unset, .unset, .unset, .unset, .unset, .unset, .unset, .unset, .unset, .unset, .unset, .unset, .unset, .unset] [(.int (v1068 + (1 : Int32)))]))
    refine OEnds.st (fun _ k => XS.iloadN X0.here hx rfl (hb hby at_18) rfl k) ?_
    show OEnds p.tables e below G (s₁.setTop (mkF m 19 #[.val (.int p1), .val (.int p2), .val (.int p3), .val (.int p4), .val (.int p5), .val (.int p6), .val (.int (1 : Int32)), .val (.int v1068), .unset, .unset, .unset, .unset, .unset, .unset, .unset, .unset, .unset, .unset, .unset, .unset, .unset, .unset, .unset, .unset] [(.int p4), (.int (v1068 + (1 : Int32)))]))
    refine OEnds.st (fun _ k => XS.sipush X0.here hx rfl (hb hby at_19) k) ?_
    show OEnds p.tables e below G (s₁.setTop (mkF m 22 #[.val (.int p1), .val (.int p2), .val (.int p3), .val (.int p4), .val (.int p5), .val (.int p6), .val (.int (1 : Int32)), .val (.int v1068), .unset, .unset, .unset, .unset, .unset, .unset, .unset, .unset, .unset, .unset, .unset, .unset, .unset, .unset, .unset, .unset] [(.int (255 : Int32)), (.int p4), (.int (v1068 + (1 : Int32)))]))
    refine OEnds.st (fun _ k => XS.iand X0.here hx rfl (hb hby at_22) rfl k) ?_
    show OEnds p.tables e below G (s₁.setTop (mkF m 23 #[.val (.int p1), .val (.int p2), .val (.int p3), .val (.int p4), .val (.int p5), .val (.int p6), .val (.int (1 : Int32)), .val (.int v1068), .unset, .unset, .unset, .unset, .unset, .unset, .unset, .unset, .unset, .unset, .unset, .unset, .unset, .unset, .unset, .unset] [(.int (p4 &&& (255 : Int32))), (.int (v1068 + (1 : Int32)))]))
    refine OEnds.st (fun _ k => XS.iadd X0.here hx rfl (hb hby at_23) rfl k) ?_
    show OEnds p.tables e below G (s₁.setTop (mkF m 24 #[.val (.int p1), .val (.int p2), .val (.int p3), .val (.int p4), .val (.int p5), .val (.int p6), .val (.int (1 : Int32)), .val (.int v1068), .unset, .unset, .unset, .unset, .unset, .unset, .unset, .unset, .unset, .unset, .unset, .unset, .unset, .unset, .unset, .unset] [(.int ((v1068 + (1 : Int32)) + (p4 &&& (255 : Int32))))]))
    refine OEnds.st (fun _ k => XS.istore X0.here hx rfl (hb hby at_24) rfl (l' := #[.val (.int p1), .val (.int p2), .val (.int p3), .val (.int p4), .val (.int p5), .val (.int p6), .val (.int (1 : Int32)), .val (.int v1068), .val (.int ((v1068 + (1 : Int32)) + (p4 &&& (255 : Int32)))), .unset, .unset, .unset, .unset, .unset, .unset, .unset, .unset, .unset, .unset, .unset, .unset, .unset, .unset, .unset]) rfl k) ?_
    show OEnds p.tables e below G (s₁.setTop (mkF m 26 #[.val (.int p1), .val (.int p2), .val (.int p3), .val (.int p4), .val (.int p5), .val (.int p6), .val (.int (1 : Int32)), .val (.int v1068), .val (.int ((v1068 + (1 : Int32)) + (p4 &&& (255 : Int32)))), .unset, .unset, .unset, .unset, .unset, .unset, .unset, .unset, .unset, .unset, .unset, .unset, .unset, .unset, .unset] []))
    generalize hv_v1069 : ((v1068 + (1 : Int32)) + (p4 &&& (255 : Int32))) = v1069
    show OEnds p.tables e below G (s₁.setTop (mkF m 26 #[.val (.int p1), .val (.int p2), .val (.int p3), .val (.int p4), .val (.int p5), .val (.int p6), .val (.int (1 : Int32)), .val (.int v1068), .val (.int v1069), .unset, .unset, .unset, .unset, .unset, .unset, .unset, .unset, .unset, .unset, .unset, .unset, .unset, .unset, .unset] []))
    refine OEnds.st (fun _ k => XS.iload X0.here hx rfl (hb hby at_26) rfl k) ?_
    show OEnds p.tables e below G (s₁.setTop (mkF m 28 #[.val (.int p1), .val (.int p2), .val (.int p3), .val (.int p4), .val (.int p5), .val (.int p6), .val (.int (1 : Int32)), .val (.int v1068), .val (.int v1069), .unset, .unset, .unset, .unset, .unset, .unset, .unset, .unset, .unset, .unset, .unset, .unset, .unset, .unset, .unset] [(.int v1069)]))
    refine OEnds.st (fun _ k => XS.iconst X0.here hx rfl (hb hby at_28) k) ?_
    show OEnds p.tables e below G (s₁.setTop (mkF m 29 #[.val (.int p1), .val (.int p2), .val (.int p3), .val (.int p4), .val (.int p5), .val (.int p6), .val (.int (1 : Int32)), .val (.int v1068), .val (.int v1069), .unset, .unset, .unset, .unset, .unset, .unset, .unset, .unset, .unset, .unset, .unset, .unset, .unset, .unset, .unset] [(.int (1 : Int32)), (.int v1069)]))
    refine OEnds.st (fun _ k => XS.iadd X0.here hx rfl (hb hby at_29) rfl k) ?_
    show OEnds p.tables e below G (s₁.setTop (mkF m 30 #[.val (.int p1), .val (.int p2), .val (.int p3), .val (.int p4), .val (.int p5), .val (.int p6), .val (.int (1 : Int32)), .val (.int v1068), .val (.int v1069), .unset, .unset, .unset, .unset, .unset, .unset, .unset, .unset, .unset, .unset, .unset, .unset, .unset, .unset, .unset] [(.int (v1069 + (1 : Int32)))]))
    refine OEnds.st (fun _ k => XS.iload X0.here hx rfl (hb hby at_30) rfl k) ?_
    show OEnds p.tables e below G (s₁.setTop (mkF m 32 #[.val (.int p1), .val (.int p2), .val (.int p3), .val (.int p4), .val (.int p5), .val (.int p6), .val (.int (1 : Int32)), .val (.int v1068), .val (.int v1069), .unset, .unset, .unset, .unset, .unset, .unset, .unset, .unset, .unset, .unset, .unset, .unset, .unset, .unset, .unset] [(.int p5), (.int (v1069 + (1 : Int32)))]))
    refine OEnds.st (fun _ k => XS.sipush X0.here hx rfl (hb hby at_32) k) ?_
    show OEnds p.tables e below G (s₁.setTop (mkF m 35 #[.val (.int p1), .val (.int p2), .val (.int p3), .val (.int p4), .val (.int p5), .val (.int p6), .val (.int (1 : Int32)), .val (.int v1068), .val (.int v1069), .unset, .unset, .unset, .unset, .unset, .unset, .unset, .unset, .unset, .unset, .unset, .unset, .unset, .unset, .unset] [(.int (255 : Int32)), (.int p5), (.int (v1069 + (1 : Int32)))]))
    refine OEnds.st (fun _ k => XS.iand X0.here hx rfl (hb hby at_35) rfl k) ?_
    show OEnds p.tables e below G (s₁.setTop (mkF m 36 #[.val (.int p1), .val (.int p2), .val (.int p3), .val (.int p4), .val (.int p5), .val (.int p6), .val (.int (1 : Int32)), .val (.int v1068), .val (.int v1069), .unset, .unset, .unset, .unset, .unset, .unset, .unset, .unset, .unset, .unset, .unset, .unset, .unset, .unset, .unset] [(.int (p5 &&& (255 : Int32))), (.int (v1069 + (1 : Int32)))]))
    refine OEnds.st (fun _ k => XS.iadd X0.here hx rfl (hb hby at_36) rfl k) ?_
    show OEnds p.tables e below G (s₁.setTop (mkF m 37 #[.val (.int p1), .val (.int p2), .val (.int p3), .val (.int p4), .val (.int p5), .val (.int p6), .val (.int (1 : Int32)), .val (.int v1068), .val (.int v1069), .unset, .unset, .unset, .unset, .unset, .unset, .unset, .unset, .unset, .unset, .unset, .unset, .unset, .unset, .unset] [(.int ((v1069 + (1 : Int32)) + (p5 &&& (255 : Int32))))]))
    refine OEnds.st (fun _ k => XS.istore X0.here hx rfl (hb hby at_37) rfl (l' := #[.val (.int p1), .val (.int p2), .val (.int p3), .val (.int p4), .val (.int p5), .val (.int p6), .val (.int (1 : Int32)), .val (.int v1068), .val (.int v1069), .val (.int ((v1069 + (1 : Int32)) + (p5 &&& (255 : Int32)))), .unset, .unset, .unset, .unset, .unset, .unset, .unset, .unset, .unset, .unset, .unset, .unset, .unset, .unset]) rfl k) ?_
    show OEnds p.tables e below G (s₁.setTop (mkF m 39 #[.val (.int p1), .val (.int p2), .val (.int p3), .val (.int p4), .val (.int p5), .val (.int p6), .val (.int (1 : Int32)), .val (.int v1068), .val (.int v1069), .val (.int ((v1069 + (1 : Int32)) + (p5 &&& (255 : Int32)))), .unset, .unset, .unset, .unset, .unset, .unset, .unset, .unset, .unset, .unset, .unset, .unset, .unset, .unset] []))
    generalize hv_v1070 : ((v1069 + (1 : Int32)) + (p5 &&& (255 : Int32))) = v1070
    have hbd := own_bd hv_v1068 hv_v1069 hv_v1070
    show OEnds p.tables e below G (s₁.setTop (mkF m 39 #[.val (.int p1), .val (.int p2), .val (.int p3), .val (.int p4), .val (.int p5), .val (.int p6), .val (.int (1 : Int32)), .val (.int v1068), .val (.int v1069), .val (.int v1070), .unset, .unset, .unset, .unset, .unset, .unset, .unset, .unset, .unset, .unset, .unset, .unset, .unset, .unset] []))
    refine OEnds.st (fun _ k => XS.iload X0.here hx rfl (hb hby at_39) rfl k) ?_
    show OEnds p.tables e below G (s₁.setTop (mkF m 41 #[.val (.int p1), .val (.int p2), .val (.int p3), .val (.int p4), .val (.int p5), .val (.int p6), .val (.int (1 : Int32)), .val (.int v1068), .val (.int v1069), .val (.int v1070), .unset, .unset, .unset, .unset, .unset, .unset, .unset, .unset, .unset, .unset, .unset, .unset, .unset, .unset] [(.int (1 : Int32))]))
    refine OEnds.st (fun _ k => XS.ifYes X0.here hx rfl (pc0 := 41) (pc' := 48) rfl (hb hby at_41) rfl ((if0 _ _).trans (feq (by decide : ¬ ((1 : Int32) = (0 : Int32)))).2) (by decide) (by decide) k) ?_
    show OEnds p.tables e below G (s₁.setTop (mkF m 48 #[.val (.int p1), .val (.int p2), .val (.int p3), .val (.int p4), .val (.int p5), .val (.int p6), .val (.int (1 : Int32)), .val (.int v1068), .val (.int v1069), .val (.int v1070), .unset, .unset, .unset, .unset, .unset, .unset, .unset, .unset, .unset, .unset, .unset, .unset, .unset, .unset] []))
    refine OEnds.st (fun _ k => XS.iload X0.here hx rfl (hb hby at_48) rfl k) ?_
    show OEnds p.tables e below G (s₁.setTop (mkF m 50 #[.val (.int p1), .val (.int p2), .val (.int p3), .val (.int p4), .val (.int p5), .val (.int p6), .val (.int (1 : Int32)), .val (.int v1068), .val (.int v1069), .val (.int v1070), .unset, .unset, .unset, .unset, .unset, .unset, .unset, .unset, .unset, .unset, .unset, .unset, .unset, .unset] [(.int (1 : Int32))]))
    refine OEnds.st (fun _ k => XS.iconst X0.here hx rfl (hb hby at_50) k) ?_
    show OEnds p.tables e below G (s₁.setTop (mkF m 51 #[.val (.int p1), .val (.int p2), .val (.int p3), .val (.int p4), .val (.int p5), .val (.int p6), .val (.int (1 : Int32)), .val (.int v1068), .val (.int v1069), .val (.int v1070), .unset, .unset, .unset, .unset, .unset, .unset, .unset, .unset, .unset, .unset, .unset, .unset, .unset, .unset] [(.int (1 : Int32)), (.int (1 : Int32))]))
    refine OEnds.st (fun _ k => XS.icmpNo X0.here hx rfl (hb hby at_51) rfl (teq (by decide : (1 : Int32) = (1 : Int32))).2 k) ?_
    show OEnds p.tables e below G (s₁.setTop (mkF m 54 #[.val (.int p1), .val (.int p2), .val (.int p3), .val (.int p4), .val (.int p5), .val (.int p6), .val (.int (1 : Int32)), .val (.int v1068), .val (.int v1069), .val (.int v1070), .unset, .unset, .unset, .unset, .unset, .unset, .unset, .unset, .unset, .unset, .unset, .unset, .unset, .unset] []))
    refine OEnds.st (fun _ k => XS.iload X0.here hx rfl (hb hby at_54) rfl k) ?_
    show OEnds p.tables e below G (s₁.setTop (mkF m 56 #[.val (.int p1), .val (.int p2), .val (.int p3), .val (.int p4), .val (.int p5), .val (.int p6), .val (.int (1 : Int32)), .val (.int v1068), .val (.int v1069), .val (.int v1070), .unset, .unset, .unset, .unset, .unset, .unset, .unset, .unset, .unset, .unset, .unset, .unset, .unset, .unset] [(.int v1068)]))
    refine OEnds.st (fun _ k => XS.goto X0.here hx rfl (pc0 := 56) (pc' := 72) rfl (hb hby at_56) (by decide) (by decide) k) ?_
    show OEnds p.tables e below G (s₁.setTop (mkF m 72 #[.val (.int p1), .val (.int p2), .val (.int p3), .val (.int p4), .val (.int p5), .val (.int p6), .val (.int (1 : Int32)), .val (.int v1068), .val (.int v1069), .val (.int v1070), .unset, .unset, .unset, .unset, .unset, .unset, .unset, .unset, .unset, .unset, .unset, .unset, .unset, .unset] [(.int v1068)]))
    refine OEnds.st (fun _ k => XS.istore X0.here hx rfl (hb hby at_72) rfl (l' := #[.val (.int p1), .val (.int p2), .val (.int p3), .val (.int p4), .val (.int p5), .val (.int p6), .val (.int (1 : Int32)), .val (.int v1068), .val (.int v1069), .val (.int v1070), .val (.int v1068), .unset, .unset, .unset, .unset, .unset, .unset, .unset, .unset, .unset, .unset, .unset, .unset, .unset]) rfl k) ?_
    show OEnds p.tables e below G (s₁.setTop (mkF m 74 #[.val (.int p1), .val (.int p2), .val (.int p3), .val (.int p4), .val (.int p5), .val (.int p6), .val (.int (1 : Int32)), .val (.int v1068), .val (.int v1069), .val (.int v1070), .val (.int v1068), .unset, .unset, .unset, .unset, .unset, .unset, .unset, .unset, .unset, .unset, .unset, .unset, .unset] []))
    refine OEnds.st (fun _ k => XS.iconst X0.here hx rfl (hb hby at_74) k) ?_
    show OEnds p.tables e below G (s₁.setTop (mkF m 75 #[.val (.int p1), .val (.int p2), .val (.int p3), .val (.int p4), .val (.int p5), .val (.int p6), .val (.int (1 : Int32)), .val (.int v1068), .val (.int v1069), .val (.int v1070), .val (.int v1068), .unset, .unset, .unset, .unset, .unset, .unset, .unset, .unset, .unset, .unset, .unset, .unset, .unset] [(.int (1 : Int32))]))
    refine OEnds.st (fun _ k => XS.iload X0.here hx rfl (hb hby at_75) rfl k) ?_
    show OEnds p.tables e below G (s₁.setTop (mkF m 77 #[.val (.int p1), .val (.int p2), .val (.int p3), .val (.int p4), .val (.int p5), .val (.int p6), .val (.int (1 : Int32)), .val (.int v1068), .val (.int v1069), .val (.int v1070), .val (.int v1068), .unset, .unset, .unset, .unset, .unset, .unset, .unset, .unset, .unset, .unset, .unset, .unset, .unset] [(.int v1068), (.int (1 : Int32))]))
    refine OEnds.st (fun _ k => XS.iload X0.here hx rfl (hb hby at_77) rfl k) ?_
    show OEnds p.tables e below G (s₁.setTop (mkF m 79 #[.val (.int p1), .val (.int p2), .val (.int p3), .val (.int p4), .val (.int p5), .val (.int p6), .val (.int (1 : Int32)), .val (.int v1068), .val (.int v1069), .val (.int v1070), .val (.int v1068), .unset, .unset, .unset, .unset, .unset, .unset, .unset, .unset, .unset, .unset, .unset, .unset, .unset] [(.int p6), (.int v1068), (.int (1 : Int32))]))
    refine OEnds.st (X0.ldcInt hx hown (mvT hZ (hw _ (List.mem_of_getElem? (i := 0) rfl))) (g := (mkF m 79 #[.val (.int p1), .val (.int p2), .val (.int p3), .val (.int p4), .val (.int p5), .val (.int p6), .val (.int (1 : Int32)), .val (.int v1068), .val (.int v1069), .val (.int v1070), .val (.int v1068), .unset, .unset, .unset, .unset, .unset, .unset, .unset, .unset, .unset, .unset, .unset, .unset, .unset] [(.int p6), (.int v1068), (.int (1 : Int32))])) rfl (hb hby at_79)) ?_
    show OEnds p.tables e below G (s₁.setTop (mkF m 81 #[.val (.int p1), .val (.int p2), .val (.int p3), .val (.int p4), .val (.int p5), .val (.int p6), .val (.int (1 : Int32)), .val (.int v1068), .val (.int v1069), .val (.int v1070), .val (.int v1068), .unset, .unset, .unset, .unset, .unset, .unset, .unset, .unset, .unset, .unset, .unset, .unset, .unset] [(.int (65535 : Int32)), (.int p6), (.int v1068), (.int (1 : Int32))]))
    refine OEnds.st (fun _ k => XS.iand X0.here hx rfl (hb hby at_81) rfl k) ?_
    show OEnds p.tables e below G (s₁.setTop (mkF m 82 #[.val (.int p1), .val (.int p2), .val (.int p3), .val (.int p4), .val (.int p5), .val (.int p6), .val (.int (1 : Int32)), .val (.int v1068), .val (.int v1069), .val (.int v1070), .val (.int v1068), .unset, .unset, .unset, .unset, .unset, .unset, .unset, .unset, .unset, .unset, .unset, .unset, .unset] [(.int (p6 &&& (65535 : Int32))), (.int v1068), (.int (1 : Int32))]))
    refine OEnds.st (fun _ k => XS.iadd X0.here hx rfl (hb hby at_82) rfl k) ?_
    show OEnds p.tables e below G (s₁.setTop (mkF m 83 #[.val (.int p1), .val (.int p2), .val (.int p3), .val (.int p4), .val (.int p5), .val (.int p6), .val (.int (1 : Int32)), .val (.int v1068), .val (.int v1069), .val (.int v1070), .val (.int v1068), .unset, .unset, .unset, .unset, .unset, .unset, .unset, .unset, .unset, .unset, .unset, .unset, .unset] [(.int (v1068 + (p6 &&& (65535 : Int32)))), (.int (1 : Int32))]))
    obtain ⟨_, _, ⟨T1071, L1071, k1071c, n1071c⟩, -, X1071, ⟨Lc1071, hQ1071, l1071, y1071, z1071⟩, st1071⟩ := Jvm.LawKit.callS X0 hx (y := (⟨"java/lang/Math", "max", "(II)I"⟩ : MethodName)) hown (mvT hZ (hw _ (List.mem_of_getElem? (i := 1) rfl))) (mvT hZ (hw _ (List.mem_of_getElem? (i := 2) rfl))) (mvT hZ (hw _ (List.mem_of_getElem? (i := 3) rfl))) (mvT hZ (hw _ (List.mem_of_getElem? (i := 4) rfl))) (by decide) (backOf (W := 0) (rm1 l Z a0 hw [] (1 : Int32) (v1068 + (p6 &&& (65535 : Int32))) h0 n0 Z0 ) hZ (hw _ (List.mem_of_getElem? (i := 4) rfl)) (hw _ (List.mem_of_getElem? (i := 3) rfl)) (by decide) (by decide)) (g := (mkF m 83 #[.val (.int p1), .val (.int p2), .val (.int p3), .val (.int p4), .val (.int p5), .val (.int p6), .val (.int (1 : Int32)), .val (.int v1068), .val (.int v1069), .val (.int v1070), .val (.int v1068), .unset, .unset, .unset, .unset, .unset, .unset, .unset, .unset, .unset, .unset, .unset, .unset, .unset] [(.int (v1068 + (p6 &&& (65535 : Int32)))), (.int (1 : Int32))])) rfl (by rw [hml]; rfl) (argsL := [(.int (1 : Int32)), (.int (v1068 + (p6 &&& (65535 : Int32))))]) (rest := []) (lenOf pd_1 rfl) rfl (by show 2 * 0 + _ ≤ _; exact Nat.le_of_eq rfl) (hb hby at_83) (fun _ _ => ⟨rfl, e0, (by decide : 0 + 0 ≤ _), (by decide : 0 + 0 ≤ _)⟩)
    dsimp only [Pt.U, Pt.locs, Pt.cells, Pt.slots] at X1071 l1071 y1071 z1071 st1071 hQ1071
    subst l1071 y1071 z1071
    obtain ⟨rfl, N1071q, e1071⟩ := hQ1071
    have N1071 := Fr.app N0 N1071q
    refine OEnds.st st1071 ?_
    clear st1071
    show OEnds p.tables e below G (T1071.setTop (mkF m 86 #[.val (.int p1), .val (.int p2), .val (.int p3), .val (.int p4), .val (.int p5), .val (.int p6), .val (.int (1 : Int32)), .val (.int v1068), .val (.int v1069), .val (.int v1070), .val (.int v1068), .unset, .unset, .unset, .unset, .unset, .unset, .unset, .unset, .unset, .unset, .unset, .unset, .unset] [(.int (own_mx (1 : Int32) (v1068 + (p6 &&& (65535 : Int32)))))]))
    refine OEnds.st (fun _ k => XS.istore X1071.here hx rfl (hb hby at_86) rfl (l' := #[.val (.int p1), .val (.int p2), .val (.int p3), .val (.int p4), .val (.int p5), .val (.int p6), .val (.int (1 : Int32)), .val (.int v1068), .val (.int v1069), .val (.int v1070), .val (.int v1068), .val (.int (own_mx (1 : Int32) (v1068 + (p6 &&& (65535 : Int32))))), .unset, .unset, .unset, .unset, .unset, .unset, .unset, .unset, .unset, .unset, .unset, .unset]) rfl k) ?_
    show OEnds p.tables e below G (T1071.setTop (mkF m 88 #[.val (.int p1), .val (.int p2), .val (.int p3), .val (.int p4), .val (.int p5), .val (.int p6), .val (.int (1 : Int32)), .val (.int v1068), .val (.int v1069), .val (.int v1070), .val (.int v1068), .val (.int (own_mx (1 : Int32) (v1068 + (p6 &&& (65535 : Int32))))), .unset, .unset, .unset, .unset, .unset, .unset, .unset, .unset, .unset, .unset, .unset, .unset] []))
    generalize hv_v1072 : (own_mx (1 : Int32) (v1068 + (p6 &&& (65535 : Int32)))) = v1072
    have hk1 : ¬ (v1072 < v1068) := own_ret (by omega) hv_v1072 (by omega)
    show OEnds p.tables e below G (T1071.setTop (mkF m 88 #[.val (.int p1), .val (.int p2), .val (.int p3), .val (.int p4), .val (.int p5), .val (.int p6), .val (.int (1 : Int32)), .val (.int v1068), .val (.int v1069), .val (.int v1070), .val (.int v1068), .val (.int v1072), .unset, .unset, .unset, .unset, .unset, .unset, .unset, .unset, .unset, .unset, .unset, .unset] []))
    refine OEnds.st (fun _ k => XS.iload X1071.here hx rfl (hb hby at_88) rfl k) ?_
    show OEnds p.tables e below G (T1071.setTop (mkF m 90 #[.val (.int p1), .val (.int p2), .val (.int p3), .val (.int p4), .val (.int p5), .val (.int p6), .val (.int (1 : Int32)), .val (.int v1068), .val (.int v1069), .val (.int v1070), .val (.int v1068), .val (.int v1072), .unset, .unset, .unset, .unset, .unset, .unset, .unset, .unset, .unset, .unset, .unset, .unset] [(.int (1 : Int32))]))
    refine OEnds.st (fun _ k => XS.iloadN X1071.here hx rfl (hb hby at_90) rfl k) ?_
    show OEnds p.tables e below G (T1071.setTop (mkF m 91 #[.val (.int p1), .val (.int p2), .val (.int p3), .val (.int p4), .val (.int p5), .val (.int p6), .val (.int (1 : Int32)), .val (.int v1068), .val (.int v1069), .val (.int v1070), .val (.int v1068), .val (.int v1072), .unset, .unset, .unset, .unset, .unset, .unset, .unset, .unset, .unset, .unset, .unset, .unset] [(.int p2), (.int (1 : Int32))]))
    refine OEnds.st (X1071.ldcInt hx hown (mvT hZ (hw _ (List.mem_of_getElem? (i := 5) rfl))) (g := (mkF m 91 #[.val (.int p1), .val (.int p2), .val (.int p3), .val (.int p4), .val (.int p5), .val (.int p6), .val (.int (1 : Int32)), .val (.int v1068), .val (.int v1069), .val (.int v1070), .val (.int v1068), .val (.int v1072), .unset, .unset, .unset, .unset, .unset, .unset, .unset, .unset, .unset, .unset, .unset, .unset] [(.int p2), (.int (1 : Int32))])) rfl (hb hby at_91)) ?_
    show OEnds p.tables e below G (T1071.setTop (mkF m 93 #[.val (.int p1), .val (.int p2), .val (.int p3), .val (.int p4), .val (.int p5), .val (.int p6), .val (.int (1 : Int32)), .val (.int v1068), .val (.int v1069), .val (.int v1070), .val (.int v1068), .val (.int v1072), .unset, .unset, .unset, .unset, .unset, .unset, .unset, .unset, .unset, .unset, .unset, .unset] [(.int (2147483647 : Int32)), (.int p2), (.int (1 : Int32))]))
    refine OEnds.st (fun _ k => XS.iand X1071.here hx rfl (hb hby at_93) rfl k) ?_
    show OEnds p.tables e below G (T1071.setTop (mkF m 94 #[.val (.int p1), .val (.int p2), .val (.int p3), .val (.int p4), .val (.int p5), .val (.int p6), .val (.int (1 : Int32)), .val (.int v1068), .val (.int v1069), .val (.int v1070), .val (.int v1068), .val (.int v1072), .unset, .unset, .unset, .unset, .unset, .unset, .unset, .unset, .unset, .unset, .unset, .unset] [(.int (p2 &&& (2147483647 : Int32))), (.int (1 : Int32))]))
    obtain ⟨_, _, ⟨T1073, L1073, k1073c, n1073c⟩, -, X1073, ⟨Lc1073, hQ1073, l1073, y1073, z1073⟩, st1073⟩ := Jvm.LawKit.callS X1071 hx (y := (⟨"java/lang/Math", "max", "(II)I"⟩ : MethodName)) hown (mvT hZ (hw _ (List.mem_of_getElem? (i := 1) rfl))) (mvT hZ (hw _ (List.mem_of_getElem? (i := 2) rfl))) (mvT hZ (hw _ (List.mem_of_getElem? (i := 3) rfl))) (mvT hZ (hw _ (List.mem_of_getElem? (i := 4) rfl))) (by decide) (backOf (W := 0) (rm1 l Z a0 hw [] (1 : Int32) (p2 &&& (2147483647 : Int32)) h0 n0 Z0 ) hZ (hw _ (List.mem_of_getElem? (i := 4) rfl)) (hw _ (List.mem_of_getElem? (i := 3) rfl)) (by decide) (by decide)) (g := (mkF m 94 #[.val (.int p1), .val (.int p2), .val (.int p3), .val (.int p4), .val (.int p5), .val (.int p6), .val (.int (1 : Int32)), .val (.int v1068), .val (.int v1069), .val (.int v1070), .val (.int v1068), .val (.int v1072), .unset, .unset, .unset, .unset, .unset, .unset, .unset, .unset, .unset, .unset, .unset, .unset] [(.int (p2 &&& (2147483647 : Int32))), (.int (1 : Int32))])) rfl (by rw [hml]; rfl) (argsL := [(.int (1 : Int32)), (.int (p2 &&& (2147483647 : Int32)))]) (rest := []) (lenOf pd_1 rfl) rfl (by show 2 * 0 + _ ≤ _; exact Nat.le_of_eq rfl) (hb hby at_94) (fun _ _ => ⟨rfl, e1071, (by decide : 0 + 0 + 0 ≤ _), (by decide : 0 + 0 + 0 ≤ _)⟩)
    dsimp only [Pt.U, Pt.locs, Pt.cells, Pt.slots] at X1073 l1073 y1073 z1073 st1073 hQ1073
    subst l1073 y1073 z1073
    obtain ⟨rfl, N1073q, e1073⟩ := hQ1073
    have N1073 := Fr.app N1071 N1073q
    refine OEnds.st st1073 ?_
    clear st1073
    show OEnds p.tables e below G (T1073.setTop (mkF m 97 #[.val (.int p1), .val (.int p2), .val (.int p3), .val (.int p4), .val (.int p5), .val (.int p6), .val (.int (1 : Int32)), .val (.int v1068), .val (.int v1069), .val (.int v1070), .val (.int v1068), .val (.int v1072), .unset, .unset, .unset, .unset, .unset, .unset, .unset, .unset, .unset, .unset, .unset, .unset] [(.int (own_mx (1 : Int32) (p2 &&& (2147483647 : Int32))))]))
    refine OEnds.st (fun _ k => XS.istore X1073.here hx rfl (hb hby at_97) rfl (l' := #[.val (.int p1), .val (.int p2), .val (.int p3), .val (.int p4), .val (.int p5), .val (.int p6), .val (.int (1 : Int32)), .val (.int v1068), .val (.int v1069), .val (.int v1070), .val (.int v1068), .val (.int v1072), .val (.int (own_mx (1 : Int32) (p2 &&& (2147483647 : Int32)))), .unset, .unset, .unset, .unset, .unset, .unset, .unset, .unset, .unset, .unset, .unset]) rfl k) ?_
    show OEnds p.tables e below G (T1073.setTop (mkF m 99 #[.val (.int p1), .val (.int p2), .val (.int p3), .val (.int p4), .val (.int p5), .val (.int p6), .val (.int (1 : Int32)), .val (.int v1068), .val (.int v1069), .val (.int v1070), .val (.int v1068), .val (.int v1072), .val (.int (own_mx (1 : Int32) (p2 &&& (2147483647 : Int32)))), .unset, .unset, .unset, .unset, .unset, .unset, .unset, .unset, .unset, .unset, .unset] []))
    generalize hv_v1074 : (own_mx (1 : Int32) (p2 &&& (2147483647 : Int32))) = v1074
    have hrel : ((1 : Nat) : Int) ≤ v1074.toInt := by
      have q := (own_mxge (1 : Int32) (p2 &&& (2147483647 : Int32))).1
      rw [hv_v1074] at q
      have kn : (1 : Int32).toInt = 1 := by decide
      omega
    have hr0 : ¬ v1074 = (0 : Int32) := fun q => by
      have k0 : (0 : Int32).toInt = 0 := by decide
      rw [q] at hrel
      omega
    have rest115_1075 : ∀ (r2 : Int32) (hR2 : (v1074 = (2147483647 : Int32)) ∨ (¬ v1074 = (2147483647 : Int32) ∧ r2.toInt = v1074.toInt + 1)), OEnds p.tables e below G (T1073.setTop (mkF m 115 #[.val (.int p1), .val (.int p2), .val (.int p3), .val (.int p4), .val (.int p5), .val (.int p6), .val (.int (1 : Int32)), .val (.int v1068), .val (.int v1069), .val (.int v1070), .val (.int v1068), .val (.int v1072), .val (.int v1074), .unset, .unset, .unset, .unset, .unset, .unset, .unset, .unset, .unset, .unset, .unset] [(.int r2)])) := by
      intro r2 hR2
      show OEnds p.tables e below G (T1073.setTop (mkF m 115 #[.val (.int p1), .val (.int p2), .val (.int p3), .val (.int p4), .val (.int p5), .val (.int p6), .val (.int (1 : Int32)), .val (.int v1068), .val (.int v1069), .val (.int v1070), .val (.int v1068), .val (.int v1072), .val (.int v1074), .unset, .unset, .unset, .unset, .unset, .unset, .unset, .unset, .unset, .unset, .unset] [(.int r2)]))
      refine OEnds.st (fun _ k => XS.istore X1073.here hx rfl (hb hby at_115) rfl (l' := #[.val (.int p1), .val (.int p2), .val (.int p3), .val (.int p4), .val (.int p5), .val (.int p6), .val (.int (1 : Int32)), .val (.int v1068), .val (.int v1069), .val (.int v1070), .val (.int v1068), .val (.int v1072), .val (.int v1074), .val (.int r2), .unset, .unset, .unset, .unset, .unset, .unset, .unset, .unset, .unset, .unset]) rfl k) ?_
      show OEnds p.tables e below G (T1073.setTop (mkF m 117 #[.val (.int p1), .val (.int p2), .val (.int p3), .val (.int p4), .val (.int p5), .val (.int p6), .val (.int (1 : Int32)), .val (.int v1068), .val (.int v1069), .val (.int v1070), .val (.int v1068), .val (.int v1072), .val (.int v1074), .val (.int r2), .unset, .unset, .unset, .unset, .unset, .unset, .unset, .unset, .unset, .unset] []))
      refine OEnds.st (fun _ k => XS.iload X1073.here hx rfl (hb hby at_117) rfl k) ?_
      show OEnds p.tables e below G (T1073.setTop (mkF m 119 #[.val (.int p1), .val (.int p2), .val (.int p3), .val (.int p4), .val (.int p5), .val (.int p6), .val (.int (1 : Int32)), .val (.int v1068), .val (.int v1069), .val (.int v1070), .val (.int v1068), .val (.int v1072), .val (.int v1074), .val (.int r2), .unset, .unset, .unset, .unset, .unset, .unset, .unset, .unset, .unset, .unset] [(.int (1 : Int32))]))
      refine OEnds.st (fun _ k => XS.iload X1073.here hx rfl (hb hby at_119) rfl k) ?_
      show OEnds p.tables e below G (T1073.setTop (mkF m 121 #[.val (.int p1), .val (.int p2), .val (.int p3), .val (.int p4), .val (.int p5), .val (.int p6), .val (.int (1 : Int32)), .val (.int v1068), .val (.int v1069), .val (.int v1070), .val (.int v1068), .val (.int v1072), .val (.int v1074), .val (.int r2), .unset, .unset, .unset, .unset, .unset, .unset, .unset, .unset, .unset, .unset] [(.int v1068), (.int (1 : Int32))]))
      refine OEnds.st (fun _ k => XS.iload X1073.here hx rfl (hb hby at_121) rfl k) ?_
      show OEnds p.tables e below G (T1073.setTop (mkF m 123 #[.val (.int p1), .val (.int p2), .val (.int p3), .val (.int p4), .val (.int p5), .val (.int p6), .val (.int (1 : Int32)), .val (.int v1068), .val (.int v1069), .val (.int v1070), .val (.int v1068), .val (.int v1072), .val (.int v1074), .val (.int r2), .unset, .unset, .unset, .unset, .unset, .unset, .unset, .unset, .unset, .unset] [(.int v1069), (.int v1068), (.int (1 : Int32))]))
      refine OEnds.st (fun _ k => XS.iload X1073.here hx rfl (hb hby at_123) rfl k) ?_
      show OEnds p.tables e below G (T1073.setTop (mkF m 125 #[.val (.int p1), .val (.int p2), .val (.int p3), .val (.int p4), .val (.int p5), .val (.int p6), .val (.int (1 : Int32)), .val (.int v1068), .val (.int v1069), .val (.int v1070), .val (.int v1068), .val (.int v1072), .val (.int v1074), .val (.int r2), .unset, .unset, .unset, .unset, .unset, .unset, .unset, .unset, .unset, .unset] [(.int v1070), (.int v1069), (.int v1068), (.int (1 : Int32))]))
      obtain ⟨_, _, ⟨T1076, L1076, k1076c, n1076c⟩, -, X1076, ⟨Lc1076, hQ1076, l1076, y1076, z1076⟩, st1076⟩ := Jvm.LawKit.callS X1073 hx (y := (⟨"com/example/words_to_weights/wordstoweights/evaluation/JudgedRankingSetRecallPinLaw", "ranks", "(IIII)[I"⟩ : MethodName)) hown (mvT hZ (hw _ (List.mem_of_getElem? (i := 6) rfl))) (mvT hZ (hw _ (List.mem_of_getElem? (i := 7) rfl))) (mvT hZ (hw _ (List.mem_of_getElem? (i := 8) rfl))) (mvT hZ (hw _ (List.mem_of_getElem? (i := 9) rfl))) (by decide) (backOf (W := 0) (rmrk1 l Z a0 hw [] v1068 v1069 v1070 h0 n0 Z0 ) hZ (hw _ (List.mem_of_getElem? (i := 9) rfl)) (hw _ (List.mem_of_getElem? (i := 8) rfl)) (by decide) (by decide)) (g := (mkF m 125 #[.val (.int p1), .val (.int p2), .val (.int p3), .val (.int p4), .val (.int p5), .val (.int p6), .val (.int (1 : Int32)), .val (.int v1068), .val (.int v1069), .val (.int v1070), .val (.int v1068), .val (.int v1072), .val (.int v1074), .val (.int r2), .unset, .unset, .unset, .unset, .unset, .unset, .unset, .unset, .unset, .unset] [(.int v1070), (.int v1069), (.int v1068), (.int (1 : Int32))])) rfl (by rw [hml]; rfl) (argsL := [(.int (1 : Int32)), (.int v1068), (.int v1069), (.int v1070)]) (rest := []) (lenOf pd_2 rfl) rfl (by show 2 * 0 + _ ≤ _; exact Nat.le_of_eq rfl) (hb hby at_125) (fun _ _ => ⟨rfl, e1073, (by decide : 0 + 0 + 0 + 1 ≤ _), (by decide : 0 + 0 + 0 + 1 ≤ _)⟩)
      dsimp only [Pt.U, Pt.locs, Pt.cells, Pt.slots] at X1076 l1076 y1076 z1076 st1076 hQ1076
      subst l1076 y1076 z1076
      obtain ⟨b_1076, kb_1076, rfl, N1076q, p1077, p1078, p1079⟩ := hQ1076
      have N1076 := Fr.app N1073 N1076q
      refine OEnds.st st1076 ?_
      clear st1076
      have sz_b_1076 : h0.size ≤ b_1076 := Nat.le_trans KK0.1 p1078
      have ge_b_1076 : n0 ≤ b_1076 := Nat.le_trans Z0 p1078
      have KK1076 : Keep h0 T1076.heap [] := KK0.trans p1077 (fun x hx => absurd hx List.not_mem_nil)
      have Z1076 := Nat.le_trans Z0 p1077.1
      show OEnds p.tables e below G (T1076.setTop (mkF m 128 #[.val (.int p1), .val (.int p2), .val (.int p3), .val (.int p4), .val (.int p5), .val (.int p6), .val (.int (1 : Int32)), .val (.int v1068), .val (.int v1069), .val (.int v1070), .val (.int v1068), .val (.int v1072), .val (.int v1074), .val (.int r2), .unset, .unset, .unset, .unset, .unset, .unset, .unset, .unset, .unset, .unset] [(.ref b_1076)]))
      refine OEnds.st (fun _ k => XS.astore X1076.here hx rfl (hb hby at_128) rfl rfl (l' := #[.val (.int p1), .val (.int p2), .val (.int p3), .val (.int p4), .val (.int p5), .val (.int p6), .val (.int (1 : Int32)), .val (.int v1068), .val (.int v1069), .val (.int v1070), .val (.int v1068), .val (.int v1072), .val (.int v1074), .val (.int r2), .val (.ref b_1076), .unset, .unset, .unset, .unset, .unset, .unset, .unset, .unset, .unset]) rfl k) ?_
      show OEnds p.tables e below G (T1076.setTop (mkF m 130 #[.val (.int p1), .val (.int p2), .val (.int p3), .val (.int p4), .val (.int p5), .val (.int p6), .val (.int (1 : Int32)), .val (.int v1068), .val (.int v1069), .val (.int v1070), .val (.int v1068), .val (.int v1072), .val (.int v1074), .val (.int r2), .val (.ref b_1076), .unset, .unset, .unset, .unset, .unset, .unset, .unset, .unset, .unset] []))
      obtain ⟨T1080, h1080, X1080, e1080, E1080, A1080, D1080, -, st1080⟩ := newO X1076 hx hZ hown (hw _ (List.mem_of_getElem? (i := 11) rfl)) (hw _ (List.mem_of_getElem? (i := 12) rfl)) (hw _ (List.mem_of_getElem? (i := 13) rfl)) rfl (g := (mkF m 130 #[.val (.int p1), .val (.int p2), .val (.int p3), .val (.int p4), .val (.int p5), .val (.int p6), .val (.int (1 : Int32)), .val (.int v1068), .val (.int v1069), .val (.int v1070), .val (.int v1068), .val (.int v1072), .val (.int v1074), .val (.int r2), .val (.ref b_1076), .unset, .unset, .unset, .unset, .unset, .unset, .unset, .unset, .unset] [])) rfl (hb hby at_130) (by decide) (by decide)
      obtain ⟨b1080, g1080⟩ : ∃ z, z = T1076.heap.size := ⟨_, rfl⟩
      rw [← g1080] at A1080 D1080 st1080
      refine OEnds.st st1080 ?_
      clear st1080
      have ne1081 : b_1076 ≠ b1080 := Nat.ne_of_lt (Nat.lt_of_lt_of_le (p1079).lt (Nat.le_of_eq g1080.symm))
      have ge_b1080 : n0 ≤ b1080 := Nat.le_trans Z1076 (Nat.le_of_eq g1080.symm)
      have sz_b1080 : h0.size ≤ b1080 := Nat.le_trans KK1076.1 (Nat.le_of_eq g1080.symm)
      have f1082 : Arv Z h1080 b_1076 kb_1076 .int (1 : Int32) [(.int v1068)] (.int (0 : Int32)) := p1079.ext E1080
      have KK1080 : Keep h0 h1080 [] := KK1076.ext E1080
      have Z1080 := Nat.le_trans Z1076 E1080.1
      have ex_b1080 := A1080
      have f1083 : Fld Z h1080 b1080 "com/example/words_to_weights/wordstoweights/evaluation/JudgedRanking" "retrieved" "I" (.int (0 : Int32)) := D1080 (Or.inr (hw _ (List.mem_of_getElem? (i := 21) rfl))) (ty := .int) (by decide)
      have f1084 : Fld Z h1080 b1080 "com/example/words_to_weights/wordstoweights/evaluation/JudgedRanking" "relevant" "I" (.int (0 : Int32)) := D1080 (Or.inr (hw _ (List.mem_of_getElem? (i := 23) rfl))) (ty := .int) (by decide)
      have f1085 : Fld Z h1080 b1080 "com/example/words_to_weights/wordstoweights/evaluation/JudgedRanking" "relevantRanks" "[I" .null := D1080 (Or.inr (hw _ (List.mem_of_getElem? (i := 25) rfl))) (ty := (.array .int)) (by decide)
      show OEnds p.tables e below G (T1080.setTop (mkF m 133 #[.val (.int p1), .val (.int p2), .val (.int p3), .val (.int p4), .val (.int p5), .val (.int p6), .val (.int (1 : Int32)), .val (.int v1068), .val (.int v1069), .val (.int v1070), .val (.int v1068), .val (.int v1072), .val (.int v1074), .val (.int r2), .val (.ref b_1076), .unset, .unset, .unset, .unset, .unset, .unset, .unset, .unset, .unset] [(.ref b1080)]))
      refine OEnds.st (fun _ k => XS.dup X1080.here hx rfl (hb hby at_133) rfl rfl k) ?_
      show OEnds p.tables e below G (T1080.setTop (mkF m 134 #[.val (.int p1), .val (.int p2), .val (.int p3), .val (.int p4), .val (.int p5), .val (.int p6), .val (.int (1 : Int32)), .val (.int v1068), .val (.int v1069), .val (.int v1070), .val (.int v1068), .val (.int v1072), .val (.int v1074), .val (.int r2), .val (.ref b_1076), .unset, .unset, .unset, .unset, .unset, .unset, .unset, .unset, .unset] [(.ref b1080), (.ref b1080)]))
      refine OEnds.st (fun _ k => XS.iload X1080.here hx rfl (hb hby at_134) rfl k) ?_
      show OEnds p.tables e below G (T1080.setTop (mkF m 136 #[.val (.int p1), .val (.int p2), .val (.int p3), .val (.int p4), .val (.int p5), .val (.int p6), .val (.int (1 : Int32)), .val (.int v1068), .val (.int v1069), .val (.int v1070), .val (.int v1068), .val (.int v1072), .val (.int v1074), .val (.int r2), .val (.ref b_1076), .unset, .unset, .unset, .unset, .unset, .unset, .unset, .unset, .unset] [(.int v1072), (.ref b1080), (.ref b1080)]))
      refine OEnds.st (fun _ k => XS.iload X1080.here hx rfl (hb hby at_136) rfl k) ?_
      show OEnds p.tables e below G (T1080.setTop (mkF m 138 #[.val (.int p1), .val (.int p2), .val (.int p3), .val (.int p4), .val (.int p5), .val (.int p6), .val (.int (1 : Int32)), .val (.int v1068), .val (.int v1069), .val (.int v1070), .val (.int v1068), .val (.int v1072), .val (.int v1074), .val (.int r2), .val (.ref b_1076), .unset, .unset, .unset, .unset, .unset, .unset, .unset, .unset, .unset] [(.int v1074), (.int v1072), (.ref b1080), (.ref b1080)]))
      refine OEnds.st (fun _ k => XS.aload X1080.here hx rfl (hb hby at_138) rfl rfl k) ?_
      show OEnds p.tables e below G (T1080.setTop (mkF m 140 #[.val (.int p1), .val (.int p2), .val (.int p3), .val (.int p4), .val (.int p5), .val (.int p6), .val (.int (1 : Int32)), .val (.int v1068), .val (.int v1069), .val (.int v1070), .val (.int v1068), .val (.int v1072), .val (.int v1074), .val (.int r2), .val (.ref b_1076), .unset, .unset, .unset, .unset, .unset, .unset, .unset, .unset, .unset] [(.ref b_1076), (.int v1074), (.int v1072), (.ref b1080), (.ref b1080)]))
      obtain ⟨_, _, ⟨T1086, L1086, k1086c, n1086c⟩, -, X1086, ⟨Lc1086, hQ1086, l1086, y1086, z1086⟩, st1086⟩ := X1080.specialBack hx (y := (⟨"com/example/words_to_weights/wordstoweights/evaluation/JudgedRanking", "<init>", "(II[I)V"⟩ : MethodName)) rfl hown (mvT hZ (hw _ (List.mem_of_getElem? (i := 14) rfl))) (mvT hZ (hw _ (List.mem_of_getElem? (i := 15) rfl))) (mvT hZ (hw _ (List.mem_of_getElem? (i := 16) rfl))) (by decide) (backOf (W := 1) (rm3 l Z a0 hw [] b1080 v1072 v1074 b_1076 h1080 n0 Z1080 ex_b1080 f1083 f1084 f1085 ge_b1080) hZ (hw _ (List.mem_of_getElem? (i := 16) rfl)) (hw _ (List.mem_of_getElem? (i := 13) rfl)) (by decide) (by decide)) (g := (mkF m 140 #[.val (.int p1), .val (.int p2), .val (.int p3), .val (.int p4), .val (.int p5), .val (.int p6), .val (.int (1 : Int32)), .val (.int v1068), .val (.int v1069), .val (.int v1070), .val (.int v1068), .val (.int v1072), .val (.int v1074), .val (.int r2), .val (.ref b_1076), .unset, .unset, .unset, .unset, .unset, .unset, .unset, .unset, .unset] [(.ref b_1076), (.int v1074), (.int v1072), (.ref b1080), (.ref b1080)])) rfl (by rw [hml]; rfl) (Steps.refl _) (a := b1080) (argsL := [(.int v1072), (.int v1074), (.ref b_1076)]) (rest := [(.ref b1080)]) (lenOf pd_3 rfl) rfl (by show 2 * 0 + _ ≤ _; exact Nat.le_of_eq rfl) (hb hby at_140) (fun _ _ => ⟨rfl, e1080, (by decide : 0 + 0 + 0 + 1 + 1 + 0 ≤ _), (by decide : 0 + 0 + 0 + 1 + 3 + 0 ≤ _)⟩)
      dsimp only [Pt.U, Pt.locs, Pt.cells, Pt.slots] at X1086 l1086 y1086 z1086 st1086 hQ1086
      subst l1086 y1086 z1086
      obtain ⟨rfl, N1086q, p1087, p1088, p1089, p1090⟩ := hQ1086
      have N1086 := Fr.app N1076 N1086q
      refine OEnds.st (fun _ k => st1086.trans k) ?_
      clear st1086
      have f1091 : Arv Z T1086.heap b_1076 kb_1076 .int (1 : Int32) [(.int v1068)] (.int (0 : Int32)) := f1082.keep p1087 (by simp only [List.mem_cons, List.not_mem_nil, or_false, not_or]; exact ne1081)
      have f1092 : Exa Z T1086.heap b1080 "com/example/words_to_weights/wordstoweights/evaluation/JudgedRanking" := ex_b1080.keep p1087
      have KK1086 : Keep h0 T1086.heap [] := KK1080.trans p1087 (fun x hx => by cases List.mem_singleton.mp hx; exact Or.inr sz_b1080)
      have Z1086 := Nat.le_trans Z1080 p1087.1
      show OEnds p.tables e below G (T1086.setTop (mkF m 143 #[.val (.int p1), .val (.int p2), .val (.int p3), .val (.int p4), .val (.int p5), .val (.int p6), .val (.int (1 : Int32)), .val (.int v1068), .val (.int v1069), .val (.int v1070), .val (.int v1068), .val (.int v1072), .val (.int v1074), .val (.int r2), .val (.ref b_1076), .unset, .unset, .unset, .unset, .unset, .unset, .unset, .unset, .unset] [(.ref b1080)]))
      refine OEnds.st (fun _ k => XS.astore X1086.here hx rfl (hb hby at_143) rfl rfl (l' := #[.val (.int p1), .val (.int p2), .val (.int p3), .val (.int p4), .val (.int p5), .val (.int p6), .val (.int (1 : Int32)), .val (.int v1068), .val (.int v1069), .val (.int v1070), .val (.int v1068), .val (.int v1072), .val (.int v1074), .val (.int r2), .val (.ref b_1076), .val (.ref b1080), .unset, .unset, .unset, .unset, .unset, .unset, .unset, .unset]) rfl k) ?_
      show OEnds p.tables e below G (T1086.setTop (mkF m 145 #[.val (.int p1), .val (.int p2), .val (.int p3), .val (.int p4), .val (.int p5), .val (.int p6), .val (.int (1 : Int32)), .val (.int v1068), .val (.int v1069), .val (.int v1070), .val (.int v1068), .val (.int v1072), .val (.int v1074), .val (.int r2), .val (.ref b_1076), .val (.ref b1080), .unset, .unset, .unset, .unset, .unset, .unset, .unset, .unset] []))
      obtain ⟨T1096, h1096, X1096, e1096, E1096, A1096, D1096, -, st1096⟩ := newO X1086 hx hZ hown (hw _ (List.mem_of_getElem? (i := 11) rfl)) (hw _ (List.mem_of_getElem? (i := 12) rfl)) (hw _ (List.mem_of_getElem? (i := 13) rfl)) rfl (g := (mkF m 145 #[.val (.int p1), .val (.int p2), .val (.int p3), .val (.int p4), .val (.int p5), .val (.int p6), .val (.int (1 : Int32)), .val (.int v1068), .val (.int v1069), .val (.int v1070), .val (.int v1068), .val (.int v1072), .val (.int v1074), .val (.int r2), .val (.ref b_1076), .val (.ref b1080), .unset, .unset, .unset, .unset, .unset, .unset, .unset, .unset] [])) rfl (hb hby at_145) (by decide) (by decide)
      obtain ⟨b1096, g1096⟩ : ∃ z, z = T1086.heap.size := ⟨_, rfl⟩
      rw [← g1096] at A1096 D1096 st1096
      refine OEnds.st st1096 ?_
      clear st1096
      have ne1097 : b_1076 ≠ b1096 := Nat.ne_of_lt (Nat.lt_of_lt_of_le (f1091).lt (Nat.le_of_eq g1096.symm))
      have ne1098 : b1080 ≠ b1096 := Nat.ne_of_lt (Nat.lt_of_lt_of_le (p1088).lt (Nat.le_of_eq g1096.symm))
      have ge_b1096 : n0 ≤ b1096 := Nat.le_trans Z1086 (Nat.le_of_eq g1096.symm)
      have sz_b1096 : h0.size ≤ b1096 := Nat.le_trans KK1086.1 (Nat.le_of_eq g1096.symm)
      have f1099 : Arv Z h1096 b_1076 kb_1076 .int (1 : Int32) [(.int v1068)] (.int (0 : Int32)) := f1091.ext E1096
      have f1100 : Exa Z h1096 b1080 "com/example/words_to_weights/wordstoweights/evaluation/JudgedRanking" := p1088.ext E1096
      have f1101 : Fld Z h1096 b1080 "com/example/words_to_weights/wordstoweights/evaluation/JudgedRanking" "relevant" "I" (.int v1074) := p1089.ext E1096
      have f1102 : Fld Z h1096 b1080 "com/example/words_to_weights/wordstoweights/evaluation/JudgedRanking" "relevantRanks" "[I" (.ref b_1076) := p1090.ext E1096
      have KK1096 : Keep h0 h1096 [] := KK1086.ext E1096
      have Z1096 := Nat.le_trans Z1086 E1096.1
      have ex_b1096 := A1096
      have f1103 : Fld Z h1096 b1096 "com/example/words_to_weights/wordstoweights/evaluation/JudgedRanking" "retrieved" "I" (.int (0 : Int32)) := D1096 (Or.inr (hw _ (List.mem_of_getElem? (i := 21) rfl))) (ty := .int) (by decide)
      have f1104 : Fld Z h1096 b1096 "com/example/words_to_weights/wordstoweights/evaluation/JudgedRanking" "relevant" "I" (.int (0 : Int32)) := D1096 (Or.inr (hw _ (List.mem_of_getElem? (i := 23) rfl))) (ty := .int) (by decide)
      have f1105 : Fld Z h1096 b1096 "com/example/words_to_weights/wordstoweights/evaluation/JudgedRanking" "relevantRanks" "[I" .null := D1096 (Or.inr (hw _ (List.mem_of_getElem? (i := 25) rfl))) (ty := (.array .int)) (by decide)
      show OEnds p.tables e below G (T1096.setTop (mkF m 148 #[.val (.int p1), .val (.int p2), .val (.int p3), .val (.int p4), .val (.int p5), .val (.int p6), .val (.int (1 : Int32)), .val (.int v1068), .val (.int v1069), .val (.int v1070), .val (.int v1068), .val (.int v1072), .val (.int v1074), .val (.int r2), .val (.ref b_1076), .val (.ref b1080), .unset, .unset, .unset, .unset, .unset, .unset, .unset, .unset] [(.ref b1096)]))
      refine OEnds.st (fun _ k => XS.dup X1096.here hx rfl (hb hby at_148) rfl rfl k) ?_
      show OEnds p.tables e below G (T1096.setTop (mkF m 149 #[.val (.int p1), .val (.int p2), .val (.int p3), .val (.int p4), .val (.int p5), .val (.int p6), .val (.int (1 : Int32)), .val (.int v1068), .val (.int v1069), .val (.int v1070), .val (.int v1068), .val (.int v1072), .val (.int v1074), .val (.int r2), .val (.ref b_1076), .val (.ref b1080), .unset, .unset, .unset, .unset, .unset, .unset, .unset, .unset] [(.ref b1096), (.ref b1096)]))
      refine OEnds.st (fun _ k => XS.iload X1096.here hx rfl (hb hby at_149) rfl k) ?_
      show OEnds p.tables e below G (T1096.setTop (mkF m 151 #[.val (.int p1), .val (.int p2), .val (.int p3), .val (.int p4), .val (.int p5), .val (.int p6), .val (.int (1 : Int32)), .val (.int v1068), .val (.int v1069), .val (.int v1070), .val (.int v1068), .val (.int v1072), .val (.int v1074), .val (.int r2), .val (.ref b_1076), .val (.ref b1080), .unset, .unset, .unset, .unset, .unset, .unset, .unset, .unset] [(.int v1072), (.ref b1096), (.ref b1096)]))
      refine OEnds.st (fun _ k => XS.iload X1096.here hx rfl (hb hby at_151) rfl k) ?_
      show OEnds p.tables e below G (T1096.setTop (mkF m 153 #[.val (.int p1), .val (.int p2), .val (.int p3), .val (.int p4), .val (.int p5), .val (.int p6), .val (.int (1 : Int32)), .val (.int v1068), .val (.int v1069), .val (.int v1070), .val (.int v1068), .val (.int v1072), .val (.int v1074), .val (.int r2), .val (.ref b_1076), .val (.ref b1080), .unset, .unset, .unset, .unset, .unset, .unset, .unset, .unset] [(.int r2), (.int v1072), (.ref b1096), (.ref b1096)]))
      refine OEnds.st (fun _ k => XS.aload X1096.here hx rfl (hb hby at_153) rfl rfl k) ?_
      show OEnds p.tables e below G (T1096.setTop (mkF m 155 #[.val (.int p1), .val (.int p2), .val (.int p3), .val (.int p4), .val (.int p5), .val (.int p6), .val (.int (1 : Int32)), .val (.int v1068), .val (.int v1069), .val (.int v1070), .val (.int v1068), .val (.int v1072), .val (.int v1074), .val (.int r2), .val (.ref b_1076), .val (.ref b1080), .unset, .unset, .unset, .unset, .unset, .unset, .unset, .unset] [(.ref b_1076), (.int r2), (.int v1072), (.ref b1096), (.ref b1096)]))
      obtain ⟨_, _, ⟨T1106, L1106, k1106c, n1106c⟩, -, X1106, ⟨Lc1106, hQ1106, l1106, y1106, z1106⟩, st1106⟩ := X1096.specialBack hx (y := (⟨"com/example/words_to_weights/wordstoweights/evaluation/JudgedRanking", "<init>", "(II[I)V"⟩ : MethodName)) rfl hown (mvT hZ (hw _ (List.mem_of_getElem? (i := 14) rfl))) (mvT hZ (hw _ (List.mem_of_getElem? (i := 15) rfl))) (mvT hZ (hw _ (List.mem_of_getElem? (i := 16) rfl))) (by decide) (backOf (W := 1) (rm3 l Z a0 hw [] b1096 v1072 r2 b_1076 h1096 n0 Z1096 ex_b1096 f1103 f1104 f1105 ge_b1096) hZ (hw _ (List.mem_of_getElem? (i := 16) rfl)) (hw _ (List.mem_of_getElem? (i := 13) rfl)) (by decide) (by decide)) (g := (mkF m 155 #[.val (.int p1), .val (.int p2), .val (.int p3), .val (.int p4), .val (.int p5), .val (.int p6), .val (.int (1 : Int32)), .val (.int v1068), .val (.int v1069), .val (.int v1070), .val (.int v1068), .val (.int v1072), .val (.int v1074), .val (.int r2), .val (.ref b_1076), .val (.ref b1080), .unset, .unset, .unset, .unset, .unset, .unset, .unset, .unset] [(.ref b_1076), (.int r2), (.int v1072), (.ref b1096), (.ref b1096)])) rfl (by rw [hml]; rfl) (Steps.refl _) (a := b1096) (argsL := [(.int v1072), (.int r2), (.ref b_1076)]) (rest := [(.ref b1096)]) (lenOf pd_3 rfl) rfl (by show 2 * 0 + _ ≤ _; exact Nat.le_of_eq rfl) (hb hby at_155) (fun _ _ => ⟨rfl, e1096, (by decide : 0 + 0 + 0 + 1 + 1 + 0 + 1 + 0 ≤ _), (by decide : 0 + 0 + 0 + 1 + 3 + 0 + 3 + 0 ≤ _)⟩)
      dsimp only [Pt.U, Pt.locs, Pt.cells, Pt.slots] at X1106 l1106 y1106 z1106 st1106 hQ1106
      subst l1106 y1106 z1106
      obtain ⟨rfl, N1106q, p1107, p1108, p1109, p1110⟩ := hQ1106
      have N1106 := Fr.app N1086 N1106q
      refine OEnds.st (fun _ k => st1106.trans k) ?_
      clear st1106
      have f1111 : Arv Z T1106.heap b_1076 kb_1076 .int (1 : Int32) [(.int v1068)] (.int (0 : Int32)) := f1099.keep p1107 (by simp only [List.mem_cons, List.not_mem_nil, or_false, not_or]; exact ne1097)
      have f1112 : Exa Z T1106.heap b1080 "com/example/words_to_weights/wordstoweights/evaluation/JudgedRanking" := f1100.keep p1107
      have f1113 : Fld Z T1106.heap b1080 "com/example/words_to_weights/wordstoweights/evaluation/JudgedRanking" "relevant" "I" (.int v1074) := f1101.keep p1107 (by simp only [List.mem_cons, List.not_mem_nil, or_false, not_or]; exact ne1098)
      have f1114 : Fld Z T1106.heap b1080 "com/example/words_to_weights/wordstoweights/evaluation/JudgedRanking" "relevantRanks" "[I" (.ref b_1076) := f1102.keep p1107 (by simp only [List.mem_cons, List.not_mem_nil, or_false, not_or]; exact ne1098)
      have f1115 : Exa Z T1106.heap b1096 "com/example/words_to_weights/wordstoweights/evaluation/JudgedRanking" := ex_b1096.keep p1107
      have KK1106 : Keep h0 T1106.heap [] := KK1096.trans p1107 (fun x hx => by cases List.mem_singleton.mp hx; exact Or.inr sz_b1096)
      have Z1106 := Nat.le_trans Z1096 p1107.1
      show OEnds p.tables e below G (T1106.setTop (mkF m 158 #[.val (.int p1), .val (.int p2), .val (.int p3), .val (.int p4), .val (.int p5), .val (.int p6), .val (.int (1 : Int32)), .val (.int v1068), .val (.int v1069), .val (.int v1070), .val (.int v1068), .val (.int v1072), .val (.int v1074), .val (.int r2), .val (.ref b_1076), .val (.ref b1080), .unset, .unset, .unset, .unset, .unset, .unset, .unset, .unset] [(.ref b1096)]))
      refine OEnds.st (fun _ k => XS.astore X1106.here hx rfl (hb hby at_158) rfl rfl (l' := #[.val (.int p1), .val (.int p2), .val (.int p3), .val (.int p4), .val (.int p5), .val (.int p6), .val (.int (1 : Int32)), .val (.int v1068), .val (.int v1069), .val (.int v1070), .val (.int v1068), .val (.int v1072), .val (.int v1074), .val (.int r2), .val (.ref b_1076), .val (.ref b1080), .val (.ref b1096), .unset, .unset, .unset, .unset, .unset, .unset, .unset]) rfl k) ?_
      show OEnds p.tables e below G (T1106.setTop (mkF m 160 #[.val (.int p1), .val (.int p2), .val (.int p3), .val (.int p4), .val (.int p5), .val (.int p6), .val (.int (1 : Int32)), .val (.int v1068), .val (.int v1069), .val (.int v1070), .val (.int v1068), .val (.int v1072), .val (.int v1074), .val (.int r2), .val (.ref b_1076), .val (.ref b1080), .val (.ref b1096), .unset, .unset, .unset, .unset, .unset, .unset, .unset] []))
      refine OEnds.st (fun _ k => XS.aload X1106.here hx rfl (hb hby at_160) rfl rfl k) ?_
      show OEnds p.tables e below G (T1106.setTop (mkF m 162 #[.val (.int p1), .val (.int p2), .val (.int p3), .val (.int p4), .val (.int p5), .val (.int p6), .val (.int (1 : Int32)), .val (.int v1068), .val (.int v1069), .val (.int v1070), .val (.int v1068), .val (.int v1072), .val (.int v1074), .val (.int r2), .val (.ref b_1076), .val (.ref b1080), .val (.ref b1096), .unset, .unset, .unset, .unset, .unset, .unset, .unset] [(.ref b1080)]))
      obtain ⟨cq1119, kq1119, q1119a, q1119b, q1119c⟩ := isOf hZ rfl f1112
      obtain ⟨_, _, ⟨T1119, L1119, k1119c, n1119c⟩, -, X1119, ⟨Lc1119, hQ1119, l1119, y1119, z1119⟩, st1119⟩ := X1106.virtualBack hx (y := (⟨"com/example/words_to_weights/wordstoweights/evaluation/JudgedRanking", "setRecall", "()D"⟩ : MethodName)) (z := (⟨"com/example/words_to_weights/wordstoweights/evaluation/JudgedRanking", "setRecall", "()D"⟩ : MethodName)) hown (mvT hZ (hw _ (List.mem_of_getElem? (i := 26) rfl))) (mvT hZ (hw _ (List.mem_of_getElem? (i := 27) rfl))) (notFace_of_selects (args := #[]) (mvT hZ (hw _ (List.mem_of_getElem? (i := 29) rfl)))) (mvT hZ (hw _ (List.mem_of_getElem? (i := 29) rfl))) (mvT hZ (hw _ (List.mem_of_getElem? (i := 28) rfl))) (by decide) (backOf (W := 0) (rmsr1 l Z a0 hw [] b1080 v1074 b_1076 kb_1076 ([(.int v1068)]) T1106.heap n0 Z1106 f1113 f1114 f1111) hZ (hw _ (List.mem_of_getElem? (i := 30) rfl)) (hw _ (List.mem_of_getElem? (i := 13) rfl)) (by decide) (by decide)) q1119a q1119c (g := (mkF m 162 #[.val (.int p1), .val (.int p2), .val (.int p3), .val (.int p4), .val (.int p5), .val (.int p6), .val (.int (1 : Int32)), .val (.int v1068), .val (.int v1069), .val (.int v1070), .val (.int v1068), .val (.int v1072), .val (.int v1074), .val (.int r2), .val (.ref b_1076), .val (.ref b1080), .val (.ref b1096), .unset, .unset, .unset, .unset, .unset, .unset, .unset] [(.ref b1080)])) rfl (by rw [hml]; rfl) (Steps.refl _) (argsL := []) (rest := []) (lenOf pd_4 rfl) rfl (by show 2 * 0 + _ ≤ _; exact Nat.le_of_eq rfl) (hb hby at_162) (fun _ _ => ⟨rfl, rfl, (by decide : 0 + 0 + 0 + 1 + 1 + 0 + 1 + 0 + 0 ≤ _), (by decide : 0 + 0 + 0 + 1 + 3 + 0 + 3 + 0 + 0 ≤ _)⟩)
      dsimp only [Pt.U, Pt.locs, Pt.cells, Pt.slots] at X1119 l1119 y1119 z1119 st1119 hQ1119
      subst l1119 y1119 z1119
      obtain ⟨rfl, N1119q, e1119⟩ := hQ1119
      have N1119 := Fr.app N1106 N1119q
      refine OEnds.st (fun _ k => st1119.trans k) ?_
      clear st1119
      show OEnds p.tables e below G (T1119.setTop (mkF m 165 #[.val (.int p1), .val (.int p2), .val (.int p3), .val (.int p4), .val (.int p5), .val (.int p6), .val (.int (1 : Int32)), .val (.int v1068), .val (.int v1069), .val (.int v1070), .val (.int v1068), .val (.int v1072), .val (.int v1074), .val (.int r2), .val (.ref b_1076), .val (.ref b1080), .val (.ref b1096), .unset, .unset, .unset, .unset, .unset, .unset, .unset] [(.double (own_rc (4607182418800017408 : UInt64) v1074))]))
      refine OEnds.st (fun _ k => XS.dstore X1119.here hx rfl (hb hby at_165) rfl (l' := #[.val (.int p1), .val (.int p2), .val (.int p3), .val (.int p4), .val (.int p5), .val (.int p6), .val (.int (1 : Int32)), .val (.int v1068), .val (.int v1069), .val (.int v1070), .val (.int v1068), .val (.int v1072), .val (.int v1074), .val (.int r2), .val (.ref b_1076), .val (.ref b1080), .val (.ref b1096), .val (.double (own_rc (4607182418800017408 : UInt64) v1074)), .second, .unset, .unset, .unset, .unset, .unset]) rfl k) ?_
      show OEnds p.tables e below G (T1119.setTop (mkF m 167 #[.val (.int p1), .val (.int p2), .val (.int p3), .val (.int p4), .val (.int p5), .val (.int p6), .val (.int (1 : Int32)), .val (.int v1068), .val (.int v1069), .val (.int v1070), .val (.int v1068), .val (.int v1072), .val (.int v1074), .val (.int r2), .val (.ref b_1076), .val (.ref b1080), .val (.ref b1096), .val (.double (own_rc (4607182418800017408 : UInt64) v1074)), .second, .unset, .unset, .unset, .unset, .unset] []))
      refine OEnds.st (fun _ k => XS.aload X1119.here hx rfl (hb hby at_167) rfl rfl k) ?_
      show OEnds p.tables e below G (T1119.setTop (mkF m 169 #[.val (.int p1), .val (.int p2), .val (.int p3), .val (.int p4), .val (.int p5), .val (.int p6), .val (.int (1 : Int32)), .val (.int v1068), .val (.int v1069), .val (.int v1070), .val (.int v1068), .val (.int v1072), .val (.int v1074), .val (.int r2), .val (.ref b_1076), .val (.ref b1080), .val (.ref b1096), .val (.double (own_rc (4607182418800017408 : UInt64) v1074)), .second, .unset, .unset, .unset, .unset, .unset] [(.ref b1080)]))
      refine OEnds.st (fun _ k => XS.iload X1119.here hx rfl (hb hby at_169) rfl k) ?_
      show OEnds p.tables e below G (T1119.setTop (mkF m 171 #[.val (.int p1), .val (.int p2), .val (.int p3), .val (.int p4), .val (.int p5), .val (.int p6), .val (.int (1 : Int32)), .val (.int v1068), .val (.int v1069), .val (.int v1070), .val (.int v1068), .val (.int v1072), .val (.int v1074), .val (.int r2), .val (.ref b_1076), .val (.ref b1080), .val (.ref b1096), .val (.double (own_rc (4607182418800017408 : UInt64) v1074)), .second, .unset, .unset, .unset, .unset, .unset] [(.int v1072), (.ref b1080)]))
      obtain ⟨cq1120, kq1120, q1120a, q1120b, q1120c⟩ := isOf hZ e1119 f1112
      obtain ⟨_, _, ⟨T1120, L1120, k1120c, n1120c⟩, -, X1120, ⟨Lc1120, hQ1120, l1120, y1120, z1120⟩, st1120⟩ := X1119.virtualBack hx (y := (⟨"com/example/words_to_weights/wordstoweights/evaluation/JudgedRanking", "recallAt", "(I)D"⟩ : MethodName)) (z := (⟨"com/example/words_to_weights/wordstoweights/evaluation/JudgedRanking", "recallAt", "(I)D"⟩ : MethodName)) hown (mvT hZ (hw _ (List.mem_of_getElem? (i := 31) rfl))) (mvT hZ (hw _ (List.mem_of_getElem? (i := 32) rfl))) (notFace_of_selects (args := #[]) (mvT hZ (hw _ (List.mem_of_getElem? (i := 34) rfl)))) (mvT hZ (hw _ (List.mem_of_getElem? (i := 34) rfl))) (mvT hZ (hw _ (List.mem_of_getElem? (i := 33) rfl))) (by decide) (backOf (W := 0) (rmra1 l Z a0 hw [] b1080 v1072 v1074 b_1076 kb_1076 v1068 T1106.heap n0 Z1106 f1112 f1113 f1114 f1111 hk1) hZ (hw _ (List.mem_of_getElem? (i := 35) rfl)) (hw _ (List.mem_of_getElem? (i := 13) rfl)) (by decide) (by decide)) q1120a q1120c (g := (mkF m 171 #[.val (.int p1), .val (.int p2), .val (.int p3), .val (.int p4), .val (.int p5), .val (.int p6), .val (.int (1 : Int32)), .val (.int v1068), .val (.int v1069), .val (.int v1070), .val (.int v1068), .val (.int v1072), .val (.int v1074), .val (.int r2), .val (.ref b_1076), .val (.ref b1080), .val (.ref b1096), .val (.double (own_rc (4607182418800017408 : UInt64) v1074)), .second, .unset, .unset, .unset, .unset, .unset] [(.int v1072), (.ref b1080)])) rfl (by rw [hml]; rfl) (Steps.refl _) (argsL := [(.int v1072)]) (rest := []) (lenOf pd_5 rfl) rfl (by show 2 * 0 + _ ≤ _; exact Nat.le_of_eq rfl) (hb hby at_171) (fun _ _ => ⟨rfl, e1119, (by decide : 0 + 0 + 0 + 1 + 1 + 0 + 1 + 0 + 0 + 0 ≤ _), (by decide : 0 + 0 + 0 + 1 + 3 + 0 + 3 + 0 + 0 + 0 ≤ _)⟩)
      dsimp only [Pt.U, Pt.locs, Pt.cells, Pt.slots] at X1120 l1120 y1120 z1120 st1120 hQ1120
      subst l1120 y1120 z1120
      obtain ⟨rfl, N1120q, e1120⟩ := hQ1120
      have N1120 := Fr.app N1119 N1120q
      refine OEnds.st (fun _ k => st1120.trans k) ?_
      clear st1120
      show OEnds p.tables e below G (T1120.setTop (mkF m 174 #[.val (.int p1), .val (.int p2), .val (.int p3), .val (.int p4), .val (.int p5), .val (.int p6), .val (.int (1 : Int32)), .val (.int v1068), .val (.int v1069), .val (.int v1070), .val (.int v1068), .val (.int v1072), .val (.int v1074), .val (.int r2), .val (.ref b_1076), .val (.ref b1080), .val (.ref b1096), .val (.double (own_rc (4607182418800017408 : UInt64) v1074)), .second, .unset, .unset, .unset, .unset, .unset] [(.double (own_rc (4607182418800017408 : UInt64) v1074))]))
      refine OEnds.st (fun _ k => XS.dstore X1120.here hx rfl (hb hby at_174) rfl (l' := #[.val (.int p1), .val (.int p2), .val (.int p3), .val (.int p4), .val (.int p5), .val (.int p6), .val (.int (1 : Int32)), .val (.int v1068), .val (.int v1069), .val (.int v1070), .val (.int v1068), .val (.int v1072), .val (.int v1074), .val (.int r2), .val (.ref b_1076), .val (.ref b1080), .val (.ref b1096), .val (.double (own_rc (4607182418800017408 : UInt64) v1074)), .second, .val (.double (own_rc (4607182418800017408 : UInt64) v1074)), .second, .unset, .unset, .unset]) rfl k) ?_
      show OEnds p.tables e below G (T1120.setTop (mkF m 176 #[.val (.int p1), .val (.int p2), .val (.int p3), .val (.int p4), .val (.int p5), .val (.int p6), .val (.int (1 : Int32)), .val (.int v1068), .val (.int v1069), .val (.int v1070), .val (.int v1068), .val (.int v1072), .val (.int v1074), .val (.int r2), .val (.ref b_1076), .val (.ref b1080), .val (.ref b1096), .val (.double (own_rc (4607182418800017408 : UInt64) v1074)), .second, .val (.double (own_rc (4607182418800017408 : UInt64) v1074)), .second, .unset, .unset, .unset] []))
      refine OEnds.st (fun _ k => XS.aload X1120.here hx rfl (hb hby at_176) rfl rfl k) ?_
      show OEnds p.tables e below G (T1120.setTop (mkF m 178 #[.val (.int p1), .val (.int p2), .val (.int p3), .val (.int p4), .val (.int p5), .val (.int p6), .val (.int (1 : Int32)), .val (.int v1068), .val (.int v1069), .val (.int v1070), .val (.int v1068), .val (.int v1072), .val (.int v1074), .val (.int r2), .val (.ref b_1076), .val (.ref b1080), .val (.ref b1096), .val (.double (own_rc (4607182418800017408 : UInt64) v1074)), .second, .val (.double (own_rc (4607182418800017408 : UInt64) v1074)), .second, .unset, .unset, .unset] [(.ref b1096)]))
      obtain ⟨cq1121, kq1121, q1121a, q1121b, q1121c⟩ := isOf hZ e1120 p1108
      obtain ⟨_, _, ⟨T1121, L1121, k1121c, n1121c⟩, -, X1121, ⟨Lc1121, hQ1121, l1121, y1121, z1121⟩, st1121⟩ := X1120.virtualBack hx (y := (⟨"com/example/words_to_weights/wordstoweights/evaluation/JudgedRanking", "setRecall", "()D"⟩ : MethodName)) (z := (⟨"com/example/words_to_weights/wordstoweights/evaluation/JudgedRanking", "setRecall", "()D"⟩ : MethodName)) hown (mvT hZ (hw _ (List.mem_of_getElem? (i := 26) rfl))) (mvT hZ (hw _ (List.mem_of_getElem? (i := 27) rfl))) (notFace_of_selects (args := #[]) (mvT hZ (hw _ (List.mem_of_getElem? (i := 29) rfl)))) (mvT hZ (hw _ (List.mem_of_getElem? (i := 29) rfl))) (mvT hZ (hw _ (List.mem_of_getElem? (i := 28) rfl))) (by decide) (backOf (W := 0) (rmsr1 l Z a0 hw [] b1096 r2 b_1076 kb_1076 ([(.int v1068)]) T1106.heap n0 Z1106 p1109 p1110 f1111) hZ (hw _ (List.mem_of_getElem? (i := 30) rfl)) (hw _ (List.mem_of_getElem? (i := 13) rfl)) (by decide) (by decide)) q1121a q1121c (g := (mkF m 178 #[.val (.int p1), .val (.int p2), .val (.int p3), .val (.int p4), .val (.int p5), .val (.int p6), .val (.int (1 : Int32)), .val (.int v1068), .val (.int v1069), .val (.int v1070), .val (.int v1068), .val (.int v1072), .val (.int v1074), .val (.int r2), .val (.ref b_1076), .val (.ref b1080), .val (.ref b1096), .val (.double (own_rc (4607182418800017408 : UInt64) v1074)), .second, .val (.double (own_rc (4607182418800017408 : UInt64) v1074)), .second, .unset, .unset, .unset] [(.ref b1096)])) rfl (by rw [hml]; rfl) (Steps.refl _) (argsL := []) (rest := []) (lenOf pd_4 rfl) rfl (by show 2 * 0 + _ ≤ _; exact Nat.le_of_eq rfl) (hb hby at_178) (fun _ _ => ⟨rfl, e1120, (by decide : 0 + 0 + 0 + 1 + 1 + 0 + 1 + 0 + 0 + 0 + 0 ≤ _), (by decide : 0 + 0 + 0 + 1 + 3 + 0 + 3 + 0 + 0 + 0 + 0 ≤ _)⟩)
      dsimp only [Pt.U, Pt.locs, Pt.cells, Pt.slots] at X1121 l1121 y1121 z1121 st1121 hQ1121
      subst l1121 y1121 z1121
      obtain ⟨rfl, N1121q, e1121⟩ := hQ1121
      have N1121 := Fr.app N1120 N1121q
      refine OEnds.st (fun _ k => st1121.trans k) ?_
      clear st1121
      show OEnds p.tables e below G (T1121.setTop (mkF m 181 #[.val (.int p1), .val (.int p2), .val (.int p3), .val (.int p4), .val (.int p5), .val (.int p6), .val (.int (1 : Int32)), .val (.int v1068), .val (.int v1069), .val (.int v1070), .val (.int v1068), .val (.int v1072), .val (.int v1074), .val (.int r2), .val (.ref b_1076), .val (.ref b1080), .val (.ref b1096), .val (.double (own_rc (4607182418800017408 : UInt64) v1074)), .second, .val (.double (own_rc (4607182418800017408 : UInt64) v1074)), .second, .unset, .unset, .unset] [(.double (own_rc (4607182418800017408 : UInt64) r2))]))
      refine OEnds.st (fun _ k => XS.dstore X1121.here hx rfl (hb hby at_181) rfl (l' := #[.val (.int p1), .val (.int p2), .val (.int p3), .val (.int p4), .val (.int p5), .val (.int p6), .val (.int (1 : Int32)), .val (.int v1068), .val (.int v1069), .val (.int v1070), .val (.int v1068), .val (.int v1072), .val (.int v1074), .val (.int r2), .val (.ref b_1076), .val (.ref b1080), .val (.ref b1096), .val (.double (own_rc (4607182418800017408 : UInt64) v1074)), .second, .val (.double (own_rc (4607182418800017408 : UInt64) v1074)), .second, .val (.double (own_rc (4607182418800017408 : UInt64) r2)), .second, .unset]) rfl k) ?_
      obtain ⟨M1, hP1, hM1, hM2, hM3⟩ := own_R own_B1 (by decide) hrel
      show OEnds p.tables e below G (T1121.setTop (mkF m 183 #[.val (.int p1), .val (.int p2), .val (.int p3), .val (.int p4), .val (.int p5), .val (.int p6), .val (.int (1 : Int32)), .val (.int v1068), .val (.int v1069), .val (.int v1070), .val (.int v1068), .val (.int v1072), .val (.int v1074), .val (.int r2), .val (.ref b_1076), .val (.ref b1080), .val (.ref b1096), .val (.double (own_rc (4607182418800017408 : UInt64) v1074)), .second, .val (.double (own_rc (4607182418800017408 : UInt64) v1074)), .second, .val (.double (own_rc (4607182418800017408 : UInt64) r2)), .second, .unset] []))
      refine OEnds.st (fun _ k => XS.dload X1121.here hx rfl (hb hby at_183) rfl k) ?_
      show OEnds p.tables e below G (T1121.setTop (mkF m 185 #[.val (.int p1), .val (.int p2), .val (.int p3), .val (.int p4), .val (.int p5), .val (.int p6), .val (.int (1 : Int32)), .val (.int v1068), .val (.int v1069), .val (.int v1070), .val (.int v1068), .val (.int v1072), .val (.int v1074), .val (.int r2), .val (.ref b_1076), .val (.ref b1080), .val (.ref b1096), .val (.double (own_rc (4607182418800017408 : UInt64) v1074)), .second, .val (.double (own_rc (4607182418800017408 : UInt64) v1074)), .second, .val (.double (own_rc (4607182418800017408 : UInt64) r2)), .second, .unset] [(.double (own_rc (4607182418800017408 : UInt64) v1074))]))
      refine OEnds.st (fun _ k => XS.dload X1121.here hx rfl (hb hby at_185) rfl k) ?_
      show OEnds p.tables e below G (T1121.setTop (mkF m 187 #[.val (.int p1), .val (.int p2), .val (.int p3), .val (.int p4), .val (.int p5), .val (.int p6), .val (.int (1 : Int32)), .val (.int v1068), .val (.int v1069), .val (.int v1070), .val (.int v1068), .val (.int v1072), .val (.int v1074), .val (.int r2), .val (.ref b_1076), .val (.ref b1080), .val (.ref b1096), .val (.double (own_rc (4607182418800017408 : UInt64) v1074)), .second, .val (.double (own_rc (4607182418800017408 : UInt64) v1074)), .second, .val (.double (own_rc (4607182418800017408 : UInt64) r2)), .second, .unset] [(.double (own_rc (4607182418800017408 : UInt64) v1074)), (.double (own_rc (4607182418800017408 : UInt64) v1074))]))
      refine OEnds.st (fun _ k => XS.dcmpS X1121.here hx rfl (hb hby at_187) rfl rfl k) ?_
      show OEnds p.tables e below G (T1121.setTop (mkF m 188 #[.val (.int p1), .val (.int p2), .val (.int p3), .val (.int p4), .val (.int p5), .val (.int p6), .val (.int (1 : Int32)), .val (.int v1068), .val (.int v1069), .val (.int v1070), .val (.int v1068), .val (.int v1072), .val (.int v1074), .val (.int r2), .val (.ref b_1076), .val (.ref b1080), .val (.ref b1096), .val (.double (own_rc (4607182418800017408 : UInt64) v1074)), .second, .val (.double (own_rc (4607182418800017408 : UInt64) v1074)), .second, .val (.double (own_rc (4607182418800017408 : UInt64) r2)), .second, .unset] [(.int (cmpValue (FP.dcmp (own_rc (4607182418800017408 : UInt64) v1074) (own_rc (4607182418800017408 : UInt64) v1074)) .l))]))
      have hc188_1122 : (cmpValue (FP.dcmp (own_rc (4607182418800017408 : UInt64) v1074) (own_rc (4607182418800017408 : UInt64) v1074)) .l) = (0 : Int32) := (own_ceq hP1 hP1 .l).mpr rfl
      refine OEnds.st (fun _ k => XS.ifNo X1121.here hx rfl (hb hby at_188) rfl ((if0 _ _).trans (teq hc188_1122).2) k) ?_
      show OEnds p.tables e below G (T1121.setTop (mkF m 191 #[.val (.int p1), .val (.int p2), .val (.int p3), .val (.int p4), .val (.int p5), .val (.int p6), .val (.int (1 : Int32)), .val (.int v1068), .val (.int v1069), .val (.int v1070), .val (.int v1068), .val (.int v1072), .val (.int v1074), .val (.int r2), .val (.ref b_1076), .val (.ref b1080), .val (.ref b1096), .val (.double (own_rc (4607182418800017408 : UInt64) v1074)), .second, .val (.double (own_rc (4607182418800017408 : UInt64) v1074)), .second, .val (.double (own_rc (4607182418800017408 : UInt64) r2)), .second, .unset] []))
      refine OEnds.st (fun _ k => XS.iconst X1121.here hx rfl (hb hby at_191) k) ?_
      show OEnds p.tables e below G (T1121.setTop (mkF m 192 #[.val (.int p1), .val (.int p2), .val (.int p3), .val (.int p4), .val (.int p5), .val (.int p6), .val (.int (1 : Int32)), .val (.int v1068), .val (.int v1069), .val (.int v1070), .val (.int v1068), .val (.int v1072), .val (.int v1074), .val (.int r2), .val (.ref b_1076), .val (.ref b1080), .val (.ref b1096), .val (.double (own_rc (4607182418800017408 : UInt64) v1074)), .second, .val (.double (own_rc (4607182418800017408 : UInt64) v1074)), .second, .val (.double (own_rc (4607182418800017408 : UInt64) r2)), .second, .unset] [(.int (1 : Int32))]))
      refine OEnds.st (fun _ k => XS.goto X1121.here hx rfl (pc0 := 192) (pc' := 196) rfl (hb hby at_192) (by decide) (by decide) k) ?_
      show OEnds p.tables e below G (T1121.setTop (mkF m 196 #[.val (.int p1), .val (.int p2), .val (.int p3), .val (.int p4), .val (.int p5), .val (.int p6), .val (.int (1 : Int32)), .val (.int v1068), .val (.int v1069), .val (.int v1070), .val (.int v1068), .val (.int v1072), .val (.int v1074), .val (.int r2), .val (.ref b_1076), .val (.ref b1080), .val (.ref b1096), .val (.double (own_rc (4607182418800017408 : UInt64) v1074)), .second, .val (.double (own_rc (4607182418800017408 : UInt64) v1074)), .second, .val (.double (own_rc (4607182418800017408 : UInt64) r2)), .second, .unset] [(.int (1 : Int32))]))
      refine OEnds.st (fun _ k => XS.istore X1121.here hx rfl (hb hby at_196) rfl (l' := #[.val (.int p1), .val (.int p2), .val (.int p3), .val (.int p4), .val (.int p5), .val (.int p6), .val (.int (1 : Int32)), .val (.int v1068), .val (.int v1069), .val (.int v1070), .val (.int v1068), .val (.int v1072), .val (.int v1074), .val (.int r2), .val (.ref b_1076), .val (.ref b1080), .val (.ref b1096), .val (.double (own_rc (4607182418800017408 : UInt64) v1074)), .second, .val (.double (own_rc (4607182418800017408 : UInt64) v1074)), .second, .val (.double (own_rc (4607182418800017408 : UInt64) r2)), .second, .val (.int (1 : Int32))]) rfl k) ?_
      show OEnds p.tables e below G (T1121.setTop (mkF m 198 #[.val (.int p1), .val (.int p2), .val (.int p3), .val (.int p4), .val (.int p5), .val (.int p6), .val (.int (1 : Int32)), .val (.int v1068), .val (.int v1069), .val (.int v1070), .val (.int v1068), .val (.int v1072), .val (.int v1074), .val (.int r2), .val (.ref b_1076), .val (.ref b1080), .val (.ref b1096), .val (.double (own_rc (4607182418800017408 : UInt64) v1074)), .second, .val (.double (own_rc (4607182418800017408 : UInt64) v1074)), .second, .val (.double (own_rc (4607182418800017408 : UInt64) r2)), .second, .val (.int (1 : Int32))] []))
      refine OEnds.st (fun _ k => XS.iload X1121.here hx rfl (hb hby at_198) rfl k) ?_
      show OEnds p.tables e below G (T1121.setTop (mkF m 200 #[.val (.int p1), .val (.int p2), .val (.int p3), .val (.int p4), .val (.int p5), .val (.int p6), .val (.int (1 : Int32)), .val (.int v1068), .val (.int v1069), .val (.int v1070), .val (.int v1068), .val (.int v1072), .val (.int v1074), .val (.int r2), .val (.ref b_1076), .val (.ref b1080), .val (.ref b1096), .val (.double (own_rc (4607182418800017408 : UInt64) v1074)), .second, .val (.double (own_rc (4607182418800017408 : UInt64) v1074)), .second, .val (.double (own_rc (4607182418800017408 : UInt64) r2)), .second, .val (.int (1 : Int32))] [(.int (1 : Int32))]))
      refine OEnds.st (fun _ k => XS.ifNo X1121.here hx rfl (hb hby at_200) rfl ((if0 _ _).trans (feq (by decide : ¬ ((1 : Int32) = (0 : Int32)))).1) k) ?_
      show OEnds p.tables e below G (T1121.setTop (mkF m 203 #[.val (.int p1), .val (.int p2), .val (.int p3), .val (.int p4), .val (.int p5), .val (.int p6), .val (.int (1 : Int32)), .val (.int v1068), .val (.int v1069), .val (.int v1070), .val (.int v1068), .val (.int v1072), .val (.int v1074), .val (.int r2), .val (.ref b_1076), .val (.ref b1080), .val (.ref b1096), .val (.double (own_rc (4607182418800017408 : UInt64) v1074)), .second, .val (.double (own_rc (4607182418800017408 : UInt64) v1074)), .second, .val (.double (own_rc (4607182418800017408 : UInt64) r2)), .second, .val (.int (1 : Int32))] []))
      refine OEnds.st (fun _ k => XS.dload X1121.here hx rfl (hb hby at_203) rfl k) ?_
      show OEnds p.tables e below G (T1121.setTop (mkF m 205 #[.val (.int p1), .val (.int p2), .val (.int p3), .val (.int p4), .val (.int p5), .val (.int p6), .val (.int (1 : Int32)), .val (.int v1068), .val (.int v1069), .val (.int v1070), .val (.int v1068), .val (.int v1072), .val (.int v1074), .val (.int r2), .val (.ref b_1076), .val (.ref b1080), .val (.ref b1096), .val (.double (own_rc (4607182418800017408 : UInt64) v1074)), .second, .val (.double (own_rc (4607182418800017408 : UInt64) v1074)), .second, .val (.double (own_rc (4607182418800017408 : UInt64) r2)), .second, .val (.int (1 : Int32))] [(.double (own_rc (4607182418800017408 : UInt64) v1074))]))
      refine OEnds.st (fun _ k => XS.dconst0 X1121.here hx rfl (hb hby at_205) (v := (0 : UInt64)) rfl k) ?_
      show OEnds p.tables e below G (T1121.setTop (mkF m 206 #[.val (.int p1), .val (.int p2), .val (.int p3), .val (.int p4), .val (.int p5), .val (.int p6), .val (.int (1 : Int32)), .val (.int v1068), .val (.int v1069), .val (.int v1070), .val (.int v1068), .val (.int v1072), .val (.int v1074), .val (.int r2), .val (.ref b_1076), .val (.ref b1080), .val (.ref b1096), .val (.double (own_rc (4607182418800017408 : UInt64) v1074)), .second, .val (.double (own_rc (4607182418800017408 : UInt64) v1074)), .second, .val (.double (own_rc (4607182418800017408 : UInt64) r2)), .second, .val (.int (1 : Int32))] [(.double (0 : UInt64)), (.double (own_rc (4607182418800017408 : UInt64) v1074))]))
      refine OEnds.st (fun _ k => XS.dcmpS X1121.here hx rfl (hb hby at_206) rfl rfl k) ?_
      show OEnds p.tables e below G (T1121.setTop (mkF m 207 #[.val (.int p1), .val (.int p2), .val (.int p3), .val (.int p4), .val (.int p5), .val (.int p6), .val (.int (1 : Int32)), .val (.int v1068), .val (.int v1069), .val (.int v1070), .val (.int v1068), .val (.int v1072), .val (.int v1074), .val (.int r2), .val (.ref b_1076), .val (.ref b1080), .val (.ref b1096), .val (.double (own_rc (4607182418800017408 : UInt64) v1074)), .second, .val (.double (own_rc (4607182418800017408 : UInt64) v1074)), .second, .val (.double (own_rc (4607182418800017408 : UInt64) r2)), .second, .val (.int (1 : Int32))] [(.int (cmpValue (FP.dcmp (own_rc (4607182418800017408 : UInt64) v1074) (0 : UInt64)) .l))]))
      have hc207_1123 : ¬ ((cmpValue (FP.dcmp (own_rc (4607182418800017408 : UInt64) v1074) (0 : UInt64)) .l) < (0 : Int32)) := fun q => Nat.not_lt_zero _ ((own_clt hP1 own_Pz0 .l).mp q)
      refine OEnds.st (fun _ k => XS.ifNo X1121.here hx rfl (hb hby at_207) rfl ((if0 _ _).trans (flt hc207_1123).1) k) ?_
      show OEnds p.tables e below G (T1121.setTop (mkF m 210 #[.val (.int p1), .val (.int p2), .val (.int p3), .val (.int p4), .val (.int p5), .val (.int p6), .val (.int (1 : Int32)), .val (.int v1068), .val (.int v1069), .val (.int v1070), .val (.int v1068), .val (.int v1072), .val (.int v1074), .val (.int r2), .val (.ref b_1076), .val (.ref b1080), .val (.ref b1096), .val (.double (own_rc (4607182418800017408 : UInt64) v1074)), .second, .val (.double (own_rc (4607182418800017408 : UInt64) v1074)), .second, .val (.double (own_rc (4607182418800017408 : UInt64) r2)), .second, .val (.int (1 : Int32))] []))
      refine OEnds.st (fun _ k => XS.dload X1121.here hx rfl (hb hby at_210) rfl k) ?_
      show OEnds p.tables e below G (T1121.setTop (mkF m 212 #[.val (.int p1), .val (.int p2), .val (.int p3), .val (.int p4), .val (.int p5), .val (.int p6), .val (.int (1 : Int32)), .val (.int v1068), .val (.int v1069), .val (.int v1070), .val (.int v1068), .val (.int v1072), .val (.int v1074), .val (.int r2), .val (.ref b_1076), .val (.ref b1080), .val (.ref b1096), .val (.double (own_rc (4607182418800017408 : UInt64) v1074)), .second, .val (.double (own_rc (4607182418800017408 : UInt64) v1074)), .second, .val (.double (own_rc (4607182418800017408 : UInt64) r2)), .second, .val (.int (1 : Int32))] [(.double (own_rc (4607182418800017408 : UInt64) v1074))]))
      refine OEnds.st (fun _ k => XS.dconst1 X1121.here hx rfl (hb hby at_212) (v := (4607182418800017408 : UInt64)) rfl k) ?_
      show OEnds p.tables e below G (T1121.setTop (mkF m 213 #[.val (.int p1), .val (.int p2), .val (.int p3), .val (.int p4), .val (.int p5), .val (.int p6), .val (.int (1 : Int32)), .val (.int v1068), .val (.int v1069), .val (.int v1070), .val (.int v1068), .val (.int v1072), .val (.int v1074), .val (.int r2), .val (.ref b_1076), .val (.ref b1080), .val (.ref b1096), .val (.double (own_rc (4607182418800017408 : UInt64) v1074)), .second, .val (.double (own_rc (4607182418800017408 : UInt64) v1074)), .second, .val (.double (own_rc (4607182418800017408 : UInt64) r2)), .second, .val (.int (1 : Int32))] [(.double (4607182418800017408 : UInt64)), (.double (own_rc (4607182418800017408 : UInt64) v1074))]))
      refine OEnds.st (fun _ k => XS.dcmpS X1121.here hx rfl (hb hby at_213) rfl rfl k) ?_
      show OEnds p.tables e below G (T1121.setTop (mkF m 214 #[.val (.int p1), .val (.int p2), .val (.int p3), .val (.int p4), .val (.int p5), .val (.int p6), .val (.int (1 : Int32)), .val (.int v1068), .val (.int v1069), .val (.int v1070), .val (.int v1068), .val (.int v1072), .val (.int v1074), .val (.int r2), .val (.ref b_1076), .val (.ref b1080), .val (.ref b1096), .val (.double (own_rc (4607182418800017408 : UInt64) v1074)), .second, .val (.double (own_rc (4607182418800017408 : UInt64) v1074)), .second, .val (.double (own_rc (4607182418800017408 : UInt64) r2)), .second, .val (.int (1 : Int32))] [(.int (cmpValue (FP.dcmp (own_rc (4607182418800017408 : UInt64) v1074) (4607182418800017408 : UInt64)) .g))]))
      have hc214_1124 : ¬ ((0 : Int32) < (cmpValue (FP.dcmp (own_rc (4607182418800017408 : UInt64) v1074) (4607182418800017408 : UInt64)) .g)) := fun q => Nat.not_lt.mpr hM1 ((own_cgt hP1 own_B1 .g).mp q)
      refine OEnds.st (fun _ k => XS.ifNo X1121.here hx rfl (hb hby at_214) rfl ((if0 _ _).trans (flt hc214_1124).2.2.1) k) ?_
      show OEnds p.tables e below G (T1121.setTop (mkF m 217 #[.val (.int p1), .val (.int p2), .val (.int p3), .val (.int p4), .val (.int p5), .val (.int p6), .val (.int (1 : Int32)), .val (.int v1068), .val (.int v1069), .val (.int v1070), .val (.int v1068), .val (.int v1072), .val (.int v1074), .val (.int r2), .val (.ref b_1076), .val (.ref b1080), .val (.ref b1096), .val (.double (own_rc (4607182418800017408 : UInt64) v1074)), .second, .val (.double (own_rc (4607182418800017408 : UInt64) v1074)), .second, .val (.double (own_rc (4607182418800017408 : UInt64) r2)), .second, .val (.int (1 : Int32))] []))
      refine OEnds.st (fun _ k => XS.iconst X1121.here hx rfl (hb hby at_217) k) ?_
      show OEnds p.tables e below G (T1121.setTop (mkF m 218 #[.val (.int p1), .val (.int p2), .val (.int p3), .val (.int p4), .val (.int p5), .val (.int p6), .val (.int (1 : Int32)), .val (.int v1068), .val (.int v1069), .val (.int v1070), .val (.int v1068), .val (.int v1072), .val (.int v1074), .val (.int r2), .val (.ref b_1076), .val (.ref b1080), .val (.ref b1096), .val (.double (own_rc (4607182418800017408 : UInt64) v1074)), .second, .val (.double (own_rc (4607182418800017408 : UInt64) v1074)), .second, .val (.double (own_rc (4607182418800017408 : UInt64) r2)), .second, .val (.int (1 : Int32))] [(.int (1 : Int32))]))
      refine OEnds.st (fun _ k => XS.goto X1121.here hx rfl (pc0 := 218) (pc' := 222) rfl (hb hby at_218) (by decide) (by decide) k) ?_
      show OEnds p.tables e below G (T1121.setTop (mkF m 222 #[.val (.int p1), .val (.int p2), .val (.int p3), .val (.int p4), .val (.int p5), .val (.int p6), .val (.int (1 : Int32)), .val (.int v1068), .val (.int v1069), .val (.int v1070), .val (.int v1068), .val (.int v1072), .val (.int v1074), .val (.int r2), .val (.ref b_1076), .val (.ref b1080), .val (.ref b1096), .val (.double (own_rc (4607182418800017408 : UInt64) v1074)), .second, .val (.double (own_rc (4607182418800017408 : UInt64) v1074)), .second, .val (.double (own_rc (4607182418800017408 : UInt64) r2)), .second, .val (.int (1 : Int32))] [(.int (1 : Int32))]))
      refine OEnds.st (fun _ k => XS.istore X1121.here hx rfl (hb hby at_222) rfl (l' := #[.val (.int p1), .val (.int p2), .val (.int p3), .val (.int p4), .val (.int p5), .val (.int p6), .val (.int (1 : Int32)), .val (.int v1068), .val (.int v1069), .val (.int v1070), .val (.int v1068), .val (.int v1072), .val (.int v1074), .val (.int r2), .val (.ref b_1076), .val (.ref b1080), .val (.ref b1096), .val (.double (own_rc (4607182418800017408 : UInt64) v1074)), .second, .val (.double (own_rc (4607182418800017408 : UInt64) v1074)), .second, .val (.double (own_rc (4607182418800017408 : UInt64) r2)), .second, .val (.int (1 : Int32))]) rfl k) ?_
      show OEnds p.tables e below G (T1121.setTop (mkF m 224 #[.val (.int p1), .val (.int p2), .val (.int p3), .val (.int p4), .val (.int p5), .val (.int p6), .val (.int (1 : Int32)), .val (.int v1068), .val (.int v1069), .val (.int v1070), .val (.int v1068), .val (.int v1072), .val (.int v1074), .val (.int r2), .val (.ref b_1076), .val (.ref b1080), .val (.ref b1096), .val (.double (own_rc (4607182418800017408 : UInt64) v1074)), .second, .val (.double (own_rc (4607182418800017408 : UInt64) v1074)), .second, .val (.double (own_rc (4607182418800017408 : UInt64) r2)), .second, .val (.int (1 : Int32))] []))
      refine OEnds.st (fun _ k => XS.iload X1121.here hx rfl (hb hby at_224) rfl k) ?_
      show OEnds p.tables e below G (T1121.setTop (mkF m 226 #[.val (.int p1), .val (.int p2), .val (.int p3), .val (.int p4), .val (.int p5), .val (.int p6), .val (.int (1 : Int32)), .val (.int v1068), .val (.int v1069), .val (.int v1070), .val (.int v1068), .val (.int v1072), .val (.int v1074), .val (.int r2), .val (.ref b_1076), .val (.ref b1080), .val (.ref b1096), .val (.double (own_rc (4607182418800017408 : UInt64) v1074)), .second, .val (.double (own_rc (4607182418800017408 : UInt64) v1074)), .second, .val (.double (own_rc (4607182418800017408 : UInt64) r2)), .second, .val (.int (1 : Int32))] [(.int (1 : Int32))]))
      refine OEnds.st (fun _ k => XS.ifNo X1121.here hx rfl (hb hby at_226) rfl ((if0 _ _).trans (feq (by decide : ¬ ((1 : Int32) = (0 : Int32)))).1) k) ?_
      show OEnds p.tables e below G (T1121.setTop (mkF m 229 #[.val (.int p1), .val (.int p2), .val (.int p3), .val (.int p4), .val (.int p5), .val (.int p6), .val (.int (1 : Int32)), .val (.int v1068), .val (.int v1069), .val (.int v1070), .val (.int v1068), .val (.int v1072), .val (.int v1074), .val (.int r2), .val (.ref b_1076), .val (.ref b1080), .val (.ref b1096), .val (.double (own_rc (4607182418800017408 : UInt64) v1074)), .second, .val (.double (own_rc (4607182418800017408 : UInt64) v1074)), .second, .val (.double (own_rc (4607182418800017408 : UInt64) r2)), .second, .val (.int (1 : Int32))] []))
      refine OEnds.st (fun _ k => XS.dload X1121.here hx rfl (hb hby at_229) rfl k) ?_
      show OEnds p.tables e below G (T1121.setTop (mkF m 231 #[.val (.int p1), .val (.int p2), .val (.int p3), .val (.int p4), .val (.int p5), .val (.int p6), .val (.int (1 : Int32)), .val (.int v1068), .val (.int v1069), .val (.int v1070), .val (.int v1068), .val (.int v1072), .val (.int v1074), .val (.int r2), .val (.ref b_1076), .val (.ref b1080), .val (.ref b1096), .val (.double (own_rc (4607182418800017408 : UInt64) v1074)), .second, .val (.double (own_rc (4607182418800017408 : UInt64) v1074)), .second, .val (.double (own_rc (4607182418800017408 : UInt64) r2)), .second, .val (.int (1 : Int32))] [(.double (own_rc (4607182418800017408 : UInt64) v1074))]))
      refine OEnds.st (fun _ k => XS.dconst0 X1121.here hx rfl (hb hby at_231) (v := (0 : UInt64)) rfl k) ?_
      show OEnds p.tables e below G (T1121.setTop (mkF m 232 #[.val (.int p1), .val (.int p2), .val (.int p3), .val (.int p4), .val (.int p5), .val (.int p6), .val (.int (1 : Int32)), .val (.int v1068), .val (.int v1069), .val (.int v1070), .val (.int v1068), .val (.int v1072), .val (.int v1074), .val (.int r2), .val (.ref b_1076), .val (.ref b1080), .val (.ref b1096), .val (.double (own_rc (4607182418800017408 : UInt64) v1074)), .second, .val (.double (own_rc (4607182418800017408 : UInt64) v1074)), .second, .val (.double (own_rc (4607182418800017408 : UInt64) r2)), .second, .val (.int (1 : Int32))] [(.double (0 : UInt64)), (.double (own_rc (4607182418800017408 : UInt64) v1074))]))
      refine OEnds.st (fun _ k => XS.dcmpS X1121.here hx rfl (hb hby at_232) rfl rfl k) ?_
      show OEnds p.tables e below G (T1121.setTop (mkF m 233 #[.val (.int p1), .val (.int p2), .val (.int p3), .val (.int p4), .val (.int p5), .val (.int p6), .val (.int (1 : Int32)), .val (.int v1068), .val (.int v1069), .val (.int v1070), .val (.int v1068), .val (.int v1072), .val (.int v1074), .val (.int r2), .val (.ref b_1076), .val (.ref b1080), .val (.ref b1096), .val (.double (own_rc (4607182418800017408 : UInt64) v1074)), .second, .val (.double (own_rc (4607182418800017408 : UInt64) v1074)), .second, .val (.double (own_rc (4607182418800017408 : UInt64) r2)), .second, .val (.int (1 : Int32))] [(.int (cmpValue (FP.dcmp (own_rc (4607182418800017408 : UInt64) v1074) (0 : UInt64)) .l))]))
      have hc233_1125 : ¬ ((cmpValue (FP.dcmp (own_rc (4607182418800017408 : UInt64) v1074) (0 : UInt64)) .l) = (0 : Int32)) := fun q => absurd (hM2.mp ((own_ceq hP1 own_Pz0 .l).mp q)) (by decide)
      refine OEnds.st (fun _ k => XS.ifYes X1121.here hx rfl (pc0 := 233) (pc' := 240) rfl (hb hby at_233) rfl ((if0 _ _).trans (feq hc233_1125).2) (by decide) (by decide) k) ?_
      show OEnds p.tables e below G (T1121.setTop (mkF m 240 #[.val (.int p1), .val (.int p2), .val (.int p3), .val (.int p4), .val (.int p5), .val (.int p6), .val (.int (1 : Int32)), .val (.int v1068), .val (.int v1069), .val (.int v1070), .val (.int v1068), .val (.int v1072), .val (.int v1074), .val (.int r2), .val (.ref b_1076), .val (.ref b1080), .val (.ref b1096), .val (.double (own_rc (4607182418800017408 : UInt64) v1074)), .second, .val (.double (own_rc (4607182418800017408 : UInt64) v1074)), .second, .val (.double (own_rc (4607182418800017408 : UInt64) r2)), .second, .val (.int (1 : Int32))] []))
      refine OEnds.st (fun _ k => XS.iconst X1121.here hx rfl (hb hby at_240) k) ?_
      show OEnds p.tables e below G (T1121.setTop (mkF m 241 #[.val (.int p1), .val (.int p2), .val (.int p3), .val (.int p4), .val (.int p5), .val (.int p6), .val (.int (1 : Int32)), .val (.int v1068), .val (.int v1069), .val (.int v1070), .val (.int v1068), .val (.int v1072), .val (.int v1074), .val (.int r2), .val (.ref b_1076), .val (.ref b1080), .val (.ref b1096), .val (.double (own_rc (4607182418800017408 : UInt64) v1074)), .second, .val (.double (own_rc (4607182418800017408 : UInt64) v1074)), .second, .val (.double (own_rc (4607182418800017408 : UInt64) r2)), .second, .val (.int (1 : Int32))] [(.int (0 : Int32))]))
      refine OEnds.st (fun _ k => XS.iload X1121.here hx rfl (hb hby at_241) rfl k) ?_
      show OEnds p.tables e below G (T1121.setTop (mkF m 243 #[.val (.int p1), .val (.int p2), .val (.int p3), .val (.int p4), .val (.int p5), .val (.int p6), .val (.int (1 : Int32)), .val (.int v1068), .val (.int v1069), .val (.int v1070), .val (.int v1068), .val (.int v1072), .val (.int v1074), .val (.int r2), .val (.ref b_1076), .val (.ref b1080), .val (.ref b1096), .val (.double (own_rc (4607182418800017408 : UInt64) v1074)), .second, .val (.double (own_rc (4607182418800017408 : UInt64) v1074)), .second, .val (.double (own_rc (4607182418800017408 : UInt64) r2)), .second, .val (.int (1 : Int32))] [(.int (1 : Int32)), (.int (0 : Int32))]))
      refine OEnds.st (fun _ k => XS.ifNo X1121.here hx rfl (hb hby at_243) rfl ((if0 _ _).trans (feq (by decide : ¬ ((1 : Int32) = (0 : Int32)))).1) k) ?_
      show OEnds p.tables e below G (T1121.setTop (mkF m 246 #[.val (.int p1), .val (.int p2), .val (.int p3), .val (.int p4), .val (.int p5), .val (.int p6), .val (.int (1 : Int32)), .val (.int v1068), .val (.int v1069), .val (.int v1070), .val (.int v1068), .val (.int v1072), .val (.int v1074), .val (.int r2), .val (.ref b_1076), .val (.ref b1080), .val (.ref b1096), .val (.double (own_rc (4607182418800017408 : UInt64) v1074)), .second, .val (.double (own_rc (4607182418800017408 : UInt64) v1074)), .second, .val (.double (own_rc (4607182418800017408 : UInt64) r2)), .second, .val (.int (1 : Int32))] [(.int (0 : Int32))]))
      refine OEnds.st (fun _ k => XS.iload X1121.here hx rfl (hb hby at_246) rfl k) ?_
      show OEnds p.tables e below G (T1121.setTop (mkF m 248 #[.val (.int p1), .val (.int p2), .val (.int p3), .val (.int p4), .val (.int p5), .val (.int p6), .val (.int (1 : Int32)), .val (.int v1068), .val (.int v1069), .val (.int v1070), .val (.int v1068), .val (.int v1072), .val (.int v1074), .val (.int r2), .val (.ref b_1076), .val (.ref b1080), .val (.ref b1096), .val (.double (own_rc (4607182418800017408 : UInt64) v1074)), .second, .val (.double (own_rc (4607182418800017408 : UInt64) v1074)), .second, .val (.double (own_rc (4607182418800017408 : UInt64) r2)), .second, .val (.int (1 : Int32))] [(.int v1074), (.int (0 : Int32))]))
      refine OEnds.st (fun _ k => XS.ifYes X1121.here hx rfl (pc0 := 248) (pc' := 255) rfl (hb hby at_248) rfl ((if0 _ _).trans (feq hr0).2) (by decide) (by decide) k) ?_
      show OEnds p.tables e below G (T1121.setTop (mkF m 255 #[.val (.int p1), .val (.int p2), .val (.int p3), .val (.int p4), .val (.int p5), .val (.int p6), .val (.int (1 : Int32)), .val (.int v1068), .val (.int v1069), .val (.int v1070), .val (.int v1068), .val (.int v1072), .val (.int v1074), .val (.int r2), .val (.ref b_1076), .val (.ref b1080), .val (.ref b1096), .val (.double (own_rc (4607182418800017408 : UInt64) v1074)), .second, .val (.double (own_rc (4607182418800017408 : UInt64) v1074)), .second, .val (.double (own_rc (4607182418800017408 : UInt64) r2)), .second, .val (.int (1 : Int32))] [(.int (0 : Int32))]))
      refine OEnds.st (fun _ k => XS.iconst X1121.here hx rfl (hb hby at_255) k) ?_
      show OEnds p.tables e below G (T1121.setTop (mkF m 256 #[.val (.int p1), .val (.int p2), .val (.int p3), .val (.int p4), .val (.int p5), .val (.int p6), .val (.int (1 : Int32)), .val (.int v1068), .val (.int v1069), .val (.int v1070), .val (.int v1068), .val (.int v1072), .val (.int v1074), .val (.int r2), .val (.ref b_1076), .val (.ref b1080), .val (.ref b1096), .val (.double (own_rc (4607182418800017408 : UInt64) v1074)), .second, .val (.double (own_rc (4607182418800017408 : UInt64) v1074)), .second, .val (.double (own_rc (4607182418800017408 : UInt64) r2)), .second, .val (.int (1 : Int32))] [(.int (0 : Int32)), (.int (0 : Int32))]))
      refine OEnds.st (fun _ k => XS.icmpNo X1121.here hx rfl (hb hby at_256) rfl (teq (by decide : (0 : Int32) = (0 : Int32))).2 k) ?_
      show OEnds p.tables e below G (T1121.setTop (mkF m 259 #[.val (.int p1), .val (.int p2), .val (.int p3), .val (.int p4), .val (.int p5), .val (.int p6), .val (.int (1 : Int32)), .val (.int v1068), .val (.int v1069), .val (.int v1070), .val (.int v1068), .val (.int v1072), .val (.int v1074), .val (.int r2), .val (.ref b_1076), .val (.ref b1080), .val (.ref b1096), .val (.double (own_rc (4607182418800017408 : UInt64) v1074)), .second, .val (.double (own_rc (4607182418800017408 : UInt64) v1074)), .second, .val (.double (own_rc (4607182418800017408 : UInt64) r2)), .second, .val (.int (1 : Int32))] []))
      refine OEnds.st (fun _ k => XS.iconst X1121.here hx rfl (hb hby at_259) k) ?_
      show OEnds p.tables e below G (T1121.setTop (mkF m 260 #[.val (.int p1), .val (.int p2), .val (.int p3), .val (.int p4), .val (.int p5), .val (.int p6), .val (.int (1 : Int32)), .val (.int v1068), .val (.int v1069), .val (.int v1070), .val (.int v1068), .val (.int v1072), .val (.int v1074), .val (.int r2), .val (.ref b_1076), .val (.ref b1080), .val (.ref b1096), .val (.double (own_rc (4607182418800017408 : UInt64) v1074)), .second, .val (.double (own_rc (4607182418800017408 : UInt64) v1074)), .second, .val (.double (own_rc (4607182418800017408 : UInt64) r2)), .second, .val (.int (1 : Int32))] [(.int (1 : Int32))]))
      refine OEnds.st (fun _ k => XS.goto X1121.here hx rfl (pc0 := 260) (pc' := 264) rfl (hb hby at_260) (by decide) (by decide) k) ?_
      show OEnds p.tables e below G (T1121.setTop (mkF m 264 #[.val (.int p1), .val (.int p2), .val (.int p3), .val (.int p4), .val (.int p5), .val (.int p6), .val (.int (1 : Int32)), .val (.int v1068), .val (.int v1069), .val (.int v1070), .val (.int v1068), .val (.int v1072), .val (.int v1074), .val (.int r2), .val (.ref b_1076), .val (.ref b1080), .val (.ref b1096), .val (.double (own_rc (4607182418800017408 : UInt64) v1074)), .second, .val (.double (own_rc (4607182418800017408 : UInt64) v1074)), .second, .val (.double (own_rc (4607182418800017408 : UInt64) r2)), .second, .val (.int (1 : Int32))] [(.int (1 : Int32))]))
      refine OEnds.st (fun _ k => XS.istore X1121.here hx rfl (hb hby at_264) rfl (l' := #[.val (.int p1), .val (.int p2), .val (.int p3), .val (.int p4), .val (.int p5), .val (.int p6), .val (.int (1 : Int32)), .val (.int v1068), .val (.int v1069), .val (.int v1070), .val (.int v1068), .val (.int v1072), .val (.int v1074), .val (.int r2), .val (.ref b_1076), .val (.ref b1080), .val (.ref b1096), .val (.double (own_rc (4607182418800017408 : UInt64) v1074)), .second, .val (.double (own_rc (4607182418800017408 : UInt64) v1074)), .second, .val (.double (own_rc (4607182418800017408 : UInt64) r2)), .second, .val (.int (1 : Int32))]) rfl k) ?_
      show OEnds p.tables e below G (T1121.setTop (mkF m 266 #[.val (.int p1), .val (.int p2), .val (.int p3), .val (.int p4), .val (.int p5), .val (.int p6), .val (.int (1 : Int32)), .val (.int v1068), .val (.int v1069), .val (.int v1070), .val (.int v1068), .val (.int v1072), .val (.int v1074), .val (.int r2), .val (.ref b_1076), .val (.ref b1080), .val (.ref b1096), .val (.double (own_rc (4607182418800017408 : UInt64) v1074)), .second, .val (.double (own_rc (4607182418800017408 : UInt64) v1074)), .second, .val (.double (own_rc (4607182418800017408 : UInt64) r2)), .second, .val (.int (1 : Int32))] []))
      refine OEnds.st (fun _ k => XS.iload X1121.here hx rfl (hb hby at_266) rfl k) ?_
      show OEnds p.tables e below G (T1121.setTop (mkF m 268 #[.val (.int p1), .val (.int p2), .val (.int p3), .val (.int p4), .val (.int p5), .val (.int p6), .val (.int (1 : Int32)), .val (.int v1068), .val (.int v1069), .val (.int v1070), .val (.int v1068), .val (.int v1072), .val (.int v1074), .val (.int r2), .val (.ref b_1076), .val (.ref b1080), .val (.ref b1096), .val (.double (own_rc (4607182418800017408 : UInt64) v1074)), .second, .val (.double (own_rc (4607182418800017408 : UInt64) v1074)), .second, .val (.double (own_rc (4607182418800017408 : UInt64) r2)), .second, .val (.int (1 : Int32))] [(.int (1 : Int32))]))
      refine OEnds.st (fun _ k => XS.ifNo X1121.here hx rfl (hb hby at_268) rfl ((if0 _ _).trans (feq (by decide : ¬ ((1 : Int32) = (0 : Int32)))).1) k) ?_
      have rest308_1126 :  OEnds p.tables e below G (T1121.setTop (mkF m 308 #[.val (.int p1), .val (.int p2), .val (.int p3), .val (.int p4), .val (.int p5), .val (.int p6), .val (.int (1 : Int32)), .val (.int v1068), .val (.int v1069), .val (.int v1070), .val (.int v1068), .val (.int v1072), .val (.int v1074), .val (.int r2), .val (.ref b_1076), .val (.ref b1080), .val (.ref b1096), .val (.double (own_rc (4607182418800017408 : UInt64) v1074)), .second, .val (.double (own_rc (4607182418800017408 : UInt64) v1074)), .second, .val (.double (own_rc (4607182418800017408 : UInt64) r2)), .second, .val (.int (1 : Int32))] [(.int (1 : Int32))])) := by
        show OEnds p.tables e below G (T1121.setTop (mkF m 308 #[.val (.int p1), .val (.int p2), .val (.int p3), .val (.int p4), .val (.int p5), .val (.int p6), .val (.int (1 : Int32)), .val (.int v1068), .val (.int v1069), .val (.int v1070), .val (.int v1068), .val (.int v1072), .val (.int v1074), .val (.int r2), .val (.ref b_1076), .val (.ref b1080), .val (.ref b1096), .val (.double (own_rc (4607182418800017408 : UInt64) v1074)), .second, .val (.double (own_rc (4607182418800017408 : UInt64) v1074)), .second, .val (.double (own_rc (4607182418800017408 : UInt64) r2)), .second, .val (.int (1 : Int32))] [(.int (1 : Int32))]))
        refine OEnds.st (fun _ k => XS.istore X1121.here hx rfl (hb hby at_308) rfl (l' := #[.val (.int p1), .val (.int p2), .val (.int p3), .val (.int p4), .val (.int p5), .val (.int p6), .val (.int (1 : Int32)), .val (.int v1068), .val (.int v1069), .val (.int v1070), .val (.int v1068), .val (.int v1072), .val (.int v1074), .val (.int r2), .val (.ref b_1076), .val (.ref b1080), .val (.ref b1096), .val (.double (own_rc (4607182418800017408 : UInt64) v1074)), .second, .val (.double (own_rc (4607182418800017408 : UInt64) v1074)), .second, .val (.double (own_rc (4607182418800017408 : UInt64) r2)), .second, .val (.int (1 : Int32))]) rfl k) ?_
        rcases hR2 with hm | ⟨hm, hi2⟩
        ·
          show OEnds p.tables e below G (T1121.setTop (mkF m 310 #[.val (.int p1), .val (.int p2), .val (.int p3), .val (.int p4), .val (.int p5), .val (.int p6), .val (.int (1 : Int32)), .val (.int v1068), .val (.int v1069), .val (.int v1070), .val (.int v1068), .val (.int v1072), .val (.int v1074), .val (.int r2), .val (.ref b_1076), .val (.ref b1080), .val (.ref b1096), .val (.double (own_rc (4607182418800017408 : UInt64) v1074)), .second, .val (.double (own_rc (4607182418800017408 : UInt64) v1074)), .second, .val (.double (own_rc (4607182418800017408 : UInt64) r2)), .second, .val (.int (1 : Int32))] []))
          refine OEnds.st (fun _ k => XS.iload X1121.here hx rfl (hb hby at_310) rfl k) ?_
          show OEnds p.tables e below G (T1121.setTop (mkF m 312 #[.val (.int p1), .val (.int p2), .val (.int p3), .val (.int p4), .val (.int p5), .val (.int p6), .val (.int (1 : Int32)), .val (.int v1068), .val (.int v1069), .val (.int v1070), .val (.int v1068), .val (.int v1072), .val (.int v1074), .val (.int r2), .val (.ref b_1076), .val (.ref b1080), .val (.ref b1096), .val (.double (own_rc (4607182418800017408 : UInt64) v1074)), .second, .val (.double (own_rc (4607182418800017408 : UInt64) v1074)), .second, .val (.double (own_rc (4607182418800017408 : UInt64) r2)), .second, .val (.int (1 : Int32))] [(.int v1074)]))
          refine OEnds.st (X1121.ldcInt hx hown (mvT hZ (hw _ (List.mem_of_getElem? (i := 5) rfl))) (g := (mkF m 312 #[.val (.int p1), .val (.int p2), .val (.int p3), .val (.int p4), .val (.int p5), .val (.int p6), .val (.int (1 : Int32)), .val (.int v1068), .val (.int v1069), .val (.int v1070), .val (.int v1068), .val (.int v1072), .val (.int v1074), .val (.int r2), .val (.ref b_1076), .val (.ref b1080), .val (.ref b1096), .val (.double (own_rc (4607182418800017408 : UInt64) v1074)), .second, .val (.double (own_rc (4607182418800017408 : UInt64) v1074)), .second, .val (.double (own_rc (4607182418800017408 : UInt64) r2)), .second, .val (.int (1 : Int32))] [(.int v1074)])) rfl (hb hby at_312)) ?_
          show OEnds p.tables e below G (T1121.setTop (mkF m 314 #[.val (.int p1), .val (.int p2), .val (.int p3), .val (.int p4), .val (.int p5), .val (.int p6), .val (.int (1 : Int32)), .val (.int v1068), .val (.int v1069), .val (.int v1070), .val (.int v1068), .val (.int v1072), .val (.int v1074), .val (.int r2), .val (.ref b_1076), .val (.ref b1080), .val (.ref b1096), .val (.double (own_rc (4607182418800017408 : UInt64) v1074)), .second, .val (.double (own_rc (4607182418800017408 : UInt64) v1074)), .second, .val (.double (own_rc (4607182418800017408 : UInt64) r2)), .second, .val (.int (1 : Int32))] [(.int (2147483647 : Int32)), (.int v1074)]))
          have hc314_1127 : ¬ (v1074 < (2147483647 : Int32)) := own_gtM hm
          refine OEnds.st (fun _ k => XS.icmpYes X1121.here hx rfl (pc0 := 314) (pc' := 371) rfl (hb hby at_314) rfl (flt hc314_1127).2.1 (by decide) (by decide) k) ?_
          show OEnds p.tables e below G (T1121.setTop (mkF m 371 #[.val (.int p1), .val (.int p2), .val (.int p3), .val (.int p4), .val (.int p5), .val (.int p6), .val (.int (1 : Int32)), .val (.int v1068), .val (.int v1069), .val (.int v1070), .val (.int v1068), .val (.int v1072), .val (.int v1074), .val (.int r2), .val (.ref b_1076), .val (.ref b1080), .val (.ref b1096), .val (.double (own_rc (4607182418800017408 : UInt64) v1074)), .second, .val (.double (own_rc (4607182418800017408 : UInt64) v1074)), .second, .val (.double (own_rc (4607182418800017408 : UInt64) r2)), .second, .val (.int (1 : Int32))] []))
          refine OEnds.st (fun _ k => XS.iload X1121.here hx rfl (hb hby at_371) rfl k) ?_
          show OEnds p.tables e below G (T1121.setTop (mkF m 373 #[.val (.int p1), .val (.int p2), .val (.int p3), .val (.int p4), .val (.int p5), .val (.int p6), .val (.int (1 : Int32)), .val (.int v1068), .val (.int v1069), .val (.int v1070), .val (.int v1068), .val (.int v1072), .val (.int v1074), .val (.int r2), .val (.ref b_1076), .val (.ref b1080), .val (.ref b1096), .val (.double (own_rc (4607182418800017408 : UInt64) v1074)), .second, .val (.double (own_rc (4607182418800017408 : UInt64) v1074)), .second, .val (.double (own_rc (4607182418800017408 : UInt64) r2)), .second, .val (.int (1 : Int32))] [(.int (1 : Int32))]))
          rw [← hG]
          refine OEnds.retZ X1121 hx hlk Bd.returns rfl (hb hby at_373) (by decide) (by decide) ?_
          rw [e1121]
          exact ⟨rfl, N1121⟩
        ·
          obtain ⟨M2, hP2, -, hN2, -⟩ := own_R (rel := r2) own_B1 (by decide) (by omega)
          show OEnds p.tables e below G (T1121.setTop (mkF m 310 #[.val (.int p1), .val (.int p2), .val (.int p3), .val (.int p4), .val (.int p5), .val (.int p6), .val (.int (1 : Int32)), .val (.int v1068), .val (.int v1069), .val (.int v1070), .val (.int v1068), .val (.int v1072), .val (.int v1074), .val (.int r2), .val (.ref b_1076), .val (.ref b1080), .val (.ref b1096), .val (.double (own_rc (4607182418800017408 : UInt64) v1074)), .second, .val (.double (own_rc (4607182418800017408 : UInt64) v1074)), .second, .val (.double (own_rc (4607182418800017408 : UInt64) r2)), .second, .val (.int (1 : Int32))] []))
          refine OEnds.st (fun _ k => XS.iload X1121.here hx rfl (hb hby at_310) rfl k) ?_
          show OEnds p.tables e below G (T1121.setTop (mkF m 312 #[.val (.int p1), .val (.int p2), .val (.int p3), .val (.int p4), .val (.int p5), .val (.int p6), .val (.int (1 : Int32)), .val (.int v1068), .val (.int v1069), .val (.int v1070), .val (.int v1068), .val (.int v1072), .val (.int v1074), .val (.int r2), .val (.ref b_1076), .val (.ref b1080), .val (.ref b1096), .val (.double (own_rc (4607182418800017408 : UInt64) v1074)), .second, .val (.double (own_rc (4607182418800017408 : UInt64) v1074)), .second, .val (.double (own_rc (4607182418800017408 : UInt64) r2)), .second, .val (.int (1 : Int32))] [(.int v1074)]))
          refine OEnds.st (X1121.ldcInt hx hown (mvT hZ (hw _ (List.mem_of_getElem? (i := 5) rfl))) (g := (mkF m 312 #[.val (.int p1), .val (.int p2), .val (.int p3), .val (.int p4), .val (.int p5), .val (.int p6), .val (.int (1 : Int32)), .val (.int v1068), .val (.int v1069), .val (.int v1070), .val (.int v1068), .val (.int v1072), .val (.int v1074), .val (.int r2), .val (.ref b_1076), .val (.ref b1080), .val (.ref b1096), .val (.double (own_rc (4607182418800017408 : UInt64) v1074)), .second, .val (.double (own_rc (4607182418800017408 : UInt64) v1074)), .second, .val (.double (own_rc (4607182418800017408 : UInt64) r2)), .second, .val (.int (1 : Int32))] [(.int v1074)])) rfl (hb hby at_312)) ?_
          show OEnds p.tables e below G (T1121.setTop (mkF m 314 #[.val (.int p1), .val (.int p2), .val (.int p3), .val (.int p4), .val (.int p5), .val (.int p6), .val (.int (1 : Int32)), .val (.int v1068), .val (.int v1069), .val (.int v1070), .val (.int v1068), .val (.int v1072), .val (.int v1074), .val (.int r2), .val (.ref b_1076), .val (.ref b1080), .val (.ref b1096), .val (.double (own_rc (4607182418800017408 : UInt64) v1074)), .second, .val (.double (own_rc (4607182418800017408 : UInt64) v1074)), .second, .val (.double (own_rc (4607182418800017408 : UInt64) r2)), .second, .val (.int (1 : Int32))] [(.int (2147483647 : Int32)), (.int v1074)]))
          have hc314_1128 : v1074 < (2147483647 : Int32) := own_ltM hm
          refine OEnds.st (fun _ k => XS.icmpNo X1121.here hx rfl (hb hby at_314) rfl (tlt hc314_1128).2.1 k) ?_
          show OEnds p.tables e below G (T1121.setTop (mkF m 317 #[.val (.int p1), .val (.int p2), .val (.int p3), .val (.int p4), .val (.int p5), .val (.int p6), .val (.int (1 : Int32)), .val (.int v1068), .val (.int v1069), .val (.int v1070), .val (.int v1068), .val (.int v1072), .val (.int v1074), .val (.int r2), .val (.ref b_1076), .val (.ref b1080), .val (.ref b1096), .val (.double (own_rc (4607182418800017408 : UInt64) v1074)), .second, .val (.double (own_rc (4607182418800017408 : UInt64) v1074)), .second, .val (.double (own_rc (4607182418800017408 : UInt64) r2)), .second, .val (.int (1 : Int32))] []))
          refine OEnds.st (fun _ k => XS.iload X1121.here hx rfl (hb hby at_317) rfl k) ?_
          show OEnds p.tables e below G (T1121.setTop (mkF m 319 #[.val (.int p1), .val (.int p2), .val (.int p3), .val (.int p4), .val (.int p5), .val (.int p6), .val (.int (1 : Int32)), .val (.int v1068), .val (.int v1069), .val (.int v1070), .val (.int v1068), .val (.int v1072), .val (.int v1074), .val (.int r2), .val (.ref b_1076), .val (.ref b1080), .val (.ref b1096), .val (.double (own_rc (4607182418800017408 : UInt64) v1074)), .second, .val (.double (own_rc (4607182418800017408 : UInt64) v1074)), .second, .val (.double (own_rc (4607182418800017408 : UInt64) r2)), .second, .val (.int (1 : Int32))] [(.int (1 : Int32))]))
          refine OEnds.st (fun _ k => XS.ifNo X1121.here hx rfl (hb hby at_319) rfl ((if0 _ _).trans (tlt (by decide : (0 : Int32) < (1 : Int32))).2.2.2) k) ?_
          show OEnds p.tables e below G (T1121.setTop (mkF m 322 #[.val (.int p1), .val (.int p2), .val (.int p3), .val (.int p4), .val (.int p5), .val (.int p6), .val (.int (1 : Int32)), .val (.int v1068), .val (.int v1069), .val (.int v1070), .val (.int v1068), .val (.int v1072), .val (.int v1074), .val (.int r2), .val (.ref b_1076), .val (.ref b1080), .val (.ref b1096), .val (.double (own_rc (4607182418800017408 : UInt64) v1074)), .second, .val (.double (own_rc (4607182418800017408 : UInt64) v1074)), .second, .val (.double (own_rc (4607182418800017408 : UInt64) r2)), .second, .val (.int (1 : Int32))] []))
          refine OEnds.st (fun _ k => XS.iload X1121.here hx rfl (hb hby at_322) rfl k) ?_
          show OEnds p.tables e below G (T1121.setTop (mkF m 324 #[.val (.int p1), .val (.int p2), .val (.int p3), .val (.int p4), .val (.int p5), .val (.int p6), .val (.int (1 : Int32)), .val (.int v1068), .val (.int v1069), .val (.int v1070), .val (.int v1068), .val (.int v1072), .val (.int v1074), .val (.int r2), .val (.ref b_1076), .val (.ref b1080), .val (.ref b1096), .val (.double (own_rc (4607182418800017408 : UInt64) v1074)), .second, .val (.double (own_rc (4607182418800017408 : UInt64) v1074)), .second, .val (.double (own_rc (4607182418800017408 : UInt64) r2)), .second, .val (.int (1 : Int32))] [(.int (1 : Int32))]))
          refine OEnds.st (fun _ k => XS.ifNo X1121.here hx rfl (hb hby at_324) rfl ((if0 _ _).trans (feq (by decide : ¬ ((1 : Int32) = (0 : Int32)))).1) k) ?_
          show OEnds p.tables e below G (T1121.setTop (mkF m 327 #[.val (.int p1), .val (.int p2), .val (.int p3), .val (.int p4), .val (.int p5), .val (.int p6), .val (.int (1 : Int32)), .val (.int v1068), .val (.int v1069), .val (.int v1070), .val (.int v1068), .val (.int v1072), .val (.int v1074), .val (.int r2), .val (.ref b_1076), .val (.ref b1080), .val (.ref b1096), .val (.double (own_rc (4607182418800017408 : UInt64) v1074)), .second, .val (.double (own_rc (4607182418800017408 : UInt64) v1074)), .second, .val (.double (own_rc (4607182418800017408 : UInt64) r2)), .second, .val (.int (1 : Int32))] []))
          refine OEnds.st (fun _ k => XS.dload X1121.here hx rfl (hb hby at_327) rfl k) ?_
          show OEnds p.tables e below G (T1121.setTop (mkF m 329 #[.val (.int p1), .val (.int p2), .val (.int p3), .val (.int p4), .val (.int p5), .val (.int p6), .val (.int (1 : Int32)), .val (.int v1068), .val (.int v1069), .val (.int v1070), .val (.int v1068), .val (.int v1072), .val (.int v1074), .val (.int r2), .val (.ref b_1076), .val (.ref b1080), .val (.ref b1096), .val (.double (own_rc (4607182418800017408 : UInt64) v1074)), .second, .val (.double (own_rc (4607182418800017408 : UInt64) v1074)), .second, .val (.double (own_rc (4607182418800017408 : UInt64) r2)), .second, .val (.int (1 : Int32))] [(.double (own_rc (4607182418800017408 : UInt64) r2))]))
          refine OEnds.st (fun _ k => XS.dload X1121.here hx rfl (hb hby at_329) rfl k) ?_
          show OEnds p.tables e below G (T1121.setTop (mkF m 331 #[.val (.int p1), .val (.int p2), .val (.int p3), .val (.int p4), .val (.int p5), .val (.int p6), .val (.int (1 : Int32)), .val (.int v1068), .val (.int v1069), .val (.int v1070), .val (.int v1068), .val (.int v1072), .val (.int v1074), .val (.int r2), .val (.ref b_1076), .val (.ref b1080), .val (.ref b1096), .val (.double (own_rc (4607182418800017408 : UInt64) v1074)), .second, .val (.double (own_rc (4607182418800017408 : UInt64) v1074)), .second, .val (.double (own_rc (4607182418800017408 : UInt64) r2)), .second, .val (.int (1 : Int32))] [(.double (own_rc (4607182418800017408 : UInt64) v1074)), (.double (own_rc (4607182418800017408 : UInt64) r2))]))
          refine OEnds.st (fun _ k => XS.dcmpS X1121.here hx rfl (hb hby at_331) rfl rfl k) ?_
          show OEnds p.tables e below G (T1121.setTop (mkF m 332 #[.val (.int p1), .val (.int p2), .val (.int p3), .val (.int p4), .val (.int p5), .val (.int p6), .val (.int (1 : Int32)), .val (.int v1068), .val (.int v1069), .val (.int v1070), .val (.int v1068), .val (.int v1072), .val (.int v1074), .val (.int r2), .val (.ref b_1076), .val (.ref b1080), .val (.ref b1096), .val (.double (own_rc (4607182418800017408 : UInt64) v1074)), .second, .val (.double (own_rc (4607182418800017408 : UInt64) v1074)), .second, .val (.double (own_rc (4607182418800017408 : UInt64) r2)), .second, .val (.int (1 : Int32))] [(.int (cmpValue (FP.dcmp (own_rc (4607182418800017408 : UInt64) r2) (own_rc (4607182418800017408 : UInt64) v1074)) .g))]))
          have hc332_1129 : (cmpValue (FP.dcmp (own_rc (4607182418800017408 : UInt64) r2) (own_rc (4607182418800017408 : UInt64) v1074)) .g) < (0 : Int32) := (own_clt hP2 hP1 .g).mpr (own_S own_B1 (by decide) (by decide) hrel hi2 hP1 hP2)
          refine OEnds.st (fun _ k => XS.ifNo X1121.here hx rfl (hb hby at_332) rfl ((if0 _ _).trans (tlt hc332_1129).2.1) k) ?_
          show OEnds p.tables e below G (T1121.setTop (mkF m 335 #[.val (.int p1), .val (.int p2), .val (.int p3), .val (.int p4), .val (.int p5), .val (.int p6), .val (.int (1 : Int32)), .val (.int v1068), .val (.int v1069), .val (.int v1070), .val (.int v1068), .val (.int v1072), .val (.int v1074), .val (.int r2), .val (.ref b_1076), .val (.ref b1080), .val (.ref b1096), .val (.double (own_rc (4607182418800017408 : UInt64) v1074)), .second, .val (.double (own_rc (4607182418800017408 : UInt64) v1074)), .second, .val (.double (own_rc (4607182418800017408 : UInt64) r2)), .second, .val (.int (1 : Int32))] []))
          refine OEnds.st (fun _ k => XS.iconst X1121.here hx rfl (hb hby at_335) k) ?_
          show OEnds p.tables e below G (T1121.setTop (mkF m 336 #[.val (.int p1), .val (.int p2), .val (.int p3), .val (.int p4), .val (.int p5), .val (.int p6), .val (.int (1 : Int32)), .val (.int v1068), .val (.int v1069), .val (.int v1070), .val (.int v1068), .val (.int v1072), .val (.int v1074), .val (.int r2), .val (.ref b_1076), .val (.ref b1080), .val (.ref b1096), .val (.double (own_rc (4607182418800017408 : UInt64) v1074)), .second, .val (.double (own_rc (4607182418800017408 : UInt64) v1074)), .second, .val (.double (own_rc (4607182418800017408 : UInt64) r2)), .second, .val (.int (1 : Int32))] [(.int (1 : Int32))]))
          refine OEnds.st (fun _ k => XS.goto X1121.here hx rfl (pc0 := 336) (pc' := 340) rfl (hb hby at_336) (by decide) (by decide) k) ?_
          show OEnds p.tables e below G (T1121.setTop (mkF m 340 #[.val (.int p1), .val (.int p2), .val (.int p3), .val (.int p4), .val (.int p5), .val (.int p6), .val (.int (1 : Int32)), .val (.int v1068), .val (.int v1069), .val (.int v1070), .val (.int v1068), .val (.int v1072), .val (.int v1074), .val (.int r2), .val (.ref b_1076), .val (.ref b1080), .val (.ref b1096), .val (.double (own_rc (4607182418800017408 : UInt64) v1074)), .second, .val (.double (own_rc (4607182418800017408 : UInt64) v1074)), .second, .val (.double (own_rc (4607182418800017408 : UInt64) r2)), .second, .val (.int (1 : Int32))] [(.int (1 : Int32))]))
          refine OEnds.st (fun _ k => XS.istore X1121.here hx rfl (hb hby at_340) rfl (l' := #[.val (.int p1), .val (.int p2), .val (.int p3), .val (.int p4), .val (.int p5), .val (.int p6), .val (.int (1 : Int32)), .val (.int v1068), .val (.int v1069), .val (.int v1070), .val (.int v1068), .val (.int v1072), .val (.int v1074), .val (.int r2), .val (.ref b_1076), .val (.ref b1080), .val (.ref b1096), .val (.double (own_rc (4607182418800017408 : UInt64) v1074)), .second, .val (.double (own_rc (4607182418800017408 : UInt64) v1074)), .second, .val (.double (own_rc (4607182418800017408 : UInt64) r2)), .second, .val (.int (1 : Int32))]) rfl k) ?_
          show OEnds p.tables e below G (T1121.setTop (mkF m 342 #[.val (.int p1), .val (.int p2), .val (.int p3), .val (.int p4), .val (.int p5), .val (.int p6), .val (.int (1 : Int32)), .val (.int v1068), .val (.int v1069), .val (.int v1070), .val (.int v1068), .val (.int v1072), .val (.int v1074), .val (.int r2), .val (.ref b_1076), .val (.ref b1080), .val (.ref b1096), .val (.double (own_rc (4607182418800017408 : UInt64) v1074)), .second, .val (.double (own_rc (4607182418800017408 : UInt64) v1074)), .second, .val (.double (own_rc (4607182418800017408 : UInt64) r2)), .second, .val (.int (1 : Int32))] []))
          refine OEnds.st (fun _ k => XS.goto X1121.here hx rfl (pc0 := 342) (pc' := 371) rfl (hb hby at_342) (by decide) (by decide) k) ?_
          show OEnds p.tables e below G (T1121.setTop (mkF m 371 #[.val (.int p1), .val (.int p2), .val (.int p3), .val (.int p4), .val (.int p5), .val (.int p6), .val (.int (1 : Int32)), .val (.int v1068), .val (.int v1069), .val (.int v1070), .val (.int v1068), .val (.int v1072), .val (.int v1074), .val (.int r2), .val (.ref b_1076), .val (.ref b1080), .val (.ref b1096), .val (.double (own_rc (4607182418800017408 : UInt64) v1074)), .second, .val (.double (own_rc (4607182418800017408 : UInt64) v1074)), .second, .val (.double (own_rc (4607182418800017408 : UInt64) r2)), .second, .val (.int (1 : Int32))] []))
          refine OEnds.st (fun _ k => XS.iload X1121.here hx rfl (hb hby at_371) rfl k) ?_
          show OEnds p.tables e below G (T1121.setTop (mkF m 373 #[.val (.int p1), .val (.int p2), .val (.int p3), .val (.int p4), .val (.int p5), .val (.int p6), .val (.int (1 : Int32)), .val (.int v1068), .val (.int v1069), .val (.int v1070), .val (.int v1068), .val (.int v1072), .val (.int v1074), .val (.int r2), .val (.ref b_1076), .val (.ref b1080), .val (.ref b1096), .val (.double (own_rc (4607182418800017408 : UInt64) v1074)), .second, .val (.double (own_rc (4607182418800017408 : UInt64) v1074)), .second, .val (.double (own_rc (4607182418800017408 : UInt64) r2)), .second, .val (.int (1 : Int32))] [(.int (1 : Int32))]))
          rw [← hG]
          refine OEnds.retZ X1121 hx hlk Bd.returns rfl (hb hby at_373) (by decide) (by decide) ?_
          rw [e1121]
          exact ⟨rfl, N1121⟩
      by_cases hE1130 : (1 : Int32) = v1074
      ·
        show OEnds p.tables e below G (T1121.setTop (mkF m 271 #[.val (.int p1), .val (.int p2), .val (.int p3), .val (.int p4), .val (.int p5), .val (.int p6), .val (.int (1 : Int32)), .val (.int v1068), .val (.int v1069), .val (.int v1070), .val (.int v1068), .val (.int v1072), .val (.int v1074), .val (.int r2), .val (.ref b_1076), .val (.ref b1080), .val (.ref b1096), .val (.double (own_rc (4607182418800017408 : UInt64) v1074)), .second, .val (.double (own_rc (4607182418800017408 : UInt64) v1074)), .second, .val (.double (own_rc (4607182418800017408 : UInt64) r2)), .second, .val (.int (1 : Int32))] []))
        refine OEnds.st (fun _ k => XS.dload X1121.here hx rfl (hb hby at_271) rfl k) ?_
        show OEnds p.tables e below G (T1121.setTop (mkF m 273 #[.val (.int p1), .val (.int p2), .val (.int p3), .val (.int p4), .val (.int p5), .val (.int p6), .val (.int (1 : Int32)), .val (.int v1068), .val (.int v1069), .val (.int v1070), .val (.int v1068), .val (.int v1072), .val (.int v1074), .val (.int r2), .val (.ref b_1076), .val (.ref b1080), .val (.ref b1096), .val (.double (own_rc (4607182418800017408 : UInt64) v1074)), .second, .val (.double (own_rc (4607182418800017408 : UInt64) v1074)), .second, .val (.double (own_rc (4607182418800017408 : UInt64) r2)), .second, .val (.int (1 : Int32))] [(.double (own_rc (4607182418800017408 : UInt64) v1074))]))
        refine OEnds.st (fun _ k => XS.dconst1 X1121.here hx rfl (hb hby at_273) (v := (4607182418800017408 : UInt64)) rfl k) ?_
        show OEnds p.tables e below G (T1121.setTop (mkF m 274 #[.val (.int p1), .val (.int p2), .val (.int p3), .val (.int p4), .val (.int p5), .val (.int p6), .val (.int (1 : Int32)), .val (.int v1068), .val (.int v1069), .val (.int v1070), .val (.int v1068), .val (.int v1072), .val (.int v1074), .val (.int r2), .val (.ref b_1076), .val (.ref b1080), .val (.ref b1096), .val (.double (own_rc (4607182418800017408 : UInt64) v1074)), .second, .val (.double (own_rc (4607182418800017408 : UInt64) v1074)), .second, .val (.double (own_rc (4607182418800017408 : UInt64) r2)), .second, .val (.int (1 : Int32))] [(.double (4607182418800017408 : UInt64)), (.double (own_rc (4607182418800017408 : UInt64) v1074))]))
        refine OEnds.st (fun _ k => XS.dcmpS X1121.here hx rfl (hb hby at_274) rfl rfl k) ?_
        show OEnds p.tables e below G (T1121.setTop (mkF m 275 #[.val (.int p1), .val (.int p2), .val (.int p3), .val (.int p4), .val (.int p5), .val (.int p6), .val (.int (1 : Int32)), .val (.int v1068), .val (.int v1069), .val (.int v1070), .val (.int v1068), .val (.int v1072), .val (.int v1074), .val (.int r2), .val (.ref b_1076), .val (.ref b1080), .val (.ref b1096), .val (.double (own_rc (4607182418800017408 : UInt64) v1074)), .second, .val (.double (own_rc (4607182418800017408 : UInt64) v1074)), .second, .val (.double (own_rc (4607182418800017408 : UInt64) r2)), .second, .val (.int (1 : Int32))] [(.int (cmpValue (FP.dcmp (own_rc (4607182418800017408 : UInt64) v1074) (4607182418800017408 : UInt64)) .l))]))
        have hc275_1131 : (cmpValue (FP.dcmp (own_rc (4607182418800017408 : UInt64) v1074) (4607182418800017408 : UInt64)) .l) = (0 : Int32) := (own_ceq hP1 own_B1 .l).mpr (hM3.mpr ⟨by decide, by
            have kn : (1 : Int32).toInt = 1 := by decide
            rw [hE1130] at kn
            omega⟩)
        refine OEnds.st (fun _ k => XS.ifNo X1121.here hx rfl (hb hby at_275) rfl ((if0 _ _).trans (teq hc275_1131).2) k) ?_
        show OEnds p.tables e below G (T1121.setTop (mkF m 278 #[.val (.int p1), .val (.int p2), .val (.int p3), .val (.int p4), .val (.int p5), .val (.int p6), .val (.int (1 : Int32)), .val (.int v1068), .val (.int v1069), .val (.int v1070), .val (.int v1068), .val (.int v1072), .val (.int v1074), .val (.int r2), .val (.ref b_1076), .val (.ref b1080), .val (.ref b1096), .val (.double (own_rc (4607182418800017408 : UInt64) v1074)), .second, .val (.double (own_rc (4607182418800017408 : UInt64) v1074)), .second, .val (.double (own_rc (4607182418800017408 : UInt64) r2)), .second, .val (.int (1 : Int32))] []))
        refine OEnds.st (fun _ k => XS.iconst X1121.here hx rfl (hb hby at_278) k) ?_
        show OEnds p.tables e below G (T1121.setTop (mkF m 279 #[.val (.int p1), .val (.int p2), .val (.int p3), .val (.int p4), .val (.int p5), .val (.int p6), .val (.int (1 : Int32)), .val (.int v1068), .val (.int v1069), .val (.int v1070), .val (.int v1068), .val (.int v1072), .val (.int v1074), .val (.int r2), .val (.ref b_1076), .val (.ref b1080), .val (.ref b1096), .val (.double (own_rc (4607182418800017408 : UInt64) v1074)), .second, .val (.double (own_rc (4607182418800017408 : UInt64) v1074)), .second, .val (.double (own_rc (4607182418800017408 : UInt64) r2)), .second, .val (.int (1 : Int32))] [(.int (1 : Int32))]))
        refine OEnds.st (fun _ k => XS.goto X1121.here hx rfl (pc0 := 279) (pc' := 283) rfl (hb hby at_279) (by decide) (by decide) k) ?_
        show OEnds p.tables e below G (T1121.setTop (mkF m 283 #[.val (.int p1), .val (.int p2), .val (.int p3), .val (.int p4), .val (.int p5), .val (.int p6), .val (.int (1 : Int32)), .val (.int v1068), .val (.int v1069), .val (.int v1070), .val (.int v1068), .val (.int v1072), .val (.int v1074), .val (.int r2), .val (.ref b_1076), .val (.ref b1080), .val (.ref b1096), .val (.double (own_rc (4607182418800017408 : UInt64) v1074)), .second, .val (.double (own_rc (4607182418800017408 : UInt64) v1074)), .second, .val (.double (own_rc (4607182418800017408 : UInt64) r2)), .second, .val (.int (1 : Int32))] [(.int (1 : Int32))]))
        refine OEnds.st (fun _ k => XS.iload X1121.here hx rfl (hb hby at_283) rfl k) ?_
        show OEnds p.tables e below G (T1121.setTop (mkF m 285 #[.val (.int p1), .val (.int p2), .val (.int p3), .val (.int p4), .val (.int p5), .val (.int p6), .val (.int (1 : Int32)), .val (.int v1068), .val (.int v1069), .val (.int v1070), .val (.int v1068), .val (.int v1072), .val (.int v1074), .val (.int r2), .val (.ref b_1076), .val (.ref b1080), .val (.ref b1096), .val (.double (own_rc (4607182418800017408 : UInt64) v1074)), .second, .val (.double (own_rc (4607182418800017408 : UInt64) v1074)), .second, .val (.double (own_rc (4607182418800017408 : UInt64) r2)), .second, .val (.int (1 : Int32))] [(.int v1074), (.int (1 : Int32))]))
        refine OEnds.st (fun _ k => XS.ifNo X1121.here hx rfl (hb hby at_285) rfl ((if0 _ _).trans (feq hr0).1) k) ?_
        show OEnds p.tables e below G (T1121.setTop (mkF m 288 #[.val (.int p1), .val (.int p2), .val (.int p3), .val (.int p4), .val (.int p5), .val (.int p6), .val (.int (1 : Int32)), .val (.int v1068), .val (.int v1069), .val (.int v1070), .val (.int v1068), .val (.int v1072), .val (.int v1074), .val (.int r2), .val (.ref b_1076), .val (.ref b1080), .val (.ref b1096), .val (.double (own_rc (4607182418800017408 : UInt64) v1074)), .second, .val (.double (own_rc (4607182418800017408 : UInt64) v1074)), .second, .val (.double (own_rc (4607182418800017408 : UInt64) r2)), .second, .val (.int (1 : Int32))] [(.int (1 : Int32))]))
        refine OEnds.st (fun _ k => XS.iload X1121.here hx rfl (hb hby at_288) rfl k) ?_
        show OEnds p.tables e below G (T1121.setTop (mkF m 290 #[.val (.int p1), .val (.int p2), .val (.int p3), .val (.int p4), .val (.int p5), .val (.int p6), .val (.int (1 : Int32)), .val (.int v1068), .val (.int v1069), .val (.int v1070), .val (.int v1068), .val (.int v1072), .val (.int v1074), .val (.int r2), .val (.ref b_1076), .val (.ref b1080), .val (.ref b1096), .val (.double (own_rc (4607182418800017408 : UInt64) v1074)), .second, .val (.double (own_rc (4607182418800017408 : UInt64) v1074)), .second, .val (.double (own_rc (4607182418800017408 : UInt64) r2)), .second, .val (.int (1 : Int32))] [(.int (1 : Int32)), (.int (1 : Int32))]))
        refine OEnds.st (fun _ k => XS.iload X1121.here hx rfl (hb hby at_290) rfl k) ?_
        show OEnds p.tables e below G (T1121.setTop (mkF m 292 #[.val (.int p1), .val (.int p2), .val (.int p3), .val (.int p4), .val (.int p5), .val (.int p6), .val (.int (1 : Int32)), .val (.int v1068), .val (.int v1069), .val (.int v1070), .val (.int v1068), .val (.int v1072), .val (.int v1074), .val (.int r2), .val (.ref b_1076), .val (.ref b1080), .val (.ref b1096), .val (.double (own_rc (4607182418800017408 : UInt64) v1074)), .second, .val (.double (own_rc (4607182418800017408 : UInt64) v1074)), .second, .val (.double (own_rc (4607182418800017408 : UInt64) r2)), .second, .val (.int (1 : Int32))] [(.int v1074), (.int (1 : Int32)), (.int (1 : Int32))]))
        refine OEnds.st (fun _ k => XS.icmpNo X1121.here hx rfl (hb hby at_292) rfl (teq hE1130).2 k) ?_
        show OEnds p.tables e below G (T1121.setTop (mkF m 295 #[.val (.int p1), .val (.int p2), .val (.int p3), .val (.int p4), .val (.int p5), .val (.int p6), .val (.int (1 : Int32)), .val (.int v1068), .val (.int v1069), .val (.int v1070), .val (.int v1068), .val (.int v1072), .val (.int v1074), .val (.int r2), .val (.ref b_1076), .val (.ref b1080), .val (.ref b1096), .val (.double (own_rc (4607182418800017408 : UInt64) v1074)), .second, .val (.double (own_rc (4607182418800017408 : UInt64) v1074)), .second, .val (.double (own_rc (4607182418800017408 : UInt64) r2)), .second, .val (.int (1 : Int32))] [(.int (1 : Int32))]))
        refine OEnds.st (fun _ k => XS.iconst X1121.here hx rfl (hb hby at_295) k) ?_
        show OEnds p.tables e below G (T1121.setTop (mkF m 296 #[.val (.int p1), .val (.int p2), .val (.int p3), .val (.int p4), .val (.int p5), .val (.int p6), .val (.int (1 : Int32)), .val (.int v1068), .val (.int v1069), .val (.int v1070), .val (.int v1068), .val (.int v1072), .val (.int v1074), .val (.int r2), .val (.ref b_1076), .val (.ref b1080), .val (.ref b1096), .val (.double (own_rc (4607182418800017408 : UInt64) v1074)), .second, .val (.double (own_rc (4607182418800017408 : UInt64) v1074)), .second, .val (.double (own_rc (4607182418800017408 : UInt64) r2)), .second, .val (.int (1 : Int32))] [(.int (1 : Int32)), (.int (1 : Int32))]))
        refine OEnds.st (fun _ k => XS.goto X1121.here hx rfl (pc0 := 296) (pc' := 300) rfl (hb hby at_296) (by decide) (by decide) k) ?_
        show OEnds p.tables e below G (T1121.setTop (mkF m 300 #[.val (.int p1), .val (.int p2), .val (.int p3), .val (.int p4), .val (.int p5), .val (.int p6), .val (.int (1 : Int32)), .val (.int v1068), .val (.int v1069), .val (.int v1070), .val (.int v1068), .val (.int v1072), .val (.int v1074), .val (.int r2), .val (.ref b_1076), .val (.ref b1080), .val (.ref b1096), .val (.double (own_rc (4607182418800017408 : UInt64) v1074)), .second, .val (.double (own_rc (4607182418800017408 : UInt64) v1074)), .second, .val (.double (own_rc (4607182418800017408 : UInt64) r2)), .second, .val (.int (1 : Int32))] [(.int (1 : Int32)), (.int (1 : Int32))]))
        refine OEnds.st (fun _ k => XS.icmpNo X1121.here hx rfl (hb hby at_300) rfl (teq (by decide : (1 : Int32) = (1 : Int32))).2 k) ?_
        show OEnds p.tables e below G (T1121.setTop (mkF m 303 #[.val (.int p1), .val (.int p2), .val (.int p3), .val (.int p4), .val (.int p5), .val (.int p6), .val (.int (1 : Int32)), .val (.int v1068), .val (.int v1069), .val (.int v1070), .val (.int v1068), .val (.int v1072), .val (.int v1074), .val (.int r2), .val (.ref b_1076), .val (.ref b1080), .val (.ref b1096), .val (.double (own_rc (4607182418800017408 : UInt64) v1074)), .second, .val (.double (own_rc (4607182418800017408 : UInt64) v1074)), .second, .val (.double (own_rc (4607182418800017408 : UInt64) r2)), .second, .val (.int (1 : Int32))] []))
        refine OEnds.st (fun _ k => XS.iconst X1121.here hx rfl (hb hby at_303) k) ?_
        show OEnds p.tables e below G (T1121.setTop (mkF m 304 #[.val (.int p1), .val (.int p2), .val (.int p3), .val (.int p4), .val (.int p5), .val (.int p6), .val (.int (1 : Int32)), .val (.int v1068), .val (.int v1069), .val (.int v1070), .val (.int v1068), .val (.int v1072), .val (.int v1074), .val (.int r2), .val (.ref b_1076), .val (.ref b1080), .val (.ref b1096), .val (.double (own_rc (4607182418800017408 : UInt64) v1074)), .second, .val (.double (own_rc (4607182418800017408 : UInt64) v1074)), .second, .val (.double (own_rc (4607182418800017408 : UInt64) r2)), .second, .val (.int (1 : Int32))] [(.int (1 : Int32))]))
        refine OEnds.st (fun _ k => XS.goto X1121.here hx rfl (pc0 := 304) (pc' := 308) rfl (hb hby at_304) (by decide) (by decide) k) ?_
        exact rest308_1126  
      ·
        show OEnds p.tables e below G (T1121.setTop (mkF m 271 #[.val (.int p1), .val (.int p2), .val (.int p3), .val (.int p4), .val (.int p5), .val (.int p6), .val (.int (1 : Int32)), .val (.int v1068), .val (.int v1069), .val (.int v1070), .val (.int v1068), .val (.int v1072), .val (.int v1074), .val (.int r2), .val (.ref b_1076), .val (.ref b1080), .val (.ref b1096), .val (.double (own_rc (4607182418800017408 : UInt64) v1074)), .second, .val (.double (own_rc (4607182418800017408 : UInt64) v1074)), .second, .val (.double (own_rc (4607182418800017408 : UInt64) r2)), .second, .val (.int (1 : Int32))] []))
        refine OEnds.st (fun _ k => XS.dload X1121.here hx rfl (hb hby at_271) rfl k) ?_
        show OEnds p.tables e below G (T1121.setTop (mkF m 273 #[.val (.int p1), .val (.int p2), .val (.int p3), .val (.int p4), .val (.int p5), .val (.int p6), .val (.int (1 : Int32)), .val (.int v1068), .val (.int v1069), .val (.int v1070), .val (.int v1068), .val (.int v1072), .val (.int v1074), .val (.int r2), .val (.ref b_1076), .val (.ref b1080), .val (.ref b1096), .val (.double (own_rc (4607182418800017408 : UInt64) v1074)), .second, .val (.double (own_rc (4607182418800017408 : UInt64) v1074)), .second, .val (.double (own_rc (4607182418800017408 : UInt64) r2)), .second, .val (.int (1 : Int32))] [(.double (own_rc (4607182418800017408 : UInt64) v1074))]))
        refine OEnds.st (fun _ k => XS.dconst1 X1121.here hx rfl (hb hby at_273) (v := (4607182418800017408 : UInt64)) rfl k) ?_
        show OEnds p.tables e below G (T1121.setTop (mkF m 274 #[.val (.int p1), .val (.int p2), .val (.int p3), .val (.int p4), .val (.int p5), .val (.int p6), .val (.int (1 : Int32)), .val (.int v1068), .val (.int v1069), .val (.int v1070), .val (.int v1068), .val (.int v1072), .val (.int v1074), .val (.int r2), .val (.ref b_1076), .val (.ref b1080), .val (.ref b1096), .val (.double (own_rc (4607182418800017408 : UInt64) v1074)), .second, .val (.double (own_rc (4607182418800017408 : UInt64) v1074)), .second, .val (.double (own_rc (4607182418800017408 : UInt64) r2)), .second, .val (.int (1 : Int32))] [(.double (4607182418800017408 : UInt64)), (.double (own_rc (4607182418800017408 : UInt64) v1074))]))
        refine OEnds.st (fun _ k => XS.dcmpS X1121.here hx rfl (hb hby at_274) rfl rfl k) ?_
        show OEnds p.tables e below G (T1121.setTop (mkF m 275 #[.val (.int p1), .val (.int p2), .val (.int p3), .val (.int p4), .val (.int p5), .val (.int p6), .val (.int (1 : Int32)), .val (.int v1068), .val (.int v1069), .val (.int v1070), .val (.int v1068), .val (.int v1072), .val (.int v1074), .val (.int r2), .val (.ref b_1076), .val (.ref b1080), .val (.ref b1096), .val (.double (own_rc (4607182418800017408 : UInt64) v1074)), .second, .val (.double (own_rc (4607182418800017408 : UInt64) v1074)), .second, .val (.double (own_rc (4607182418800017408 : UInt64) r2)), .second, .val (.int (1 : Int32))] [(.int (cmpValue (FP.dcmp (own_rc (4607182418800017408 : UInt64) v1074) (4607182418800017408 : UInt64)) .l))]))
        have hc275_1132 : ¬ ((cmpValue (FP.dcmp (own_rc (4607182418800017408 : UInt64) v1074) (4607182418800017408 : UInt64)) .l) = (0 : Int32)) := fun q => hE1130 (Int32.toInt_inj.mp (by
            have kn : (1 : Int32).toInt = 1 := by decide
            have q2 := (hM3.mp ((own_ceq hP1 own_B1 .l).mp q)).2
            omega))
        refine OEnds.st (fun _ k => XS.ifYes X1121.here hx rfl (pc0 := 275) (pc' := 282) rfl (hb hby at_275) rfl ((if0 _ _).trans (feq hc275_1132).2) (by decide) (by decide) k) ?_
        show OEnds p.tables e below G (T1121.setTop (mkF m 282 #[.val (.int p1), .val (.int p2), .val (.int p3), .val (.int p4), .val (.int p5), .val (.int p6), .val (.int (1 : Int32)), .val (.int v1068), .val (.int v1069), .val (.int v1070), .val (.int v1068), .val (.int v1072), .val (.int v1074), .val (.int r2), .val (.ref b_1076), .val (.ref b1080), .val (.ref b1096), .val (.double (own_rc (4607182418800017408 : UInt64) v1074)), .second, .val (.double (own_rc (4607182418800017408 : UInt64) v1074)), .second, .val (.double (own_rc (4607182418800017408 : UInt64) r2)), .second, .val (.int (1 : Int32))] []))
        refine OEnds.st (fun _ k => XS.iconst X1121.here hx rfl (hb hby at_282) k) ?_
        show OEnds p.tables e below G (T1121.setTop (mkF m 283 #[.val (.int p1), .val (.int p2), .val (.int p3), .val (.int p4), .val (.int p5), .val (.int p6), .val (.int (1 : Int32)), .val (.int v1068), .val (.int v1069), .val (.int v1070), .val (.int v1068), .val (.int v1072), .val (.int v1074), .val (.int r2), .val (.ref b_1076), .val (.ref b1080), .val (.ref b1096), .val (.double (own_rc (4607182418800017408 : UInt64) v1074)), .second, .val (.double (own_rc (4607182418800017408 : UInt64) v1074)), .second, .val (.double (own_rc (4607182418800017408 : UInt64) r2)), .second, .val (.int (1 : Int32))] [(.int (0 : Int32))]))
        refine OEnds.st (fun _ k => XS.iload X1121.here hx rfl (hb hby at_283) rfl k) ?_
        show OEnds p.tables e below G (T1121.setTop (mkF m 285 #[.val (.int p1), .val (.int p2), .val (.int p3), .val (.int p4), .val (.int p5), .val (.int p6), .val (.int (1 : Int32)), .val (.int v1068), .val (.int v1069), .val (.int v1070), .val (.int v1068), .val (.int v1072), .val (.int v1074), .val (.int r2), .val (.ref b_1076), .val (.ref b1080), .val (.ref b1096), .val (.double (own_rc (4607182418800017408 : UInt64) v1074)), .second, .val (.double (own_rc (4607182418800017408 : UInt64) v1074)), .second, .val (.double (own_rc (4607182418800017408 : UInt64) r2)), .second, .val (.int (1 : Int32))] [(.int v1074), (.int (0 : Int32))]))
        refine OEnds.st (fun _ k => XS.ifNo X1121.here hx rfl (hb hby at_285) rfl ((if0 _ _).trans (feq hr0).1) k) ?_
        show OEnds p.tables e below G (T1121.setTop (mkF m 288 #[.val (.int p1), .val (.int p2), .val (.int p3), .val (.int p4), .val (.int p5), .val (.int p6), .val (.int (1 : Int32)), .val (.int v1068), .val (.int v1069), .val (.int v1070), .val (.int v1068), .val (.int v1072), .val (.int v1074), .val (.int r2), .val (.ref b_1076), .val (.ref b1080), .val (.ref b1096), .val (.double (own_rc (4607182418800017408 : UInt64) v1074)), .second, .val (.double (own_rc (4607182418800017408 : UInt64) v1074)), .second, .val (.double (own_rc (4607182418800017408 : UInt64) r2)), .second, .val (.int (1 : Int32))] [(.int (0 : Int32))]))
        refine OEnds.st (fun _ k => XS.iload X1121.here hx rfl (hb hby at_288) rfl k) ?_
        show OEnds p.tables e below G (T1121.setTop (mkF m 290 #[.val (.int p1), .val (.int p2), .val (.int p3), .val (.int p4), .val (.int p5), .val (.int p6), .val (.int (1 : Int32)), .val (.int v1068), .val (.int v1069), .val (.int v1070), .val (.int v1068), .val (.int v1072), .val (.int v1074), .val (.int r2), .val (.ref b_1076), .val (.ref b1080), .val (.ref b1096), .val (.double (own_rc (4607182418800017408 : UInt64) v1074)), .second, .val (.double (own_rc (4607182418800017408 : UInt64) v1074)), .second, .val (.double (own_rc (4607182418800017408 : UInt64) r2)), .second, .val (.int (1 : Int32))] [(.int (1 : Int32)), (.int (0 : Int32))]))
        refine OEnds.st (fun _ k => XS.iload X1121.here hx rfl (hb hby at_290) rfl k) ?_
        show OEnds p.tables e below G (T1121.setTop (mkF m 292 #[.val (.int p1), .val (.int p2), .val (.int p3), .val (.int p4), .val (.int p5), .val (.int p6), .val (.int (1 : Int32)), .val (.int v1068), .val (.int v1069), .val (.int v1070), .val (.int v1068), .val (.int v1072), .val (.int v1074), .val (.int r2), .val (.ref b_1076), .val (.ref b1080), .val (.ref b1096), .val (.double (own_rc (4607182418800017408 : UInt64) v1074)), .second, .val (.double (own_rc (4607182418800017408 : UInt64) v1074)), .second, .val (.double (own_rc (4607182418800017408 : UInt64) r2)), .second, .val (.int (1 : Int32))] [(.int v1074), (.int (1 : Int32)), (.int (0 : Int32))]))
        refine OEnds.st (fun _ k => XS.icmpYes X1121.here hx rfl (pc0 := 292) (pc' := 299) rfl (hb hby at_292) rfl (feq hE1130).2 (by decide) (by decide) k) ?_
        show OEnds p.tables e below G (T1121.setTop (mkF m 299 #[.val (.int p1), .val (.int p2), .val (.int p3), .val (.int p4), .val (.int p5), .val (.int p6), .val (.int (1 : Int32)), .val (.int v1068), .val (.int v1069), .val (.int v1070), .val (.int v1068), .val (.int v1072), .val (.int v1074), .val (.int r2), .val (.ref b_1076), .val (.ref b1080), .val (.ref b1096), .val (.double (own_rc (4607182418800017408 : UInt64) v1074)), .second, .val (.double (own_rc (4607182418800017408 : UInt64) v1074)), .second, .val (.double (own_rc (4607182418800017408 : UInt64) r2)), .second, .val (.int (1 : Int32))] [(.int (0 : Int32))]))
        refine OEnds.st (fun _ k => XS.iconst X1121.here hx rfl (hb hby at_299) k) ?_
        show OEnds p.tables e below G (T1121.setTop (mkF m 300 #[.val (.int p1), .val (.int p2), .val (.int p3), .val (.int p4), .val (.int p5), .val (.int p6), .val (.int (1 : Int32)), .val (.int v1068), .val (.int v1069), .val (.int v1070), .val (.int v1068), .val (.int v1072), .val (.int v1074), .val (.int r2), .val (.ref b_1076), .val (.ref b1080), .val (.ref b1096), .val (.double (own_rc (4607182418800017408 : UInt64) v1074)), .second, .val (.double (own_rc (4607182418800017408 : UInt64) v1074)), .second, .val (.double (own_rc (4607182418800017408 : UInt64) r2)), .second, .val (.int (1 : Int32))] [(.int (0 : Int32)), (.int (0 : Int32))]))
        refine OEnds.st (fun _ k => XS.icmpNo X1121.here hx rfl (hb hby at_300) rfl (teq (by decide : (0 : Int32) = (0 : Int32))).2 k) ?_
        show OEnds p.tables e below G (T1121.setTop (mkF m 303 #[.val (.int p1), .val (.int p2), .val (.int p3), .val (.int p4), .val (.int p5), .val (.int p6), .val (.int (1 : Int32)), .val (.int v1068), .val (.int v1069), .val (.int v1070), .val (.int v1068), .val (.int v1072), .val (.int v1074), .val (.int r2), .val (.ref b_1076), .val (.ref b1080), .val (.ref b1096), .val (.double (own_rc (4607182418800017408 : UInt64) v1074)), .second, .val (.double (own_rc (4607182418800017408 : UInt64) v1074)), .second, .val (.double (own_rc (4607182418800017408 : UInt64) r2)), .second, .val (.int (1 : Int32))] []))
        refine OEnds.st (fun _ k => XS.iconst X1121.here hx rfl (hb hby at_303) k) ?_
        show OEnds p.tables e below G (T1121.setTop (mkF m 304 #[.val (.int p1), .val (.int p2), .val (.int p3), .val (.int p4), .val (.int p5), .val (.int p6), .val (.int (1 : Int32)), .val (.int v1068), .val (.int v1069), .val (.int v1070), .val (.int v1068), .val (.int v1072), .val (.int v1074), .val (.int r2), .val (.ref b_1076), .val (.ref b1080), .val (.ref b1096), .val (.double (own_rc (4607182418800017408 : UInt64) v1074)), .second, .val (.double (own_rc (4607182418800017408 : UInt64) v1074)), .second, .val (.double (own_rc (4607182418800017408 : UInt64) r2)), .second, .val (.int (1 : Int32))] [(.int (1 : Int32))]))
        refine OEnds.st (fun _ k => XS.goto X1121.here hx rfl (pc0 := 304) (pc' := 308) rfl (hb hby at_304) (by decide) (by decide) k) ?_
        exact rest308_1126  
    show OEnds p.tables e below G (T1073.setTop (mkF m 99 #[.val (.int p1), .val (.int p2), .val (.int p3), .val (.int p4), .val (.int p5), .val (.int p6), .val (.int (1 : Int32)), .val (.int v1068), .val (.int v1069), .val (.int v1070), .val (.int v1068), .val (.int v1072), .val (.int v1074), .unset, .unset, .unset, .unset, .unset, .unset, .unset, .unset, .unset, .unset, .unset] []))
    refine OEnds.st (fun _ k => XS.iload X1073.here hx rfl (hb hby at_99) rfl k) ?_
    show OEnds p.tables e below G (T1073.setTop (mkF m 101 #[.val (.int p1), .val (.int p2), .val (.int p3), .val (.int p4), .val (.int p5), .val (.int p6), .val (.int (1 : Int32)), .val (.int v1068), .val (.int v1069), .val (.int v1070), .val (.int v1068), .val (.int v1072), .val (.int v1074), .unset, .unset, .unset, .unset, .unset, .unset, .unset, .unset, .unset, .unset, .unset] [(.int v1074)]))
    refine OEnds.st (X1073.ldcInt hx hown (mvT hZ (hw _ (List.mem_of_getElem? (i := 5) rfl))) (g := (mkF m 101 #[.val (.int p1), .val (.int p2), .val (.int p3), .val (.int p4), .val (.int p5), .val (.int p6), .val (.int (1 : Int32)), .val (.int v1068), .val (.int v1069), .val (.int v1070), .val (.int v1068), .val (.int v1072), .val (.int v1074), .unset, .unset, .unset, .unset, .unset, .unset, .unset, .unset, .unset, .unset, .unset] [(.int v1074)])) rfl (hb hby at_101)) ?_
    show OEnds p.tables e below G (T1073.setTop (mkF m 103 #[.val (.int p1), .val (.int p2), .val (.int p3), .val (.int p4), .val (.int p5), .val (.int p6), .val (.int (1 : Int32)), .val (.int v1068), .val (.int v1069), .val (.int v1070), .val (.int v1068), .val (.int v1072), .val (.int v1074), .unset, .unset, .unset, .unset, .unset, .unset, .unset, .unset, .unset, .unset, .unset] [(.int (2147483647 : Int32)), (.int v1074)]))
    by_cases hc103_1133 : v1074 = (2147483647 : Int32)
    · -- pc 103: yes
      refine OEnds.st (fun _ k => XS.icmpNo X1073.here hx rfl (hb hby at_103) rfl (teq hc103_1133).2 k) ?_
      show OEnds p.tables e below G (T1073.setTop (mkF m 106 #[.val (.int p1), .val (.int p2), .val (.int p3), .val (.int p4), .val (.int p5), .val (.int p6), .val (.int (1 : Int32)), .val (.int v1068), .val (.int v1069), .val (.int v1070), .val (.int v1068), .val (.int v1072), .val (.int v1074), .unset, .unset, .unset, .unset, .unset, .unset, .unset, .unset, .unset, .unset, .unset] []))
      refine OEnds.st (fun _ k => XS.iload X1073.here hx rfl (hb hby at_106) rfl k) ?_
      show OEnds p.tables e below G (T1073.setTop (mkF m 108 #[.val (.int p1), .val (.int p2), .val (.int p3), .val (.int p4), .val (.int p5), .val (.int p6), .val (.int (1 : Int32)), .val (.int v1068), .val (.int v1069), .val (.int v1070), .val (.int v1068), .val (.int v1072), .val (.int v1074), .unset, .unset, .unset, .unset, .unset, .unset, .unset, .unset, .unset, .unset, .unset] [(.int v1074)]))
      refine OEnds.st (fun _ k => XS.goto X1073.here hx rfl (pc0 := 108) (pc' := 115) rfl (hb hby at_108) (by decide) (by decide) k) ?_
      exact rest115_1075 v1074 (Or.inl hc103_1133)
    · -- pc 103: no
      refine OEnds.st (fun _ k => XS.icmpYes X1073.here hx rfl (pc0 := 103) (pc' := 111) rfl (hb hby at_103) rfl (feq hc103_1133).2 (by decide) (by decide) k) ?_
      show OEnds p.tables e below G (T1073.setTop (mkF m 111 #[.val (.int p1), .val (.int p2), .val (.int p3), .val (.int p4), .val (.int p5), .val (.int p6), .val (.int (1 : Int32)), .val (.int v1068), .val (.int v1069), .val (.int v1070), .val (.int v1068), .val (.int v1072), .val (.int v1074), .unset, .unset, .unset, .unset, .unset, .unset, .unset, .unset, .unset, .unset, .unset] []))
      refine OEnds.st (fun _ k => XS.iload X1073.here hx rfl (hb hby at_111) rfl k) ?_
      show OEnds p.tables e below G (T1073.setTop (mkF m 113 #[.val (.int p1), .val (.int p2), .val (.int p3), .val (.int p4), .val (.int p5), .val (.int p6), .val (.int (1 : Int32)), .val (.int v1068), .val (.int v1069), .val (.int v1070), .val (.int v1068), .val (.int v1072), .val (.int v1074), .unset, .unset, .unset, .unset, .unset, .unset, .unset, .unset, .unset, .unset, .unset] [(.int v1074)]))
      refine OEnds.st (fun _ k => XS.iconst X1073.here hx rfl (hb hby at_113) k) ?_
      show OEnds p.tables e below G (T1073.setTop (mkF m 114 #[.val (.int p1), .val (.int p2), .val (.int p3), .val (.int p4), .val (.int p5), .val (.int p6), .val (.int (1 : Int32)), .val (.int v1068), .val (.int v1069), .val (.int v1070), .val (.int v1068), .val (.int v1072), .val (.int v1074), .unset, .unset, .unset, .unset, .unset, .unset, .unset, .unset, .unset, .unset, .unset] [(.int (1 : Int32)), (.int v1074)]))
      refine OEnds.st (fun _ k => XS.iadd X1073.here hx rfl (hb hby at_114) rfl k) ?_
      exact rest115_1075 (v1074 + (1 : Int32)) (Or.inr ⟨hc103_1133, own_inc hc103_1133 rfl⟩)
  · -- 2
    rw [hi]
    show OEnds p.tables e below G (s₁.setTop (mkF m 5 #[.val (.int p1), .val (.int p2), .val (.int p3), .val (.int p4), .val (.int p5), .val (.int p6), .val (.int (2 : Int32)), .unset, .unset, .unset, .unset, .unset, .unset, .unset, .unset, .unset, .unset, .unset, .unset, .unset, .unset, .unset, .unset, .unset] []))
    refine OEnds.st (fun _ k => XS.iconst X0.here hx rfl (hb hby at_5) k) ?_
    show OEnds p.tables e below G (s₁.setTop (mkF m 6 #[.val (.int p1), .val (.int p2), .val (.int p3), .val (.int p4), .val (.int p5), .val (.int p6), .val (.int (2 : Int32)), .unset, .unset, .unset, .unset, .unset, .unset, .unset, .unset, .unset, .unset, .unset, .unset, .unset, .unset, .unset, .unset, .unset] [(.int (1 : Int32))]))
    refine OEnds.st (fun _ k => XS.iloadN X0.here hx rfl (hb hby at_6) rfl k) ?_
    show OEnds p.tables e below G (s₁.setTop (mkF m 7 #[.val (.int p1), .val (.int p2), .val (.int p3), .val (.int p4), .val (.int p5), .val (.int p6), .val (.int (2 : Int32)), .unset, .unset, .unset, .unset, .unset, .unset, .unset, .unset, .unset, .unset, .unset, .unset, .unset, .unset, .unset, .unset, .unset] [(.int p3), (.int (1 : Int32))]))
    refine OEnds.st (fun _ k => XS.sipush X0.here hx rfl (hb hby at_7) k) ?_
    show OEnds p.tables e below G (s₁.setTop (mkF m 10 #[.val (.int p1), .val (.int p2), .val (.int p3), .val (.int p4), .val (.int p5), .val (.int p6), .val (.int (2 : Int32)), .unset, .unset, .unset, .unset, .unset, .unset, .unset, .unset, .unset, .unset, .unset, .unset, .unset, .unset, .unset, .unset, .unset] [(.int (255 : Int32)), (.int p3), (.int (1 : Int32))]))
    refine OEnds.st (fun _ k => XS.iand X0.here hx rfl (hb hby at_10) rfl k) ?_
    show OEnds p.tables e below G (s₁.setTop (mkF m 11 #[.val (.int p1), .val (.int p2), .val (.int p3), .val (.int p4), .val (.int p5), .val (.int p6), .val (.int (2 : Int32)), .unset, .unset, .unset, .unset, .unset, .unset, .unset, .unset, .unset, .unset, .unset, .unset, .unset, .unset, .unset, .unset, .unset] [(.int (p3 &&& (255 : Int32))), (.int (1 : Int32))]))
    refine OEnds.st (fun _ k => XS.iadd X0.here hx rfl (hb hby at_11) rfl k) ?_
    show OEnds p.tables e below G (s₁.setTop (mkF m 12 #[.val (.int p1), .val (.int p2), .val (.int p3), .val (.int p4), .val (.int p5), .val (.int p6), .val (.int (2 : Int32)), .unset, .unset, .unset, .unset, .unset, .unset, .unset, .unset, .unset, .unset, .unset, .unset, .unset, .unset, .unset, .unset, .unset] [(.int ((1 : Int32) + (p3 &&& (255 : Int32))))]))
    refine OEnds.st (fun _ k => XS.istore X0.here hx rfl (hb hby at_12) rfl (l' := #[.val (.int p1), .val (.int p2), .val (.int p3), .val (.int p4), .val (.int p5), .val (.int p6), .val (.int (2 : Int32)), .val (.int ((1 : Int32) + (p3 &&& (255 : Int32)))), .unset, .unset, .unset, .unset, .unset, .unset, .unset, .unset, .unset, .unset, .unset, .unset, .unset, .unset, .unset, .unset]) rfl k) ?_
    show OEnds p.tables e below G (s₁.setTop (mkF m 14 #[.val (.int p1), .val (.int p2), .val (.int p3), .val (.int p4), .val (.int p5), .val (.int p6), .val (.int (2 : Int32)), .val (.int ((1 : Int32) + (p3 &&& (255 : Int32)))), .unset, .unset, .unset, .unset, .unset, .unset, .unset, .unset, .unset, .unset, .unset, .unset, .unset, .unset, .unset, .unset] []))
    generalize hv_v1134 : ((1 : Int32) + (p3 &&& (255 : Int32))) = v1134
    show OEnds p.tables e below G (s₁.setTop (mkF m 14 #[.val (.int p1), .val (.int p2), .val (.int p3), .val (.int p4), .val (.int p5), .val (.int p6), .val (.int (2 : Int32)), .val (.int v1134), .unset, .unset, .unset, .unset, .unset, .unset, .unset, .unset, .unset, .unset, .unset, .unset, .unset, .unset, .unset, .unset] []))
    refine OEnds.st (fun _ k => XS.iload X0.here hx rfl (hb hby at_14) rfl k) ?_
    show OEnds p.tables e below G (s₁.setTop (mkF m 16 #[.val (.int p1), .val (.int p2), .val (.int p3), .val (.int p4), .val (.int p5), .val (.int p6), .val (.int (2 : Int32)), .val (.int v1134), .unset, .unset, .unset, .unset, .unset, .unset, .unset, .unset, .unset, .unset, .unset, .unset, .unset, .unset, .unset, .unset] [(.int v1134)]))
    refine OEnds.st (fun _ k => XS.iconst X0.here hx rfl (hb hby at_16) k) ?_
    show OEnds p.tables e below G (s₁.setTop (mkF m 17 #[.val (.int p1), .val (.int p2), .val (.int p3), .val (.int p4), .val (.int p5), .val (.int p6), .val (.int (2 : Int32)), .val (.int v1134), .unset, .unset, .unset, .unset, .unset, .unset, .unset, .unset, .unset, .unset, .unset, .unset, .unset, .unset, .unset, .unset] [(.int (1 : Int32)), (.int v1134)]))
    refine OEnds.st (fun _ k => XS.iadd X0.here hx rfl (hb hby at_17) rfl k) ?_
    show OEnds p.tables e below G (s₁.setTop (mkF m 18 #[.val (.int p1), .val (.int p2), .val (.int p3), .val (.int p4), .val (.int p5), .val (.int p6), .val (.int (2 : Int32)), .val (.int v1134), .unset, .unset, .unset, .unset, .unset, .unset, .unset, .unset, .unset, .unset, .unset, .unset, .unset, .unset, .unset, .unset] [(.int (v1134 + (1 : Int32)))]))
    refine OEnds.st (fun _ k => XS.iloadN X0.here hx rfl (hb hby at_18) rfl k) ?_
    show OEnds p.tables e below G (s₁.setTop (mkF m 19 #[.val (.int p1), .val (.int p2), .val (.int p3), .val (.int p4), .val (.int p5), .val (.int p6), .val (.int (2 : Int32)), .val (.int v1134), .unset, .unset, .unset, .unset, .unset, .unset, .unset, .unset, .unset, .unset, .unset, .unset, .unset, .unset, .unset, .unset] [(.int p4), (.int (v1134 + (1 : Int32)))]))
    refine OEnds.st (fun _ k => XS.sipush X0.here hx rfl (hb hby at_19) k) ?_
    show OEnds p.tables e below G (s₁.setTop (mkF m 22 #[.val (.int p1), .val (.int p2), .val (.int p3), .val (.int p4), .val (.int p5), .val (.int p6), .val (.int (2 : Int32)), .val (.int v1134), .unset, .unset, .unset, .unset, .unset, .unset, .unset, .unset, .unset, .unset, .unset, .unset, .unset, .unset, .unset, .unset] [(.int (255 : Int32)), (.int p4), (.int (v1134 + (1 : Int32)))]))
    refine OEnds.st (fun _ k => XS.iand X0.here hx rfl (hb hby at_22) rfl k) ?_
    show OEnds p.tables e below G (s₁.setTop (mkF m 23 #[.val (.int p1), .val (.int p2), .val (.int p3), .val (.int p4), .val (.int p5), .val (.int p6), .val (.int (2 : Int32)), .val (.int v1134), .unset, .unset, .unset, .unset, .unset, .unset, .unset, .unset, .unset, .unset, .unset, .unset, .unset, .unset, .unset, .unset] [(.int (p4 &&& (255 : Int32))), (.int (v1134 + (1 : Int32)))]))
    refine OEnds.st (fun _ k => XS.iadd X0.here hx rfl (hb hby at_23) rfl k) ?_
    show OEnds p.tables e below G (s₁.setTop (mkF m 24 #[.val (.int p1), .val (.int p2), .val (.int p3), .val (.int p4), .val (.int p5), .val (.int p6), .val (.int (2 : Int32)), .val (.int v1134), .unset, .unset, .unset, .unset, .unset, .unset, .unset, .unset, .unset, .unset, .unset, .unset, .unset, .unset, .unset, .unset] [(.int ((v1134 + (1 : Int32)) + (p4 &&& (255 : Int32))))]))
    refine OEnds.st (fun _ k => XS.istore X0.here hx rfl (hb hby at_24) rfl (l' := #[.val (.int p1), .val (.int p2), .val (.int p3), .val (.int p4), .val (.int p5), .val (.int p6), .val (.int (2 : Int32)), .val (.int v1134), .val (.int ((v1134 + (1 : Int32)) + (p4 &&& (255 : Int32)))), .unset, .unset, .unset, .unset, .unset, .unset, .unset, .unset, .unset, .unset, .unset, .unset, .unset, .unset, .unset]) rfl k) ?_
    show OEnds p.tables e below G (s₁.setTop (mkF m 26 #[.val (.int p1), .val (.int p2), .val (.int p3), .val (.int p4), .val (.int p5), .val (.int p6), .val (.int (2 : Int32)), .val (.int v1134), .val (.int ((v1134 + (1 : Int32)) + (p4 &&& (255 : Int32)))), .unset, .unset, .unset, .unset, .unset, .unset, .unset, .unset, .unset, .unset, .unset, .unset, .unset, .unset, .unset] []))
    generalize hv_v1135 : ((v1134 + (1 : Int32)) + (p4 &&& (255 : Int32))) = v1135
    show OEnds p.tables e below G (s₁.setTop (mkF m 26 #[.val (.int p1), .val (.int p2), .val (.int p3), .val (.int p4), .val (.int p5), .val (.int p6), .val (.int (2 : Int32)), .val (.int v1134), .val (.int v1135), .unset, .unset, .unset, .unset, .unset, .unset, .unset, .unset, .unset, .unset, .unset, .unset, .unset, .unset, .unset] []))
    refine OEnds.st (fun _ k => XS.iload X0.here hx rfl (hb hby at_26) rfl k) ?_
    show OEnds p.tables e below G (s₁.setTop (mkF m 28 #[.val (.int p1), .val (.int p2), .val (.int p3), .val (.int p4), .val (.int p5), .val (.int p6), .val (.int (2 : Int32)), .val (.int v1134), .val (.int v1135), .unset, .unset, .unset, .unset, .unset, .unset, .unset, .unset, .unset, .unset, .unset, .unset, .unset, .unset, .unset] [(.int v1135)]))
    refine OEnds.st (fun _ k => XS.iconst X0.here hx rfl (hb hby at_28) k) ?_
    show OEnds p.tables e below G (s₁.setTop (mkF m 29 #[.val (.int p1), .val (.int p2), .val (.int p3), .val (.int p4), .val (.int p5), .val (.int p6), .val (.int (2 : Int32)), .val (.int v1134), .val (.int v1135), .unset, .unset, .unset, .unset, .unset, .unset, .unset, .unset, .unset, .unset, .unset, .unset, .unset, .unset, .unset] [(.int (1 : Int32)), (.int v1135)]))
    refine OEnds.st (fun _ k => XS.iadd X0.here hx rfl (hb hby at_29) rfl k) ?_
    show OEnds p.tables e below G (s₁.setTop (mkF m 30 #[.val (.int p1), .val (.int p2), .val (.int p3), .val (.int p4), .val (.int p5), .val (.int p6), .val (.int (2 : Int32)), .val (.int v1134), .val (.int v1135), .unset, .unset, .unset, .unset, .unset, .unset, .unset, .unset, .unset, .unset, .unset, .unset, .unset, .unset, .unset] [(.int (v1135 + (1 : Int32)))]))
    refine OEnds.st (fun _ k => XS.iload X0.here hx rfl (hb hby at_30) rfl k) ?_
    show OEnds p.tables e below G (s₁.setTop (mkF m 32 #[.val (.int p1), .val (.int p2), .val (.int p3), .val (.int p4), .val (.int p5), .val (.int p6), .val (.int (2 : Int32)), .val (.int v1134), .val (.int v1135), .unset, .unset, .unset, .unset, .unset, .unset, .unset, .unset, .unset, .unset, .unset, .unset, .unset, .unset, .unset] [(.int p5), (.int (v1135 + (1 : Int32)))]))
    refine OEnds.st (fun _ k => XS.sipush X0.here hx rfl (hb hby at_32) k) ?_
    show OEnds p.tables e below G (s₁.setTop (mkF m 35 #[.val (.int p1), .val (.int p2), .val (.int p3), .val (.int p4), .val (.int p5), .val (.int p6), .val (.int (2 : Int32)), .val (.int v1134), .val (.int v1135), .unset, .unset, .unset, .unset, .unset, .unset, .unset, .unset, .unset, .unset, .unset, .unset, .unset, .unset, .unset] [(.int (255 : Int32)), (.int p5), (.int (v1135 + (1 : Int32)))]))
    refine OEnds.st (fun _ k => XS.iand X0.here hx rfl (hb hby at_35) rfl k) ?_
    show OEnds p.tables e below G (s₁.setTop (mkF m 36 #[.val (.int p1), .val (.int p2), .val (.int p3), .val (.int p4), .val (.int p5), .val (.int p6), .val (.int (2 : Int32)), .val (.int v1134), .val (.int v1135), .unset, .unset, .unset, .unset, .unset, .unset, .unset, .unset, .unset, .unset, .unset, .unset, .unset, .unset, .unset] [(.int (p5 &&& (255 : Int32))), (.int (v1135 + (1 : Int32)))]))
    refine OEnds.st (fun _ k => XS.iadd X0.here hx rfl (hb hby at_36) rfl k) ?_
    show OEnds p.tables e below G (s₁.setTop (mkF m 37 #[.val (.int p1), .val (.int p2), .val (.int p3), .val (.int p4), .val (.int p5), .val (.int p6), .val (.int (2 : Int32)), .val (.int v1134), .val (.int v1135), .unset, .unset, .unset, .unset, .unset, .unset, .unset, .unset, .unset, .unset, .unset, .unset, .unset, .unset, .unset] [(.int ((v1135 + (1 : Int32)) + (p5 &&& (255 : Int32))))]))
    refine OEnds.st (fun _ k => XS.istore X0.here hx rfl (hb hby at_37) rfl (l' := #[.val (.int p1), .val (.int p2), .val (.int p3), .val (.int p4), .val (.int p5), .val (.int p6), .val (.int (2 : Int32)), .val (.int v1134), .val (.int v1135), .val (.int ((v1135 + (1 : Int32)) + (p5 &&& (255 : Int32)))), .unset, .unset, .unset, .unset, .unset, .unset, .unset, .unset, .unset, .unset, .unset, .unset, .unset, .unset]) rfl k) ?_
    show OEnds p.tables e below G (s₁.setTop (mkF m 39 #[.val (.int p1), .val (.int p2), .val (.int p3), .val (.int p4), .val (.int p5), .val (.int p6), .val (.int (2 : Int32)), .val (.int v1134), .val (.int v1135), .val (.int ((v1135 + (1 : Int32)) + (p5 &&& (255 : Int32)))), .unset, .unset, .unset, .unset, .unset, .unset, .unset, .unset, .unset, .unset, .unset, .unset, .unset, .unset] []))
    generalize hv_v1136 : ((v1135 + (1 : Int32)) + (p5 &&& (255 : Int32))) = v1136
    have hbd := own_bd hv_v1134 hv_v1135 hv_v1136
    show OEnds p.tables e below G (s₁.setTop (mkF m 39 #[.val (.int p1), .val (.int p2), .val (.int p3), .val (.int p4), .val (.int p5), .val (.int p6), .val (.int (2 : Int32)), .val (.int v1134), .val (.int v1135), .val (.int v1136), .unset, .unset, .unset, .unset, .unset, .unset, .unset, .unset, .unset, .unset, .unset, .unset, .unset, .unset] []))
    refine OEnds.st (fun _ k => XS.iload X0.here hx rfl (hb hby at_39) rfl k) ?_
    show OEnds p.tables e below G (s₁.setTop (mkF m 41 #[.val (.int p1), .val (.int p2), .val (.int p3), .val (.int p4), .val (.int p5), .val (.int p6), .val (.int (2 : Int32)), .val (.int v1134), .val (.int v1135), .val (.int v1136), .unset, .unset, .unset, .unset, .unset, .unset, .unset, .unset, .unset, .unset, .unset, .unset, .unset, .unset] [(.int (2 : Int32))]))
    refine OEnds.st (fun _ k => XS.ifYes X0.here hx rfl (pc0 := 41) (pc' := 48) rfl (hb hby at_41) rfl ((if0 _ _).trans (feq (by decide : ¬ ((2 : Int32) = (0 : Int32)))).2) (by decide) (by decide) k) ?_
    show OEnds p.tables e below G (s₁.setTop (mkF m 48 #[.val (.int p1), .val (.int p2), .val (.int p3), .val (.int p4), .val (.int p5), .val (.int p6), .val (.int (2 : Int32)), .val (.int v1134), .val (.int v1135), .val (.int v1136), .unset, .unset, .unset, .unset, .unset, .unset, .unset, .unset, .unset, .unset, .unset, .unset, .unset, .unset] []))
    refine OEnds.st (fun _ k => XS.iload X0.here hx rfl (hb hby at_48) rfl k) ?_
    show OEnds p.tables e below G (s₁.setTop (mkF m 50 #[.val (.int p1), .val (.int p2), .val (.int p3), .val (.int p4), .val (.int p5), .val (.int p6), .val (.int (2 : Int32)), .val (.int v1134), .val (.int v1135), .val (.int v1136), .unset, .unset, .unset, .unset, .unset, .unset, .unset, .unset, .unset, .unset, .unset, .unset, .unset, .unset] [(.int (2 : Int32))]))
    refine OEnds.st (fun _ k => XS.iconst X0.here hx rfl (hb hby at_50) k) ?_
    show OEnds p.tables e below G (s₁.setTop (mkF m 51 #[.val (.int p1), .val (.int p2), .val (.int p3), .val (.int p4), .val (.int p5), .val (.int p6), .val (.int (2 : Int32)), .val (.int v1134), .val (.int v1135), .val (.int v1136), .unset, .unset, .unset, .unset, .unset, .unset, .unset, .unset, .unset, .unset, .unset, .unset, .unset, .unset] [(.int (1 : Int32)), (.int (2 : Int32))]))
    refine OEnds.st (fun _ k => XS.icmpYes X0.here hx rfl (pc0 := 51) (pc' := 59) rfl (hb hby at_51) rfl (feq (by decide : ¬ ((2 : Int32) = (1 : Int32)))).2 (by decide) (by decide) k) ?_
    show OEnds p.tables e below G (s₁.setTop (mkF m 59 #[.val (.int p1), .val (.int p2), .val (.int p3), .val (.int p4), .val (.int p5), .val (.int p6), .val (.int (2 : Int32)), .val (.int v1134), .val (.int v1135), .val (.int v1136), .unset, .unset, .unset, .unset, .unset, .unset, .unset, .unset, .unset, .unset, .unset, .unset, .unset, .unset] []))
    refine OEnds.st (fun _ k => XS.iload X0.here hx rfl (hb hby at_59) rfl k) ?_
    show OEnds p.tables e below G (s₁.setTop (mkF m 61 #[.val (.int p1), .val (.int p2), .val (.int p3), .val (.int p4), .val (.int p5), .val (.int p6), .val (.int (2 : Int32)), .val (.int v1134), .val (.int v1135), .val (.int v1136), .unset, .unset, .unset, .unset, .unset, .unset, .unset, .unset, .unset, .unset, .unset, .unset, .unset, .unset] [(.int (2 : Int32))]))
    refine OEnds.st (fun _ k => XS.iconst X0.here hx rfl (hb hby at_61) k) ?_
    show OEnds p.tables e below G (s₁.setTop (mkF m 62 #[.val (.int p1), .val (.int p2), .val (.int p3), .val (.int p4), .val (.int p5), .val (.int p6), .val (.int (2 : Int32)), .val (.int v1134), .val (.int v1135), .val (.int v1136), .unset, .unset, .unset, .unset, .unset, .unset, .unset, .unset, .unset, .unset, .unset, .unset, .unset, .unset] [(.int (2 : Int32)), (.int (2 : Int32))]))
    refine OEnds.st (fun _ k => XS.icmpNo X0.here hx rfl (hb hby at_62) rfl (teq (by decide : (2 : Int32) = (2 : Int32))).2 k) ?_
    show OEnds p.tables e below G (s₁.setTop (mkF m 65 #[.val (.int p1), .val (.int p2), .val (.int p3), .val (.int p4), .val (.int p5), .val (.int p6), .val (.int (2 : Int32)), .val (.int v1134), .val (.int v1135), .val (.int v1136), .unset, .unset, .unset, .unset, .unset, .unset, .unset, .unset, .unset, .unset, .unset, .unset, .unset, .unset] []))
    refine OEnds.st (fun _ k => XS.iload X0.here hx rfl (hb hby at_65) rfl k) ?_
    show OEnds p.tables e below G (s₁.setTop (mkF m 67 #[.val (.int p1), .val (.int p2), .val (.int p3), .val (.int p4), .val (.int p5), .val (.int p6), .val (.int (2 : Int32)), .val (.int v1134), .val (.int v1135), .val (.int v1136), .unset, .unset, .unset, .unset, .unset, .unset, .unset, .unset, .unset, .unset, .unset, .unset, .unset, .unset] [(.int v1135)]))
    refine OEnds.st (fun _ k => XS.goto X0.here hx rfl (pc0 := 67) (pc' := 72) rfl (hb hby at_67) (by decide) (by decide) k) ?_
    show OEnds p.tables e below G (s₁.setTop (mkF m 72 #[.val (.int p1), .val (.int p2), .val (.int p3), .val (.int p4), .val (.int p5), .val (.int p6), .val (.int (2 : Int32)), .val (.int v1134), .val (.int v1135), .val (.int v1136), .unset, .unset, .unset, .unset, .unset, .unset, .unset, .unset, .unset, .unset, .unset, .unset, .unset, .unset] [(.int v1135)]))
    refine OEnds.st (fun _ k => XS.istore X0.here hx rfl (hb hby at_72) rfl (l' := #[.val (.int p1), .val (.int p2), .val (.int p3), .val (.int p4), .val (.int p5), .val (.int p6), .val (.int (2 : Int32)), .val (.int v1134), .val (.int v1135), .val (.int v1136), .val (.int v1135), .unset, .unset, .unset, .unset, .unset, .unset, .unset, .unset, .unset, .unset, .unset, .unset, .unset]) rfl k) ?_
    show OEnds p.tables e below G (s₁.setTop (mkF m 74 #[.val (.int p1), .val (.int p2), .val (.int p3), .val (.int p4), .val (.int p5), .val (.int p6), .val (.int (2 : Int32)), .val (.int v1134), .val (.int v1135), .val (.int v1136), .val (.int v1135), .unset, .unset, .unset, .unset, .unset, .unset, .unset, .unset, .unset, .unset, .unset, .unset, .unset] []))
    refine OEnds.st (fun _ k => XS.iconst X0.here hx rfl (hb hby at_74) k) ?_
    show OEnds p.tables e below G (s₁.setTop (mkF m 75 #[.val (.int p1), .val (.int p2), .val (.int p3), .val (.int p4), .val (.int p5), .val (.int p6), .val (.int (2 : Int32)), .val (.int v1134), .val (.int v1135), .val (.int v1136), .val (.int v1135), .unset, .unset, .unset, .unset, .unset, .unset, .unset, .unset, .unset, .unset, .unset, .unset, .unset] [(.int (1 : Int32))]))
    refine OEnds.st (fun _ k => XS.iload X0.here hx rfl (hb hby at_75) rfl k) ?_
    show OEnds p.tables e below G (s₁.setTop (mkF m 77 #[.val (.int p1), .val (.int p2), .val (.int p3), .val (.int p4), .val (.int p5), .val (.int p6), .val (.int (2 : Int32)), .val (.int v1134), .val (.int v1135), .val (.int v1136), .val (.int v1135), .unset, .unset, .unset, .unset, .unset, .unset, .unset, .unset, .unset, .unset, .unset, .unset, .unset] [(.int v1135), (.int (1 : Int32))]))
    refine OEnds.st (fun _ k => XS.iload X0.here hx rfl (hb hby at_77) rfl k) ?_
    show OEnds p.tables e below G (s₁.setTop (mkF m 79 #[.val (.int p1), .val (.int p2), .val (.int p3), .val (.int p4), .val (.int p5), .val (.int p6), .val (.int (2 : Int32)), .val (.int v1134), .val (.int v1135), .val (.int v1136), .val (.int v1135), .unset, .unset, .unset, .unset, .unset, .unset, .unset, .unset, .unset, .unset, .unset, .unset, .unset] [(.int p6), (.int v1135), (.int (1 : Int32))]))
    refine OEnds.st (X0.ldcInt hx hown (mvT hZ (hw _ (List.mem_of_getElem? (i := 0) rfl))) (g := (mkF m 79 #[.val (.int p1), .val (.int p2), .val (.int p3), .val (.int p4), .val (.int p5), .val (.int p6), .val (.int (2 : Int32)), .val (.int v1134), .val (.int v1135), .val (.int v1136), .val (.int v1135), .unset, .unset, .unset, .unset, .unset, .unset, .unset, .unset, .unset, .unset, .unset, .unset, .unset] [(.int p6), (.int v1135), (.int (1 : Int32))])) rfl (hb hby at_79)) ?_
    show OEnds p.tables e below G (s₁.setTop (mkF m 81 #[.val (.int p1), .val (.int p2), .val (.int p3), .val (.int p4), .val (.int p5), .val (.int p6), .val (.int (2 : Int32)), .val (.int v1134), .val (.int v1135), .val (.int v1136), .val (.int v1135), .unset, .unset, .unset, .unset, .unset, .unset, .unset, .unset, .unset, .unset, .unset, .unset, .unset] [(.int (65535 : Int32)), (.int p6), (.int v1135), (.int (1 : Int32))]))
    refine OEnds.st (fun _ k => XS.iand X0.here hx rfl (hb hby at_81) rfl k) ?_
    show OEnds p.tables e below G (s₁.setTop (mkF m 82 #[.val (.int p1), .val (.int p2), .val (.int p3), .val (.int p4), .val (.int p5), .val (.int p6), .val (.int (2 : Int32)), .val (.int v1134), .val (.int v1135), .val (.int v1136), .val (.int v1135), .unset, .unset, .unset, .unset, .unset, .unset, .unset, .unset, .unset, .unset, .unset, .unset, .unset] [(.int (p6 &&& (65535 : Int32))), (.int v1135), (.int (1 : Int32))]))
    refine OEnds.st (fun _ k => XS.iadd X0.here hx rfl (hb hby at_82) rfl k) ?_
    show OEnds p.tables e below G (s₁.setTop (mkF m 83 #[.val (.int p1), .val (.int p2), .val (.int p3), .val (.int p4), .val (.int p5), .val (.int p6), .val (.int (2 : Int32)), .val (.int v1134), .val (.int v1135), .val (.int v1136), .val (.int v1135), .unset, .unset, .unset, .unset, .unset, .unset, .unset, .unset, .unset, .unset, .unset, .unset, .unset] [(.int (v1135 + (p6 &&& (65535 : Int32)))), (.int (1 : Int32))]))
    obtain ⟨_, _, ⟨T1137, L1137, k1137c, n1137c⟩, -, X1137, ⟨Lc1137, hQ1137, l1137, y1137, z1137⟩, st1137⟩ := Jvm.LawKit.callS X0 hx (y := (⟨"java/lang/Math", "max", "(II)I"⟩ : MethodName)) hown (mvT hZ (hw _ (List.mem_of_getElem? (i := 1) rfl))) (mvT hZ (hw _ (List.mem_of_getElem? (i := 2) rfl))) (mvT hZ (hw _ (List.mem_of_getElem? (i := 3) rfl))) (mvT hZ (hw _ (List.mem_of_getElem? (i := 4) rfl))) (by decide) (backOf (W := 0) (rm1 l Z a0 hw [] (1 : Int32) (v1135 + (p6 &&& (65535 : Int32))) h0 n0 Z0 ) hZ (hw _ (List.mem_of_getElem? (i := 4) rfl)) (hw _ (List.mem_of_getElem? (i := 3) rfl)) (by decide) (by decide)) (g := (mkF m 83 #[.val (.int p1), .val (.int p2), .val (.int p3), .val (.int p4), .val (.int p5), .val (.int p6), .val (.int (2 : Int32)), .val (.int v1134), .val (.int v1135), .val (.int v1136), .val (.int v1135), .unset, .unset, .unset, .unset, .unset, .unset, .unset, .unset, .unset, .unset, .unset, .unset, .unset] [(.int (v1135 + (p6 &&& (65535 : Int32)))), (.int (1 : Int32))])) rfl (by rw [hml]; rfl) (argsL := [(.int (1 : Int32)), (.int (v1135 + (p6 &&& (65535 : Int32))))]) (rest := []) (lenOf pd_1 rfl) rfl (by show 2 * 0 + _ ≤ _; exact Nat.le_of_eq rfl) (hb hby at_83) (fun _ _ => ⟨rfl, e0, (by decide : 0 + 0 ≤ _), (by decide : 0 + 0 ≤ _)⟩)
    dsimp only [Pt.U, Pt.locs, Pt.cells, Pt.slots] at X1137 l1137 y1137 z1137 st1137 hQ1137
    subst l1137 y1137 z1137
    obtain ⟨rfl, N1137q, e1137⟩ := hQ1137
    have N1137 := Fr.app N0 N1137q
    refine OEnds.st st1137 ?_
    clear st1137
    show OEnds p.tables e below G (T1137.setTop (mkF m 86 #[.val (.int p1), .val (.int p2), .val (.int p3), .val (.int p4), .val (.int p5), .val (.int p6), .val (.int (2 : Int32)), .val (.int v1134), .val (.int v1135), .val (.int v1136), .val (.int v1135), .unset, .unset, .unset, .unset, .unset, .unset, .unset, .unset, .unset, .unset, .unset, .unset, .unset] [(.int (own_mx (1 : Int32) (v1135 + (p6 &&& (65535 : Int32)))))]))
    refine OEnds.st (fun _ k => XS.istore X1137.here hx rfl (hb hby at_86) rfl (l' := #[.val (.int p1), .val (.int p2), .val (.int p3), .val (.int p4), .val (.int p5), .val (.int p6), .val (.int (2 : Int32)), .val (.int v1134), .val (.int v1135), .val (.int v1136), .val (.int v1135), .val (.int (own_mx (1 : Int32) (v1135 + (p6 &&& (65535 : Int32))))), .unset, .unset, .unset, .unset, .unset, .unset, .unset, .unset, .unset, .unset, .unset, .unset]) rfl k) ?_
    show OEnds p.tables e below G (T1137.setTop (mkF m 88 #[.val (.int p1), .val (.int p2), .val (.int p3), .val (.int p4), .val (.int p5), .val (.int p6), .val (.int (2 : Int32)), .val (.int v1134), .val (.int v1135), .val (.int v1136), .val (.int v1135), .val (.int (own_mx (1 : Int32) (v1135 + (p6 &&& (65535 : Int32))))), .unset, .unset, .unset, .unset, .unset, .unset, .unset, .unset, .unset, .unset, .unset, .unset] []))
    generalize hv_v1138 : (own_mx (1 : Int32) (v1135 + (p6 &&& (65535 : Int32)))) = v1138
    have hk1 : ¬ (v1138 < v1134) := own_ret (by omega) hv_v1138 (by omega)
    have hk2 : ¬ (v1138 < v1135) := own_ret (by omega) hv_v1138 (by omega)
    show OEnds p.tables e below G (T1137.setTop (mkF m 88 #[.val (.int p1), .val (.int p2), .val (.int p3), .val (.int p4), .val (.int p5), .val (.int p6), .val (.int (2 : Int32)), .val (.int v1134), .val (.int v1135), .val (.int v1136), .val (.int v1135), .val (.int v1138), .unset, .unset, .unset, .unset, .unset, .unset, .unset, .unset, .unset, .unset, .unset, .unset] []))
    refine OEnds.st (fun _ k => XS.iload X1137.here hx rfl (hb hby at_88) rfl k) ?_
    show OEnds p.tables e below G (T1137.setTop (mkF m 90 #[.val (.int p1), .val (.int p2), .val (.int p3), .val (.int p4), .val (.int p5), .val (.int p6), .val (.int (2 : Int32)), .val (.int v1134), .val (.int v1135), .val (.int v1136), .val (.int v1135), .val (.int v1138), .unset, .unset, .unset, .unset, .unset, .unset, .unset, .unset, .unset, .unset, .unset, .unset] [(.int (2 : Int32))]))
    refine OEnds.st (fun _ k => XS.iloadN X1137.here hx rfl (hb hby at_90) rfl k) ?_
    show OEnds p.tables e below G (T1137.setTop (mkF m 91 #[.val (.int p1), .val (.int p2), .val (.int p3), .val (.int p4), .val (.int p5), .val (.int p6), .val (.int (2 : Int32)), .val (.int v1134), .val (.int v1135), .val (.int v1136), .val (.int v1135), .val (.int v1138), .unset, .unset, .unset, .unset, .unset, .unset, .unset, .unset, .unset, .unset, .unset, .unset] [(.int p2), (.int (2 : Int32))]))
    refine OEnds.st (X1137.ldcInt hx hown (mvT hZ (hw _ (List.mem_of_getElem? (i := 5) rfl))) (g := (mkF m 91 #[.val (.int p1), .val (.int p2), .val (.int p3), .val (.int p4), .val (.int p5), .val (.int p6), .val (.int (2 : Int32)), .val (.int v1134), .val (.int v1135), .val (.int v1136), .val (.int v1135), .val (.int v1138), .unset, .unset, .unset, .unset, .unset, .unset, .unset, .unset, .unset, .unset, .unset, .unset] [(.int p2), (.int (2 : Int32))])) rfl (hb hby at_91)) ?_
    show OEnds p.tables e below G (T1137.setTop (mkF m 93 #[.val (.int p1), .val (.int p2), .val (.int p3), .val (.int p4), .val (.int p5), .val (.int p6), .val (.int (2 : Int32)), .val (.int v1134), .val (.int v1135), .val (.int v1136), .val (.int v1135), .val (.int v1138), .unset, .unset, .unset, .unset, .unset, .unset, .unset, .unset, .unset, .unset, .unset, .unset] [(.int (2147483647 : Int32)), (.int p2), (.int (2 : Int32))]))
    refine OEnds.st (fun _ k => XS.iand X1137.here hx rfl (hb hby at_93) rfl k) ?_
    show OEnds p.tables e below G (T1137.setTop (mkF m 94 #[.val (.int p1), .val (.int p2), .val (.int p3), .val (.int p4), .val (.int p5), .val (.int p6), .val (.int (2 : Int32)), .val (.int v1134), .val (.int v1135), .val (.int v1136), .val (.int v1135), .val (.int v1138), .unset, .unset, .unset, .unset, .unset, .unset, .unset, .unset, .unset, .unset, .unset, .unset] [(.int (p2 &&& (2147483647 : Int32))), (.int (2 : Int32))]))
    obtain ⟨_, _, ⟨T1139, L1139, k1139c, n1139c⟩, -, X1139, ⟨Lc1139, hQ1139, l1139, y1139, z1139⟩, st1139⟩ := Jvm.LawKit.callS X1137 hx (y := (⟨"java/lang/Math", "max", "(II)I"⟩ : MethodName)) hown (mvT hZ (hw _ (List.mem_of_getElem? (i := 1) rfl))) (mvT hZ (hw _ (List.mem_of_getElem? (i := 2) rfl))) (mvT hZ (hw _ (List.mem_of_getElem? (i := 3) rfl))) (mvT hZ (hw _ (List.mem_of_getElem? (i := 4) rfl))) (by decide) (backOf (W := 0) (rm1 l Z a0 hw [] (2 : Int32) (p2 &&& (2147483647 : Int32)) h0 n0 Z0 ) hZ (hw _ (List.mem_of_getElem? (i := 4) rfl)) (hw _ (List.mem_of_getElem? (i := 3) rfl)) (by decide) (by decide)) (g := (mkF m 94 #[.val (.int p1), .val (.int p2), .val (.int p3), .val (.int p4), .val (.int p5), .val (.int p6), .val (.int (2 : Int32)), .val (.int v1134), .val (.int v1135), .val (.int v1136), .val (.int v1135), .val (.int v1138), .unset, .unset, .unset, .unset, .unset, .unset, .unset, .unset, .unset, .unset, .unset, .unset] [(.int (p2 &&& (2147483647 : Int32))), (.int (2 : Int32))])) rfl (by rw [hml]; rfl) (argsL := [(.int (2 : Int32)), (.int (p2 &&& (2147483647 : Int32)))]) (rest := []) (lenOf pd_1 rfl) rfl (by show 2 * 0 + _ ≤ _; exact Nat.le_of_eq rfl) (hb hby at_94) (fun _ _ => ⟨rfl, e1137, (by decide : 0 + 0 + 0 ≤ _), (by decide : 0 + 0 + 0 ≤ _)⟩)
    dsimp only [Pt.U, Pt.locs, Pt.cells, Pt.slots] at X1139 l1139 y1139 z1139 st1139 hQ1139
    subst l1139 y1139 z1139
    obtain ⟨rfl, N1139q, e1139⟩ := hQ1139
    have N1139 := Fr.app N1137 N1139q
    refine OEnds.st st1139 ?_
    clear st1139
    show OEnds p.tables e below G (T1139.setTop (mkF m 97 #[.val (.int p1), .val (.int p2), .val (.int p3), .val (.int p4), .val (.int p5), .val (.int p6), .val (.int (2 : Int32)), .val (.int v1134), .val (.int v1135), .val (.int v1136), .val (.int v1135), .val (.int v1138), .unset, .unset, .unset, .unset, .unset, .unset, .unset, .unset, .unset, .unset, .unset, .unset] [(.int (own_mx (2 : Int32) (p2 &&& (2147483647 : Int32))))]))
    refine OEnds.st (fun _ k => XS.istore X1139.here hx rfl (hb hby at_97) rfl (l' := #[.val (.int p1), .val (.int p2), .val (.int p3), .val (.int p4), .val (.int p5), .val (.int p6), .val (.int (2 : Int32)), .val (.int v1134), .val (.int v1135), .val (.int v1136), .val (.int v1135), .val (.int v1138), .val (.int (own_mx (2 : Int32) (p2 &&& (2147483647 : Int32)))), .unset, .unset, .unset, .unset, .unset, .unset, .unset, .unset, .unset, .unset, .unset]) rfl k) ?_
    show OEnds p.tables e below G (T1139.setTop (mkF m 99 #[.val (.int p1), .val (.int p2), .val (.int p3), .val (.int p4), .val (.int p5), .val (.int p6), .val (.int (2 : Int32)), .val (.int v1134), .val (.int v1135), .val (.int v1136), .val (.int v1135), .val (.int v1138), .val (.int (own_mx (2 : Int32) (p2 &&& (2147483647 : Int32)))), .unset, .unset, .unset, .unset, .unset, .unset, .unset, .unset, .unset, .unset, .unset] []))
    generalize hv_v1140 : (own_mx (2 : Int32) (p2 &&& (2147483647 : Int32))) = v1140
    have hrel : ((2 : Nat) : Int) ≤ v1140.toInt := by
      have q := (own_mxge (2 : Int32) (p2 &&& (2147483647 : Int32))).1
      rw [hv_v1140] at q
      have kn : (2 : Int32).toInt = 2 := by decide
      omega
    have hr0 : ¬ v1140 = (0 : Int32) := fun q => by
      have k0 : (0 : Int32).toInt = 0 := by decide
      rw [q] at hrel
      omega
    have rest115_1141 : ∀ (r2 : Int32) (hR2 : (v1140 = (2147483647 : Int32)) ∨ (¬ v1140 = (2147483647 : Int32) ∧ r2.toInt = v1140.toInt + 1)), OEnds p.tables e below G (T1139.setTop (mkF m 115 #[.val (.int p1), .val (.int p2), .val (.int p3), .val (.int p4), .val (.int p5), .val (.int p6), .val (.int (2 : Int32)), .val (.int v1134), .val (.int v1135), .val (.int v1136), .val (.int v1135), .val (.int v1138), .val (.int v1140), .unset, .unset, .unset, .unset, .unset, .unset, .unset, .unset, .unset, .unset, .unset] [(.int r2)])) := by
      intro r2 hR2
      show OEnds p.tables e below G (T1139.setTop (mkF m 115 #[.val (.int p1), .val (.int p2), .val (.int p3), .val (.int p4), .val (.int p5), .val (.int p6), .val (.int (2 : Int32)), .val (.int v1134), .val (.int v1135), .val (.int v1136), .val (.int v1135), .val (.int v1138), .val (.int v1140), .unset, .unset, .unset, .unset, .unset, .unset, .unset, .unset, .unset, .unset, .unset] [(.int r2)]))
      refine OEnds.st (fun _ k => XS.istore X1139.here hx rfl (hb hby at_115) rfl (l' := #[.val (.int p1), .val (.int p2), .val (.int p3), .val (.int p4), .val (.int p5), .val (.int p6), .val (.int (2 : Int32)), .val (.int v1134), .val (.int v1135), .val (.int v1136), .val (.int v1135), .val (.int v1138), .val (.int v1140), .val (.int r2), .unset, .unset, .unset, .unset, .unset, .unset, .unset, .unset, .unset, .unset]) rfl k) ?_
      show OEnds p.tables e below G (T1139.setTop (mkF m 117 #[.val (.int p1), .val (.int p2), .val (.int p3), .val (.int p4), .val (.int p5), .val (.int p6), .val (.int (2 : Int32)), .val (.int v1134), .val (.int v1135), .val (.int v1136), .val (.int v1135), .val (.int v1138), .val (.int v1140), .val (.int r2), .unset, .unset, .unset, .unset, .unset, .unset, .unset, .unset, .unset, .unset] []))
      refine OEnds.st (fun _ k => XS.iload X1139.here hx rfl (hb hby at_117) rfl k) ?_
      show OEnds p.tables e below G (T1139.setTop (mkF m 119 #[.val (.int p1), .val (.int p2), .val (.int p3), .val (.int p4), .val (.int p5), .val (.int p6), .val (.int (2 : Int32)), .val (.int v1134), .val (.int v1135), .val (.int v1136), .val (.int v1135), .val (.int v1138), .val (.int v1140), .val (.int r2), .unset, .unset, .unset, .unset, .unset, .unset, .unset, .unset, .unset, .unset] [(.int (2 : Int32))]))
      refine OEnds.st (fun _ k => XS.iload X1139.here hx rfl (hb hby at_119) rfl k) ?_
      show OEnds p.tables e below G (T1139.setTop (mkF m 121 #[.val (.int p1), .val (.int p2), .val (.int p3), .val (.int p4), .val (.int p5), .val (.int p6), .val (.int (2 : Int32)), .val (.int v1134), .val (.int v1135), .val (.int v1136), .val (.int v1135), .val (.int v1138), .val (.int v1140), .val (.int r2), .unset, .unset, .unset, .unset, .unset, .unset, .unset, .unset, .unset, .unset] [(.int v1134), (.int (2 : Int32))]))
      refine OEnds.st (fun _ k => XS.iload X1139.here hx rfl (hb hby at_121) rfl k) ?_
      show OEnds p.tables e below G (T1139.setTop (mkF m 123 #[.val (.int p1), .val (.int p2), .val (.int p3), .val (.int p4), .val (.int p5), .val (.int p6), .val (.int (2 : Int32)), .val (.int v1134), .val (.int v1135), .val (.int v1136), .val (.int v1135), .val (.int v1138), .val (.int v1140), .val (.int r2), .unset, .unset, .unset, .unset, .unset, .unset, .unset, .unset, .unset, .unset] [(.int v1135), (.int v1134), (.int (2 : Int32))]))
      refine OEnds.st (fun _ k => XS.iload X1139.here hx rfl (hb hby at_123) rfl k) ?_
      show OEnds p.tables e below G (T1139.setTop (mkF m 125 #[.val (.int p1), .val (.int p2), .val (.int p3), .val (.int p4), .val (.int p5), .val (.int p6), .val (.int (2 : Int32)), .val (.int v1134), .val (.int v1135), .val (.int v1136), .val (.int v1135), .val (.int v1138), .val (.int v1140), .val (.int r2), .unset, .unset, .unset, .unset, .unset, .unset, .unset, .unset, .unset, .unset] [(.int v1136), (.int v1135), (.int v1134), (.int (2 : Int32))]))
      obtain ⟨_, _, ⟨T1142, L1142, k1142c, n1142c⟩, -, X1142, ⟨Lc1142, hQ1142, l1142, y1142, z1142⟩, st1142⟩ := Jvm.LawKit.callS X1139 hx (y := (⟨"com/example/words_to_weights/wordstoweights/evaluation/JudgedRankingSetRecallPinLaw", "ranks", "(IIII)[I"⟩ : MethodName)) hown (mvT hZ (hw _ (List.mem_of_getElem? (i := 6) rfl))) (mvT hZ (hw _ (List.mem_of_getElem? (i := 7) rfl))) (mvT hZ (hw _ (List.mem_of_getElem? (i := 8) rfl))) (mvT hZ (hw _ (List.mem_of_getElem? (i := 9) rfl))) (by decide) (backOf (W := 0) (rmrk2 l Z a0 hw [] v1134 v1135 v1136 h0 n0 Z0 ) hZ (hw _ (List.mem_of_getElem? (i := 9) rfl)) (hw _ (List.mem_of_getElem? (i := 8) rfl)) (by decide) (by decide)) (g := (mkF m 125 #[.val (.int p1), .val (.int p2), .val (.int p3), .val (.int p4), .val (.int p5), .val (.int p6), .val (.int (2 : Int32)), .val (.int v1134), .val (.int v1135), .val (.int v1136), .val (.int v1135), .val (.int v1138), .val (.int v1140), .val (.int r2), .unset, .unset, .unset, .unset, .unset, .unset, .unset, .unset, .unset, .unset] [(.int v1136), (.int v1135), (.int v1134), (.int (2 : Int32))])) rfl (by rw [hml]; rfl) (argsL := [(.int (2 : Int32)), (.int v1134), (.int v1135), (.int v1136)]) (rest := []) (lenOf pd_2 rfl) rfl (by show 2 * 0 + _ ≤ _; exact Nat.le_of_eq rfl) (hb hby at_125) (fun _ _ => ⟨rfl, e1139, (by decide : 0 + 0 + 0 + 1 ≤ _), (by decide : 0 + 0 + 0 + 2 ≤ _)⟩)
      dsimp only [Pt.U, Pt.locs, Pt.cells, Pt.slots] at X1142 l1142 y1142 z1142 st1142 hQ1142
      subst l1142 y1142 z1142
      obtain ⟨b_1142, kb_1142, rfl, N1142q, p1143, p1144, p1145⟩ := hQ1142
      have N1142 := Fr.app N1139 N1142q
      refine OEnds.st st1142 ?_
      clear st1142
      have sz_b_1142 : h0.size ≤ b_1142 := Nat.le_trans KK0.1 p1144
      have ge_b_1142 : n0 ≤ b_1142 := Nat.le_trans Z0 p1144
      have KK1142 : Keep h0 T1142.heap [] := KK0.trans p1143 (fun x hx => absurd hx List.not_mem_nil)
      have Z1142 := Nat.le_trans Z0 p1143.1
      show OEnds p.tables e below G (T1142.setTop (mkF m 128 #[.val (.int p1), .val (.int p2), .val (.int p3), .val (.int p4), .val (.int p5), .val (.int p6), .val (.int (2 : Int32)), .val (.int v1134), .val (.int v1135), .val (.int v1136), .val (.int v1135), .val (.int v1138), .val (.int v1140), .val (.int r2), .unset, .unset, .unset, .unset, .unset, .unset, .unset, .unset, .unset, .unset] [(.ref b_1142)]))
      refine OEnds.st (fun _ k => XS.astore X1142.here hx rfl (hb hby at_128) rfl rfl (l' := #[.val (.int p1), .val (.int p2), .val (.int p3), .val (.int p4), .val (.int p5), .val (.int p6), .val (.int (2 : Int32)), .val (.int v1134), .val (.int v1135), .val (.int v1136), .val (.int v1135), .val (.int v1138), .val (.int v1140), .val (.int r2), .val (.ref b_1142), .unset, .unset, .unset, .unset, .unset, .unset, .unset, .unset, .unset]) rfl k) ?_
      show OEnds p.tables e below G (T1142.setTop (mkF m 130 #[.val (.int p1), .val (.int p2), .val (.int p3), .val (.int p4), .val (.int p5), .val (.int p6), .val (.int (2 : Int32)), .val (.int v1134), .val (.int v1135), .val (.int v1136), .val (.int v1135), .val (.int v1138), .val (.int v1140), .val (.int r2), .val (.ref b_1142), .unset, .unset, .unset, .unset, .unset, .unset, .unset, .unset, .unset] []))
      obtain ⟨T1146, h1146, X1146, e1146, E1146, A1146, D1146, -, st1146⟩ := newO X1142 hx hZ hown (hw _ (List.mem_of_getElem? (i := 11) rfl)) (hw _ (List.mem_of_getElem? (i := 12) rfl)) (hw _ (List.mem_of_getElem? (i := 13) rfl)) rfl (g := (mkF m 130 #[.val (.int p1), .val (.int p2), .val (.int p3), .val (.int p4), .val (.int p5), .val (.int p6), .val (.int (2 : Int32)), .val (.int v1134), .val (.int v1135), .val (.int v1136), .val (.int v1135), .val (.int v1138), .val (.int v1140), .val (.int r2), .val (.ref b_1142), .unset, .unset, .unset, .unset, .unset, .unset, .unset, .unset, .unset] [])) rfl (hb hby at_130) (by decide) (by decide)
      obtain ⟨b1146, g1146⟩ : ∃ z, z = T1142.heap.size := ⟨_, rfl⟩
      rw [← g1146] at A1146 D1146 st1146
      refine OEnds.st st1146 ?_
      clear st1146
      have ne1147 : b_1142 ≠ b1146 := Nat.ne_of_lt (Nat.lt_of_lt_of_le (p1145).lt (Nat.le_of_eq g1146.symm))
      have ge_b1146 : n0 ≤ b1146 := Nat.le_trans Z1142 (Nat.le_of_eq g1146.symm)
      have sz_b1146 : h0.size ≤ b1146 := Nat.le_trans KK1142.1 (Nat.le_of_eq g1146.symm)
      have f1148 : Arv Z h1146 b_1142 kb_1142 .int (2 : Int32) [(.int v1134), (.int v1135)] (.int (0 : Int32)) := p1145.ext E1146
      have KK1146 : Keep h0 h1146 [] := KK1142.ext E1146
      have Z1146 := Nat.le_trans Z1142 E1146.1
      have ex_b1146 := A1146
      have f1149 : Fld Z h1146 b1146 "com/example/words_to_weights/wordstoweights/evaluation/JudgedRanking" "retrieved" "I" (.int (0 : Int32)) := D1146 (Or.inr (hw _ (List.mem_of_getElem? (i := 21) rfl))) (ty := .int) (by decide)
      have f1150 : Fld Z h1146 b1146 "com/example/words_to_weights/wordstoweights/evaluation/JudgedRanking" "relevant" "I" (.int (0 : Int32)) := D1146 (Or.inr (hw _ (List.mem_of_getElem? (i := 23) rfl))) (ty := .int) (by decide)
      have f1151 : Fld Z h1146 b1146 "com/example/words_to_weights/wordstoweights/evaluation/JudgedRanking" "relevantRanks" "[I" .null := D1146 (Or.inr (hw _ (List.mem_of_getElem? (i := 25) rfl))) (ty := (.array .int)) (by decide)
      show OEnds p.tables e below G (T1146.setTop (mkF m 133 #[.val (.int p1), .val (.int p2), .val (.int p3), .val (.int p4), .val (.int p5), .val (.int p6), .val (.int (2 : Int32)), .val (.int v1134), .val (.int v1135), .val (.int v1136), .val (.int v1135), .val (.int v1138), .val (.int v1140), .val (.int r2), .val (.ref b_1142), .unset, .unset, .unset, .unset, .unset, .unset, .unset, .unset, .unset] [(.ref b1146)]))
      refine OEnds.st (fun _ k => XS.dup X1146.here hx rfl (hb hby at_133) rfl rfl k) ?_
      show OEnds p.tables e below G (T1146.setTop (mkF m 134 #[.val (.int p1), .val (.int p2), .val (.int p3), .val (.int p4), .val (.int p5), .val (.int p6), .val (.int (2 : Int32)), .val (.int v1134), .val (.int v1135), .val (.int v1136), .val (.int v1135), .val (.int v1138), .val (.int v1140), .val (.int r2), .val (.ref b_1142), .unset, .unset, .unset, .unset, .unset, .unset, .unset, .unset, .unset] [(.ref b1146), (.ref b1146)]))
      refine OEnds.st (fun _ k => XS.iload X1146.here hx rfl (hb hby at_134) rfl k) ?_
      show OEnds p.tables e below G (T1146.setTop (mkF m 136 #[.val (.int p1), .val (.int p2), .val (.int p3), .val (.int p4), .val (.int p5), .val (.int p6), .val (.int (2 : Int32)), .val (.int v1134), .val (.int v1135), .val (.int v1136), .val (.int v1135), .val (.int v1138), .val (.int v1140), .val (.int r2), .val (.ref b_1142), .unset, .unset, .unset, .unset, .unset, .unset, .unset, .unset, .unset] [(.int v1138), (.ref b1146), (.ref b1146)]))
      refine OEnds.st (fun _ k => XS.iload X1146.here hx rfl (hb hby at_136) rfl k) ?_
      show OEnds p.tables e below G (T1146.setTop (mkF m 138 #[.val (.int p1), .val (.int p2), .val (.int p3), .val (.int p4), .val (.int p5), .val (.int p6), .val (.int (2 : Int32)), .val (.int v1134), .val (.int v1135), .val (.int v1136), .val (.int v1135), .val (.int v1138), .val (.int v1140), .val (.int r2), .val (.ref b_1142), .unset, .unset, .unset, .unset, .unset, .unset, .unset, .unset, .unset] [(.int v1140), (.int v1138), (.ref b1146), (.ref b1146)]))
      refine OEnds.st (fun _ k => XS.aload X1146.here hx rfl (hb hby at_138) rfl rfl k) ?_
      show OEnds p.tables e below G (T1146.setTop (mkF m 140 #[.val (.int p1), .val (.int p2), .val (.int p3), .val (.int p4), .val (.int p5), .val (.int p6), .val (.int (2 : Int32)), .val (.int v1134), .val (.int v1135), .val (.int v1136), .val (.int v1135), .val (.int v1138), .val (.int v1140), .val (.int r2), .val (.ref b_1142), .unset, .unset, .unset, .unset, .unset, .unset, .unset, .unset, .unset] [(.ref b_1142), (.int v1140), (.int v1138), (.ref b1146), (.ref b1146)]))
      obtain ⟨_, _, ⟨T1152, L1152, k1152c, n1152c⟩, -, X1152, ⟨Lc1152, hQ1152, l1152, y1152, z1152⟩, st1152⟩ := X1146.specialBack hx (y := (⟨"com/example/words_to_weights/wordstoweights/evaluation/JudgedRanking", "<init>", "(II[I)V"⟩ : MethodName)) rfl hown (mvT hZ (hw _ (List.mem_of_getElem? (i := 14) rfl))) (mvT hZ (hw _ (List.mem_of_getElem? (i := 15) rfl))) (mvT hZ (hw _ (List.mem_of_getElem? (i := 16) rfl))) (by decide) (backOf (W := 1) (rm3 l Z a0 hw [] b1146 v1138 v1140 b_1142 h1146 n0 Z1146 ex_b1146 f1149 f1150 f1151 ge_b1146) hZ (hw _ (List.mem_of_getElem? (i := 16) rfl)) (hw _ (List.mem_of_getElem? (i := 13) rfl)) (by decide) (by decide)) (g := (mkF m 140 #[.val (.int p1), .val (.int p2), .val (.int p3), .val (.int p4), .val (.int p5), .val (.int p6), .val (.int (2 : Int32)), .val (.int v1134), .val (.int v1135), .val (.int v1136), .val (.int v1135), .val (.int v1138), .val (.int v1140), .val (.int r2), .val (.ref b_1142), .unset, .unset, .unset, .unset, .unset, .unset, .unset, .unset, .unset] [(.ref b_1142), (.int v1140), (.int v1138), (.ref b1146), (.ref b1146)])) rfl (by rw [hml]; rfl) (Steps.refl _) (a := b1146) (argsL := [(.int v1138), (.int v1140), (.ref b_1142)]) (rest := [(.ref b1146)]) (lenOf pd_3 rfl) rfl (by show 2 * 0 + _ ≤ _; exact Nat.le_of_eq rfl) (hb hby at_140) (fun _ _ => ⟨rfl, e1146, (by decide : 0 + 0 + 0 + 1 + 1 + 0 ≤ _), (by decide : 0 + 0 + 0 + 2 + 3 + 0 ≤ _)⟩)
      dsimp only [Pt.U, Pt.locs, Pt.cells, Pt.slots] at X1152 l1152 y1152 z1152 st1152 hQ1152
      subst l1152 y1152 z1152
      obtain ⟨rfl, N1152q, p1153, p1154, p1155, p1156⟩ := hQ1152
      have N1152 := Fr.app N1142 N1152q
      refine OEnds.st (fun _ k => st1152.trans k) ?_
      clear st1152
      have f1157 : Arv Z T1152.heap b_1142 kb_1142 .int (2 : Int32) [(.int v1134), (.int v1135)] (.int (0 : Int32)) := f1148.keep p1153 (by simp only [List.mem_cons, List.not_mem_nil, or_false, not_or]; exact ne1147)
      have f1158 : Exa Z T1152.heap b1146 "com/example/words_to_weights/wordstoweights/evaluation/JudgedRanking" := ex_b1146.keep p1153
      have KK1152 : Keep h0 T1152.heap [] := KK1146.trans p1153 (fun x hx => by cases List.mem_singleton.mp hx; exact Or.inr sz_b1146)
      have Z1152 := Nat.le_trans Z1146 p1153.1
      show OEnds p.tables e below G (T1152.setTop (mkF m 143 #[.val (.int p1), .val (.int p2), .val (.int p3), .val (.int p4), .val (.int p5), .val (.int p6), .val (.int (2 : Int32)), .val (.int v1134), .val (.int v1135), .val (.int v1136), .val (.int v1135), .val (.int v1138), .val (.int v1140), .val (.int r2), .val (.ref b_1142), .unset, .unset, .unset, .unset, .unset, .unset, .unset, .unset, .unset] [(.ref b1146)]))
      refine OEnds.st (fun _ k => XS.astore X1152.here hx rfl (hb hby at_143) rfl rfl (l' := #[.val (.int p1), .val (.int p2), .val (.int p3), .val (.int p4), .val (.int p5), .val (.int p6), .val (.int (2 : Int32)), .val (.int v1134), .val (.int v1135), .val (.int v1136), .val (.int v1135), .val (.int v1138), .val (.int v1140), .val (.int r2), .val (.ref b_1142), .val (.ref b1146), .unset, .unset, .unset, .unset, .unset, .unset, .unset, .unset]) rfl k) ?_
      show OEnds p.tables e below G (T1152.setTop (mkF m 145 #[.val (.int p1), .val (.int p2), .val (.int p3), .val (.int p4), .val (.int p5), .val (.int p6), .val (.int (2 : Int32)), .val (.int v1134), .val (.int v1135), .val (.int v1136), .val (.int v1135), .val (.int v1138), .val (.int v1140), .val (.int r2), .val (.ref b_1142), .val (.ref b1146), .unset, .unset, .unset, .unset, .unset, .unset, .unset, .unset] []))
      obtain ⟨T1162, h1162, X1162, e1162, E1162, A1162, D1162, -, st1162⟩ := newO X1152 hx hZ hown (hw _ (List.mem_of_getElem? (i := 11) rfl)) (hw _ (List.mem_of_getElem? (i := 12) rfl)) (hw _ (List.mem_of_getElem? (i := 13) rfl)) rfl (g := (mkF m 145 #[.val (.int p1), .val (.int p2), .val (.int p3), .val (.int p4), .val (.int p5), .val (.int p6), .val (.int (2 : Int32)), .val (.int v1134), .val (.int v1135), .val (.int v1136), .val (.int v1135), .val (.int v1138), .val (.int v1140), .val (.int r2), .val (.ref b_1142), .val (.ref b1146), .unset, .unset, .unset, .unset, .unset, .unset, .unset, .unset] [])) rfl (hb hby at_145) (by decide) (by decide)
      obtain ⟨b1162, g1162⟩ : ∃ z, z = T1152.heap.size := ⟨_, rfl⟩
      rw [← g1162] at A1162 D1162 st1162
      refine OEnds.st st1162 ?_
      clear st1162
      have ne1163 : b_1142 ≠ b1162 := Nat.ne_of_lt (Nat.lt_of_lt_of_le (f1157).lt (Nat.le_of_eq g1162.symm))
      have ne1164 : b1146 ≠ b1162 := Nat.ne_of_lt (Nat.lt_of_lt_of_le (p1154).lt (Nat.le_of_eq g1162.symm))
      have ge_b1162 : n0 ≤ b1162 := Nat.le_trans Z1152 (Nat.le_of_eq g1162.symm)
      have sz_b1162 : h0.size ≤ b1162 := Nat.le_trans KK1152.1 (Nat.le_of_eq g1162.symm)
      have f1165 : Arv Z h1162 b_1142 kb_1142 .int (2 : Int32) [(.int v1134), (.int v1135)] (.int (0 : Int32)) := f1157.ext E1162
      have f1166 : Exa Z h1162 b1146 "com/example/words_to_weights/wordstoweights/evaluation/JudgedRanking" := p1154.ext E1162
      have f1167 : Fld Z h1162 b1146 "com/example/words_to_weights/wordstoweights/evaluation/JudgedRanking" "relevant" "I" (.int v1140) := p1155.ext E1162
      have f1168 : Fld Z h1162 b1146 "com/example/words_to_weights/wordstoweights/evaluation/JudgedRanking" "relevantRanks" "[I" (.ref b_1142) := p1156.ext E1162
      have KK1162 : Keep h0 h1162 [] := KK1152.ext E1162
      have Z1162 := Nat.le_trans Z1152 E1162.1
      have ex_b1162 := A1162
      have f1169 : Fld Z h1162 b1162 "com/example/words_to_weights/wordstoweights/evaluation/JudgedRanking" "retrieved" "I" (.int (0 : Int32)) := D1162 (Or.inr (hw _ (List.mem_of_getElem? (i := 21) rfl))) (ty := .int) (by decide)
      have f1170 : Fld Z h1162 b1162 "com/example/words_to_weights/wordstoweights/evaluation/JudgedRanking" "relevant" "I" (.int (0 : Int32)) := D1162 (Or.inr (hw _ (List.mem_of_getElem? (i := 23) rfl))) (ty := .int) (by decide)
      have f1171 : Fld Z h1162 b1162 "com/example/words_to_weights/wordstoweights/evaluation/JudgedRanking" "relevantRanks" "[I" .null := D1162 (Or.inr (hw _ (List.mem_of_getElem? (i := 25) rfl))) (ty := (.array .int)) (by decide)
      show OEnds p.tables e below G (T1162.setTop (mkF m 148 #[.val (.int p1), .val (.int p2), .val (.int p3), .val (.int p4), .val (.int p5), .val (.int p6), .val (.int (2 : Int32)), .val (.int v1134), .val (.int v1135), .val (.int v1136), .val (.int v1135), .val (.int v1138), .val (.int v1140), .val (.int r2), .val (.ref b_1142), .val (.ref b1146), .unset, .unset, .unset, .unset, .unset, .unset, .unset, .unset] [(.ref b1162)]))
      refine OEnds.st (fun _ k => XS.dup X1162.here hx rfl (hb hby at_148) rfl rfl k) ?_
      show OEnds p.tables e below G (T1162.setTop (mkF m 149 #[.val (.int p1), .val (.int p2), .val (.int p3), .val (.int p4), .val (.int p5), .val (.int p6), .val (.int (2 : Int32)), .val (.int v1134), .val (.int v1135), .val (.int v1136), .val (.int v1135), .val (.int v1138), .val (.int v1140), .val (.int r2), .val (.ref b_1142), .val (.ref b1146), .unset, .unset, .unset, .unset, .unset, .unset, .unset, .unset] [(.ref b1162), (.ref b1162)]))
      refine OEnds.st (fun _ k => XS.iload X1162.here hx rfl (hb hby at_149) rfl k) ?_
      show OEnds p.tables e below G (T1162.setTop (mkF m 151 #[.val (.int p1), .val (.int p2), .val (.int p3), .val (.int p4), .val (.int p5), .val (.int p6), .val (.int (2 : Int32)), .val (.int v1134), .val (.int v1135), .val (.int v1136), .val (.int v1135), .val (.int v1138), .val (.int v1140), .val (.int r2), .val (.ref b_1142), .val (.ref b1146), .unset, .unset, .unset, .unset, .unset, .unset, .unset, .unset] [(.int v1138), (.ref b1162), (.ref b1162)]))
      refine OEnds.st (fun _ k => XS.iload X1162.here hx rfl (hb hby at_151) rfl k) ?_
      show OEnds p.tables e below G (T1162.setTop (mkF m 153 #[.val (.int p1), .val (.int p2), .val (.int p3), .val (.int p4), .val (.int p5), .val (.int p6), .val (.int (2 : Int32)), .val (.int v1134), .val (.int v1135), .val (.int v1136), .val (.int v1135), .val (.int v1138), .val (.int v1140), .val (.int r2), .val (.ref b_1142), .val (.ref b1146), .unset, .unset, .unset, .unset, .unset, .unset, .unset, .unset] [(.int r2), (.int v1138), (.ref b1162), (.ref b1162)]))
      refine OEnds.st (fun _ k => XS.aload X1162.here hx rfl (hb hby at_153) rfl rfl k) ?_
      show OEnds p.tables e below G (T1162.setTop (mkF m 155 #[.val (.int p1), .val (.int p2), .val (.int p3), .val (.int p4), .val (.int p5), .val (.int p6), .val (.int (2 : Int32)), .val (.int v1134), .val (.int v1135), .val (.int v1136), .val (.int v1135), .val (.int v1138), .val (.int v1140), .val (.int r2), .val (.ref b_1142), .val (.ref b1146), .unset, .unset, .unset, .unset, .unset, .unset, .unset, .unset] [(.ref b_1142), (.int r2), (.int v1138), (.ref b1162), (.ref b1162)]))
      obtain ⟨_, _, ⟨T1172, L1172, k1172c, n1172c⟩, -, X1172, ⟨Lc1172, hQ1172, l1172, y1172, z1172⟩, st1172⟩ := X1162.specialBack hx (y := (⟨"com/example/words_to_weights/wordstoweights/evaluation/JudgedRanking", "<init>", "(II[I)V"⟩ : MethodName)) rfl hown (mvT hZ (hw _ (List.mem_of_getElem? (i := 14) rfl))) (mvT hZ (hw _ (List.mem_of_getElem? (i := 15) rfl))) (mvT hZ (hw _ (List.mem_of_getElem? (i := 16) rfl))) (by decide) (backOf (W := 1) (rm3 l Z a0 hw [] b1162 v1138 r2 b_1142 h1162 n0 Z1162 ex_b1162 f1169 f1170 f1171 ge_b1162) hZ (hw _ (List.mem_of_getElem? (i := 16) rfl)) (hw _ (List.mem_of_getElem? (i := 13) rfl)) (by decide) (by decide)) (g := (mkF m 155 #[.val (.int p1), .val (.int p2), .val (.int p3), .val (.int p4), .val (.int p5), .val (.int p6), .val (.int (2 : Int32)), .val (.int v1134), .val (.int v1135), .val (.int v1136), .val (.int v1135), .val (.int v1138), .val (.int v1140), .val (.int r2), .val (.ref b_1142), .val (.ref b1146), .unset, .unset, .unset, .unset, .unset, .unset, .unset, .unset] [(.ref b_1142), (.int r2), (.int v1138), (.ref b1162), (.ref b1162)])) rfl (by rw [hml]; rfl) (Steps.refl _) (a := b1162) (argsL := [(.int v1138), (.int r2), (.ref b_1142)]) (rest := [(.ref b1162)]) (lenOf pd_3 rfl) rfl (by show 2 * 0 + _ ≤ _; exact Nat.le_of_eq rfl) (hb hby at_155) (fun _ _ => ⟨rfl, e1162, (by decide : 0 + 0 + 0 + 1 + 1 + 0 + 1 + 0 ≤ _), (by decide : 0 + 0 + 0 + 2 + 3 + 0 + 3 + 0 ≤ _)⟩)
      dsimp only [Pt.U, Pt.locs, Pt.cells, Pt.slots] at X1172 l1172 y1172 z1172 st1172 hQ1172
      subst l1172 y1172 z1172
      obtain ⟨rfl, N1172q, p1173, p1174, p1175, p1176⟩ := hQ1172
      have N1172 := Fr.app N1152 N1172q
      refine OEnds.st (fun _ k => st1172.trans k) ?_
      clear st1172
      have f1177 : Arv Z T1172.heap b_1142 kb_1142 .int (2 : Int32) [(.int v1134), (.int v1135)] (.int (0 : Int32)) := f1165.keep p1173 (by simp only [List.mem_cons, List.not_mem_nil, or_false, not_or]; exact ne1163)
      have f1178 : Exa Z T1172.heap b1146 "com/example/words_to_weights/wordstoweights/evaluation/JudgedRanking" := f1166.keep p1173
      have f1179 : Fld Z T1172.heap b1146 "com/example/words_to_weights/wordstoweights/evaluation/JudgedRanking" "relevant" "I" (.int v1140) := f1167.keep p1173 (by simp only [List.mem_cons, List.not_mem_nil, or_false, not_or]; exact ne1164)
      have f1180 : Fld Z T1172.heap b1146 "com/example/words_to_weights/wordstoweights/evaluation/JudgedRanking" "relevantRanks" "[I" (.ref b_1142) := f1168.keep p1173 (by simp only [List.mem_cons, List.not_mem_nil, or_false, not_or]; exact ne1164)
      have f1181 : Exa Z T1172.heap b1162 "com/example/words_to_weights/wordstoweights/evaluation/JudgedRanking" := ex_b1162.keep p1173
      have KK1172 : Keep h0 T1172.heap [] := KK1162.trans p1173 (fun x hx => by cases List.mem_singleton.mp hx; exact Or.inr sz_b1162)
      have Z1172 := Nat.le_trans Z1162 p1173.1
      show OEnds p.tables e below G (T1172.setTop (mkF m 158 #[.val (.int p1), .val (.int p2), .val (.int p3), .val (.int p4), .val (.int p5), .val (.int p6), .val (.int (2 : Int32)), .val (.int v1134), .val (.int v1135), .val (.int v1136), .val (.int v1135), .val (.int v1138), .val (.int v1140), .val (.int r2), .val (.ref b_1142), .val (.ref b1146), .unset, .unset, .unset, .unset, .unset, .unset, .unset, .unset] [(.ref b1162)]))
      refine OEnds.st (fun _ k => XS.astore X1172.here hx rfl (hb hby at_158) rfl rfl (l' := #[.val (.int p1), .val (.int p2), .val (.int p3), .val (.int p4), .val (.int p5), .val (.int p6), .val (.int (2 : Int32)), .val (.int v1134), .val (.int v1135), .val (.int v1136), .val (.int v1135), .val (.int v1138), .val (.int v1140), .val (.int r2), .val (.ref b_1142), .val (.ref b1146), .val (.ref b1162), .unset, .unset, .unset, .unset, .unset, .unset, .unset]) rfl k) ?_
      show OEnds p.tables e below G (T1172.setTop (mkF m 160 #[.val (.int p1), .val (.int p2), .val (.int p3), .val (.int p4), .val (.int p5), .val (.int p6), .val (.int (2 : Int32)), .val (.int v1134), .val (.int v1135), .val (.int v1136), .val (.int v1135), .val (.int v1138), .val (.int v1140), .val (.int r2), .val (.ref b_1142), .val (.ref b1146), .val (.ref b1162), .unset, .unset, .unset, .unset, .unset, .unset, .unset] []))
      refine OEnds.st (fun _ k => XS.aload X1172.here hx rfl (hb hby at_160) rfl rfl k) ?_
      show OEnds p.tables e below G (T1172.setTop (mkF m 162 #[.val (.int p1), .val (.int p2), .val (.int p3), .val (.int p4), .val (.int p5), .val (.int p6), .val (.int (2 : Int32)), .val (.int v1134), .val (.int v1135), .val (.int v1136), .val (.int v1135), .val (.int v1138), .val (.int v1140), .val (.int r2), .val (.ref b_1142), .val (.ref b1146), .val (.ref b1162), .unset, .unset, .unset, .unset, .unset, .unset, .unset] [(.ref b1146)]))
      obtain ⟨cq1185, kq1185, q1185a, q1185b, q1185c⟩ := isOf hZ rfl f1178
      obtain ⟨_, _, ⟨T1185, L1185, k1185c, n1185c⟩, -, X1185, ⟨Lc1185, hQ1185, l1185, y1185, z1185⟩, st1185⟩ := X1172.virtualBack hx (y := (⟨"com/example/words_to_weights/wordstoweights/evaluation/JudgedRanking", "setRecall", "()D"⟩ : MethodName)) (z := (⟨"com/example/words_to_weights/wordstoweights/evaluation/JudgedRanking", "setRecall", "()D"⟩ : MethodName)) hown (mvT hZ (hw _ (List.mem_of_getElem? (i := 26) rfl))) (mvT hZ (hw _ (List.mem_of_getElem? (i := 27) rfl))) (notFace_of_selects (args := #[]) (mvT hZ (hw _ (List.mem_of_getElem? (i := 29) rfl)))) (mvT hZ (hw _ (List.mem_of_getElem? (i := 29) rfl))) (mvT hZ (hw _ (List.mem_of_getElem? (i := 28) rfl))) (by decide) (backOf (W := 0) (rmsr2 l Z a0 hw [] b1146 v1140 b_1142 kb_1142 ([(.int v1134), (.int v1135)]) T1172.heap n0 Z1172 f1179 f1180 f1177) hZ (hw _ (List.mem_of_getElem? (i := 30) rfl)) (hw _ (List.mem_of_getElem? (i := 13) rfl)) (by decide) (by decide)) q1185a q1185c (g := (mkF m 162 #[.val (.int p1), .val (.int p2), .val (.int p3), .val (.int p4), .val (.int p5), .val (.int p6), .val (.int (2 : Int32)), .val (.int v1134), .val (.int v1135), .val (.int v1136), .val (.int v1135), .val (.int v1138), .val (.int v1140), .val (.int r2), .val (.ref b_1142), .val (.ref b1146), .val (.ref b1162), .unset, .unset, .unset, .unset, .unset, .unset, .unset] [(.ref b1146)])) rfl (by rw [hml]; rfl) (Steps.refl _) (argsL := []) (rest := []) (lenOf pd_4 rfl) rfl (by show 2 * 0 + _ ≤ _; exact Nat.le_of_eq rfl) (hb hby at_162) (fun _ _ => ⟨rfl, rfl, (by decide : 0 + 0 + 0 + 1 + 1 + 0 + 1 + 0 + 0 ≤ _), (by decide : 0 + 0 + 0 + 2 + 3 + 0 + 3 + 0 + 0 ≤ _)⟩)
      dsimp only [Pt.U, Pt.locs, Pt.cells, Pt.slots] at X1185 l1185 y1185 z1185 st1185 hQ1185
      subst l1185 y1185 z1185
      obtain ⟨rfl, N1185q, e1185⟩ := hQ1185
      have N1185 := Fr.app N1172 N1185q
      refine OEnds.st (fun _ k => st1185.trans k) ?_
      clear st1185
      show OEnds p.tables e below G (T1185.setTop (mkF m 165 #[.val (.int p1), .val (.int p2), .val (.int p3), .val (.int p4), .val (.int p5), .val (.int p6), .val (.int (2 : Int32)), .val (.int v1134), .val (.int v1135), .val (.int v1136), .val (.int v1135), .val (.int v1138), .val (.int v1140), .val (.int r2), .val (.ref b_1142), .val (.ref b1146), .val (.ref b1162), .unset, .unset, .unset, .unset, .unset, .unset, .unset] [(.double (own_rc (4611686018427387904 : UInt64) v1140))]))
      refine OEnds.st (fun _ k => XS.dstore X1185.here hx rfl (hb hby at_165) rfl (l' := #[.val (.int p1), .val (.int p2), .val (.int p3), .val (.int p4), .val (.int p5), .val (.int p6), .val (.int (2 : Int32)), .val (.int v1134), .val (.int v1135), .val (.int v1136), .val (.int v1135), .val (.int v1138), .val (.int v1140), .val (.int r2), .val (.ref b_1142), .val (.ref b1146), .val (.ref b1162), .val (.double (own_rc (4611686018427387904 : UInt64) v1140)), .second, .unset, .unset, .unset, .unset, .unset]) rfl k) ?_
      show OEnds p.tables e below G (T1185.setTop (mkF m 167 #[.val (.int p1), .val (.int p2), .val (.int p3), .val (.int p4), .val (.int p5), .val (.int p6), .val (.int (2 : Int32)), .val (.int v1134), .val (.int v1135), .val (.int v1136), .val (.int v1135), .val (.int v1138), .val (.int v1140), .val (.int r2), .val (.ref b_1142), .val (.ref b1146), .val (.ref b1162), .val (.double (own_rc (4611686018427387904 : UInt64) v1140)), .second, .unset, .unset, .unset, .unset, .unset] []))
      refine OEnds.st (fun _ k => XS.aload X1185.here hx rfl (hb hby at_167) rfl rfl k) ?_
      show OEnds p.tables e below G (T1185.setTop (mkF m 169 #[.val (.int p1), .val (.int p2), .val (.int p3), .val (.int p4), .val (.int p5), .val (.int p6), .val (.int (2 : Int32)), .val (.int v1134), .val (.int v1135), .val (.int v1136), .val (.int v1135), .val (.int v1138), .val (.int v1140), .val (.int r2), .val (.ref b_1142), .val (.ref b1146), .val (.ref b1162), .val (.double (own_rc (4611686018427387904 : UInt64) v1140)), .second, .unset, .unset, .unset, .unset, .unset] [(.ref b1146)]))
      refine OEnds.st (fun _ k => XS.iload X1185.here hx rfl (hb hby at_169) rfl k) ?_
      show OEnds p.tables e below G (T1185.setTop (mkF m 171 #[.val (.int p1), .val (.int p2), .val (.int p3), .val (.int p4), .val (.int p5), .val (.int p6), .val (.int (2 : Int32)), .val (.int v1134), .val (.int v1135), .val (.int v1136), .val (.int v1135), .val (.int v1138), .val (.int v1140), .val (.int r2), .val (.ref b_1142), .val (.ref b1146), .val (.ref b1162), .val (.double (own_rc (4611686018427387904 : UInt64) v1140)), .second, .unset, .unset, .unset, .unset, .unset] [(.int v1138), (.ref b1146)]))
      obtain ⟨cq1186, kq1186, q1186a, q1186b, q1186c⟩ := isOf hZ e1185 f1178
      obtain ⟨_, _, ⟨T1186, L1186, k1186c, n1186c⟩, -, X1186, ⟨Lc1186, hQ1186, l1186, y1186, z1186⟩, st1186⟩ := X1185.virtualBack hx (y := (⟨"com/example/words_to_weights/wordstoweights/evaluation/JudgedRanking", "recallAt", "(I)D"⟩ : MethodName)) (z := (⟨"com/example/words_to_weights/wordstoweights/evaluation/JudgedRanking", "recallAt", "(I)D"⟩ : MethodName)) hown (mvT hZ (hw _ (List.mem_of_getElem? (i := 31) rfl))) (mvT hZ (hw _ (List.mem_of_getElem? (i := 32) rfl))) (notFace_of_selects (args := #[]) (mvT hZ (hw _ (List.mem_of_getElem? (i := 34) rfl)))) (mvT hZ (hw _ (List.mem_of_getElem? (i := 34) rfl))) (mvT hZ (hw _ (List.mem_of_getElem? (i := 33) rfl))) (by decide) (backOf (W := 0) (rmra2 l Z a0 hw [] b1146 v1138 v1140 b_1142 kb_1142 v1134 v1135 T1172.heap n0 Z1172 f1178 f1179 f1180 f1177 hk1 hk2) hZ (hw _ (List.mem_of_getElem? (i := 35) rfl)) (hw _ (List.mem_of_getElem? (i := 13) rfl)) (by decide) (by decide)) q1186a q1186c (g := (mkF m 171 #[.val (.int p1), .val (.int p2), .val (.int p3), .val (.int p4), .val (.int p5), .val (.int p6), .val (.int (2 : Int32)), .val (.int v1134), .val (.int v1135), .val (.int v1136), .val (.int v1135), .val (.int v1138), .val (.int v1140), .val (.int r2), .val (.ref b_1142), .val (.ref b1146), .val (.ref b1162), .val (.double (own_rc (4611686018427387904 : UInt64) v1140)), .second, .unset, .unset, .unset, .unset, .unset] [(.int v1138), (.ref b1146)])) rfl (by rw [hml]; rfl) (Steps.refl _) (argsL := [(.int v1138)]) (rest := []) (lenOf pd_5 rfl) rfl (by show 2 * 0 + _ ≤ _; exact Nat.le_of_eq rfl) (hb hby at_171) (fun _ _ => ⟨rfl, e1185, (by decide : 0 + 0 + 0 + 1 + 1 + 0 + 1 + 0 + 0 + 0 ≤ _), (by decide : 0 + 0 + 0 + 2 + 3 + 0 + 3 + 0 + 0 + 0 ≤ _)⟩)
      dsimp only [Pt.U, Pt.locs, Pt.cells, Pt.slots] at X1186 l1186 y1186 z1186 st1186 hQ1186
      subst l1186 y1186 z1186
      obtain ⟨rfl, N1186q, e1186⟩ := hQ1186
      have N1186 := Fr.app N1185 N1186q
      refine OEnds.st (fun _ k => st1186.trans k) ?_
      clear st1186
      show OEnds p.tables e below G (T1186.setTop (mkF m 174 #[.val (.int p1), .val (.int p2), .val (.int p3), .val (.int p4), .val (.int p5), .val (.int p6), .val (.int (2 : Int32)), .val (.int v1134), .val (.int v1135), .val (.int v1136), .val (.int v1135), .val (.int v1138), .val (.int v1140), .val (.int r2), .val (.ref b_1142), .val (.ref b1146), .val (.ref b1162), .val (.double (own_rc (4611686018427387904 : UInt64) v1140)), .second, .unset, .unset, .unset, .unset, .unset] [(.double (own_rc (4611686018427387904 : UInt64) v1140))]))
      refine OEnds.st (fun _ k => XS.dstore X1186.here hx rfl (hb hby at_174) rfl (l' := #[.val (.int p1), .val (.int p2), .val (.int p3), .val (.int p4), .val (.int p5), .val (.int p6), .val (.int (2 : Int32)), .val (.int v1134), .val (.int v1135), .val (.int v1136), .val (.int v1135), .val (.int v1138), .val (.int v1140), .val (.int r2), .val (.ref b_1142), .val (.ref b1146), .val (.ref b1162), .val (.double (own_rc (4611686018427387904 : UInt64) v1140)), .second, .val (.double (own_rc (4611686018427387904 : UInt64) v1140)), .second, .unset, .unset, .unset]) rfl k) ?_
      show OEnds p.tables e below G (T1186.setTop (mkF m 176 #[.val (.int p1), .val (.int p2), .val (.int p3), .val (.int p4), .val (.int p5), .val (.int p6), .val (.int (2 : Int32)), .val (.int v1134), .val (.int v1135), .val (.int v1136), .val (.int v1135), .val (.int v1138), .val (.int v1140), .val (.int r2), .val (.ref b_1142), .val (.ref b1146), .val (.ref b1162), .val (.double (own_rc (4611686018427387904 : UInt64) v1140)), .second, .val (.double (own_rc (4611686018427387904 : UInt64) v1140)), .second, .unset, .unset, .unset] []))
      refine OEnds.st (fun _ k => XS.aload X1186.here hx rfl (hb hby at_176) rfl rfl k) ?_
      show OEnds p.tables e below G (T1186.setTop (mkF m 178 #[.val (.int p1), .val (.int p2), .val (.int p3), .val (.int p4), .val (.int p5), .val (.int p6), .val (.int (2 : Int32)), .val (.int v1134), .val (.int v1135), .val (.int v1136), .val (.int v1135), .val (.int v1138), .val (.int v1140), .val (.int r2), .val (.ref b_1142), .val (.ref b1146), .val (.ref b1162), .val (.double (own_rc (4611686018427387904 : UInt64) v1140)), .second, .val (.double (own_rc (4611686018427387904 : UInt64) v1140)), .second, .unset, .unset, .unset] [(.ref b1162)]))
      obtain ⟨cq1187, kq1187, q1187a, q1187b, q1187c⟩ := isOf hZ e1186 p1174
      obtain ⟨_, _, ⟨T1187, L1187, k1187c, n1187c⟩, -, X1187, ⟨Lc1187, hQ1187, l1187, y1187, z1187⟩, st1187⟩ := X1186.virtualBack hx (y := (⟨"com/example/words_to_weights/wordstoweights/evaluation/JudgedRanking", "setRecall", "()D"⟩ : MethodName)) (z := (⟨"com/example/words_to_weights/wordstoweights/evaluation/JudgedRanking", "setRecall", "()D"⟩ : MethodName)) hown (mvT hZ (hw _ (List.mem_of_getElem? (i := 26) rfl))) (mvT hZ (hw _ (List.mem_of_getElem? (i := 27) rfl))) (notFace_of_selects (args := #[]) (mvT hZ (hw _ (List.mem_of_getElem? (i := 29) rfl)))) (mvT hZ (hw _ (List.mem_of_getElem? (i := 29) rfl))) (mvT hZ (hw _ (List.mem_of_getElem? (i := 28) rfl))) (by decide) (backOf (W := 0) (rmsr2 l Z a0 hw [] b1162 r2 b_1142 kb_1142 ([(.int v1134), (.int v1135)]) T1172.heap n0 Z1172 p1175 p1176 f1177) hZ (hw _ (List.mem_of_getElem? (i := 30) rfl)) (hw _ (List.mem_of_getElem? (i := 13) rfl)) (by decide) (by decide)) q1187a q1187c (g := (mkF m 178 #[.val (.int p1), .val (.int p2), .val (.int p3), .val (.int p4), .val (.int p5), .val (.int p6), .val (.int (2 : Int32)), .val (.int v1134), .val (.int v1135), .val (.int v1136), .val (.int v1135), .val (.int v1138), .val (.int v1140), .val (.int r2), .val (.ref b_1142), .val (.ref b1146), .val (.ref b1162), .val (.double (own_rc (4611686018427387904 : UInt64) v1140)), .second, .val (.double (own_rc (4611686018427387904 : UInt64) v1140)), .second, .unset, .unset, .unset] [(.ref b1162)])) rfl (by rw [hml]; rfl) (Steps.refl _) (argsL := []) (rest := []) (lenOf pd_4 rfl) rfl (by show 2 * 0 + _ ≤ _; exact Nat.le_of_eq rfl) (hb hby at_178) (fun _ _ => ⟨rfl, e1186, (by decide : 0 + 0 + 0 + 1 + 1 + 0 + 1 + 0 + 0 + 0 + 0 ≤ _), (by decide : 0 + 0 + 0 + 2 + 3 + 0 + 3 + 0 + 0 + 0 + 0 ≤ _)⟩)
      dsimp only [Pt.U, Pt.locs, Pt.cells, Pt.slots] at X1187 l1187 y1187 z1187 st1187 hQ1187
      subst l1187 y1187 z1187
      obtain ⟨rfl, N1187q, e1187⟩ := hQ1187
      have N1187 := Fr.app N1186 N1187q
      refine OEnds.st (fun _ k => st1187.trans k) ?_
      clear st1187
      show OEnds p.tables e below G (T1187.setTop (mkF m 181 #[.val (.int p1), .val (.int p2), .val (.int p3), .val (.int p4), .val (.int p5), .val (.int p6), .val (.int (2 : Int32)), .val (.int v1134), .val (.int v1135), .val (.int v1136), .val (.int v1135), .val (.int v1138), .val (.int v1140), .val (.int r2), .val (.ref b_1142), .val (.ref b1146), .val (.ref b1162), .val (.double (own_rc (4611686018427387904 : UInt64) v1140)), .second, .val (.double (own_rc (4611686018427387904 : UInt64) v1140)), .second, .unset, .unset, .unset] [(.double (own_rc (4611686018427387904 : UInt64) r2))]))
      refine OEnds.st (fun _ k => XS.dstore X1187.here hx rfl (hb hby at_181) rfl (l' := #[.val (.int p1), .val (.int p2), .val (.int p3), .val (.int p4), .val (.int p5), .val (.int p6), .val (.int (2 : Int32)), .val (.int v1134), .val (.int v1135), .val (.int v1136), .val (.int v1135), .val (.int v1138), .val (.int v1140), .val (.int r2), .val (.ref b_1142), .val (.ref b1146), .val (.ref b1162), .val (.double (own_rc (4611686018427387904 : UInt64) v1140)), .second, .val (.double (own_rc (4611686018427387904 : UInt64) v1140)), .second, .val (.double (own_rc (4611686018427387904 : UInt64) r2)), .second, .unset]) rfl k) ?_
      obtain ⟨M1, hP1, hM1, hM2, hM3⟩ := own_R own_B2 (by decide) hrel
      show OEnds p.tables e below G (T1187.setTop (mkF m 183 #[.val (.int p1), .val (.int p2), .val (.int p3), .val (.int p4), .val (.int p5), .val (.int p6), .val (.int (2 : Int32)), .val (.int v1134), .val (.int v1135), .val (.int v1136), .val (.int v1135), .val (.int v1138), .val (.int v1140), .val (.int r2), .val (.ref b_1142), .val (.ref b1146), .val (.ref b1162), .val (.double (own_rc (4611686018427387904 : UInt64) v1140)), .second, .val (.double (own_rc (4611686018427387904 : UInt64) v1140)), .second, .val (.double (own_rc (4611686018427387904 : UInt64) r2)), .second, .unset] []))
      refine OEnds.st (fun _ k => XS.dload X1187.here hx rfl (hb hby at_183) rfl k) ?_
      show OEnds p.tables e below G (T1187.setTop (mkF m 185 #[.val (.int p1), .val (.int p2), .val (.int p3), .val (.int p4), .val (.int p5), .val (.int p6), .val (.int (2 : Int32)), .val (.int v1134), .val (.int v1135), .val (.int v1136), .val (.int v1135), .val (.int v1138), .val (.int v1140), .val (.int r2), .val (.ref b_1142), .val (.ref b1146), .val (.ref b1162), .val (.double (own_rc (4611686018427387904 : UInt64) v1140)), .second, .val (.double (own_rc (4611686018427387904 : UInt64) v1140)), .second, .val (.double (own_rc (4611686018427387904 : UInt64) r2)), .second, .unset] [(.double (own_rc (4611686018427387904 : UInt64) v1140))]))
      refine OEnds.st (fun _ k => XS.dload X1187.here hx rfl (hb hby at_185) rfl k) ?_
      show OEnds p.tables e below G (T1187.setTop (mkF m 187 #[.val (.int p1), .val (.int p2), .val (.int p3), .val (.int p4), .val (.int p5), .val (.int p6), .val (.int (2 : Int32)), .val (.int v1134), .val (.int v1135), .val (.int v1136), .val (.int v1135), .val (.int v1138), .val (.int v1140), .val (.int r2), .val (.ref b_1142), .val (.ref b1146), .val (.ref b1162), .val (.double (own_rc (4611686018427387904 : UInt64) v1140)), .second, .val (.double (own_rc (4611686018427387904 : UInt64) v1140)), .second, .val (.double (own_rc (4611686018427387904 : UInt64) r2)), .second, .unset] [(.double (own_rc (4611686018427387904 : UInt64) v1140)), (.double (own_rc (4611686018427387904 : UInt64) v1140))]))
      refine OEnds.st (fun _ k => XS.dcmpS X1187.here hx rfl (hb hby at_187) rfl rfl k) ?_
      show OEnds p.tables e below G (T1187.setTop (mkF m 188 #[.val (.int p1), .val (.int p2), .val (.int p3), .val (.int p4), .val (.int p5), .val (.int p6), .val (.int (2 : Int32)), .val (.int v1134), .val (.int v1135), .val (.int v1136), .val (.int v1135), .val (.int v1138), .val (.int v1140), .val (.int r2), .val (.ref b_1142), .val (.ref b1146), .val (.ref b1162), .val (.double (own_rc (4611686018427387904 : UInt64) v1140)), .second, .val (.double (own_rc (4611686018427387904 : UInt64) v1140)), .second, .val (.double (own_rc (4611686018427387904 : UInt64) r2)), .second, .unset] [(.int (cmpValue (FP.dcmp (own_rc (4611686018427387904 : UInt64) v1140) (own_rc (4611686018427387904 : UInt64) v1140)) .l))]))
      have hc188_1188 : (cmpValue (FP.dcmp (own_rc (4611686018427387904 : UInt64) v1140) (own_rc (4611686018427387904 : UInt64) v1140)) .l) = (0 : Int32) := (own_ceq hP1 hP1 .l).mpr rfl
      refine OEnds.st (fun _ k => XS.ifNo X1187.here hx rfl (hb hby at_188) rfl ((if0 _ _).trans (teq hc188_1188).2) k) ?_
      show OEnds p.tables e below G (T1187.setTop (mkF m 191 #[.val (.int p1), .val (.int p2), .val (.int p3), .val (.int p4), .val (.int p5), .val (.int p6), .val (.int (2 : Int32)), .val (.int v1134), .val (.int v1135), .val (.int v1136), .val (.int v1135), .val (.int v1138), .val (.int v1140), .val (.int r2), .val (.ref b_1142), .val (.ref b1146), .val (.ref b1162), .val (.double (own_rc (4611686018427387904 : UInt64) v1140)), .second, .val (.double (own_rc (4611686018427387904 : UInt64) v1140)), .second, .val (.double (own_rc (4611686018427387904 : UInt64) r2)), .second, .unset] []))
      refine OEnds.st (fun _ k => XS.iconst X1187.here hx rfl (hb hby at_191) k) ?_
      show OEnds p.tables e below G (T1187.setTop (mkF m 192 #[.val (.int p1), .val (.int p2), .val (.int p3), .val (.int p4), .val (.int p5), .val (.int p6), .val (.int (2 : Int32)), .val (.int v1134), .val (.int v1135), .val (.int v1136), .val (.int v1135), .val (.int v1138), .val (.int v1140), .val (.int r2), .val (.ref b_1142), .val (.ref b1146), .val (.ref b1162), .val (.double (own_rc (4611686018427387904 : UInt64) v1140)), .second, .val (.double (own_rc (4611686018427387904 : UInt64) v1140)), .second, .val (.double (own_rc (4611686018427387904 : UInt64) r2)), .second, .unset] [(.int (1 : Int32))]))
      refine OEnds.st (fun _ k => XS.goto X1187.here hx rfl (pc0 := 192) (pc' := 196) rfl (hb hby at_192) (by decide) (by decide) k) ?_
      show OEnds p.tables e below G (T1187.setTop (mkF m 196 #[.val (.int p1), .val (.int p2), .val (.int p3), .val (.int p4), .val (.int p5), .val (.int p6), .val (.int (2 : Int32)), .val (.int v1134), .val (.int v1135), .val (.int v1136), .val (.int v1135), .val (.int v1138), .val (.int v1140), .val (.int r2), .val (.ref b_1142), .val (.ref b1146), .val (.ref b1162), .val (.double (own_rc (4611686018427387904 : UInt64) v1140)), .second, .val (.double (own_rc (4611686018427387904 : UInt64) v1140)), .second, .val (.double (own_rc (4611686018427387904 : UInt64) r2)), .second, .unset] [(.int (1 : Int32))]))
      refine OEnds.st (fun _ k => XS.istore X1187.here hx rfl (hb hby at_196) rfl (l' := #[.val (.int p1), .val (.int p2), .val (.int p3), .val (.int p4), .val (.int p5), .val (.int p6), .val (.int (2 : Int32)), .val (.int v1134), .val (.int v1135), .val (.int v1136), .val (.int v1135), .val (.int v1138), .val (.int v1140), .val (.int r2), .val (.ref b_1142), .val (.ref b1146), .val (.ref b1162), .val (.double (own_rc (4611686018427387904 : UInt64) v1140)), .second, .val (.double (own_rc (4611686018427387904 : UInt64) v1140)), .second, .val (.double (own_rc (4611686018427387904 : UInt64) r2)), .second, .val (.int (1 : Int32))]) rfl k) ?_
      show OEnds p.tables e below G (T1187.setTop (mkF m 198 #[.val (.int p1), .val (.int p2), .val (.int p3), .val (.int p4), .val (.int p5), .val (.int p6), .val (.int (2 : Int32)), .val (.int v1134), .val (.int v1135), .val (.int v1136), .val (.int v1135), .val (.int v1138), .val (.int v1140), .val (.int r2), .val (.ref b_1142), .val (.ref b1146), .val (.ref b1162), .val (.double (own_rc (4611686018427387904 : UInt64) v1140)), .second, .val (.double (own_rc (4611686018427387904 : UInt64) v1140)), .second, .val (.double (own_rc (4611686018427387904 : UInt64) r2)), .second, .val (.int (1 : Int32))] []))
      refine OEnds.st (fun _ k => XS.iload X1187.here hx rfl (hb hby at_198) rfl k) ?_
      show OEnds p.tables e below G (T1187.setTop (mkF m 200 #[.val (.int p1), .val (.int p2), .val (.int p3), .val (.int p4), .val (.int p5), .val (.int p6), .val (.int (2 : Int32)), .val (.int v1134), .val (.int v1135), .val (.int v1136), .val (.int v1135), .val (.int v1138), .val (.int v1140), .val (.int r2), .val (.ref b_1142), .val (.ref b1146), .val (.ref b1162), .val (.double (own_rc (4611686018427387904 : UInt64) v1140)), .second, .val (.double (own_rc (4611686018427387904 : UInt64) v1140)), .second, .val (.double (own_rc (4611686018427387904 : UInt64) r2)), .second, .val (.int (1 : Int32))] [(.int (1 : Int32))]))
      refine OEnds.st (fun _ k => XS.ifNo X1187.here hx rfl (hb hby at_200) rfl ((if0 _ _).trans (feq (by decide : ¬ ((1 : Int32) = (0 : Int32)))).1) k) ?_
      show OEnds p.tables e below G (T1187.setTop (mkF m 203 #[.val (.int p1), .val (.int p2), .val (.int p3), .val (.int p4), .val (.int p5), .val (.int p6), .val (.int (2 : Int32)), .val (.int v1134), .val (.int v1135), .val (.int v1136), .val (.int v1135), .val (.int v1138), .val (.int v1140), .val (.int r2), .val (.ref b_1142), .val (.ref b1146), .val (.ref b1162), .val (.double (own_rc (4611686018427387904 : UInt64) v1140)), .second, .val (.double (own_rc (4611686018427387904 : UInt64) v1140)), .second, .val (.double (own_rc (4611686018427387904 : UInt64) r2)), .second, .val (.int (1 : Int32))] []))
      refine OEnds.st (fun _ k => XS.dload X1187.here hx rfl (hb hby at_203) rfl k) ?_
      show OEnds p.tables e below G (T1187.setTop (mkF m 205 #[.val (.int p1), .val (.int p2), .val (.int p3), .val (.int p4), .val (.int p5), .val (.int p6), .val (.int (2 : Int32)), .val (.int v1134), .val (.int v1135), .val (.int v1136), .val (.int v1135), .val (.int v1138), .val (.int v1140), .val (.int r2), .val (.ref b_1142), .val (.ref b1146), .val (.ref b1162), .val (.double (own_rc (4611686018427387904 : UInt64) v1140)), .second, .val (.double (own_rc (4611686018427387904 : UInt64) v1140)), .second, .val (.double (own_rc (4611686018427387904 : UInt64) r2)), .second, .val (.int (1 : Int32))] [(.double (own_rc (4611686018427387904 : UInt64) v1140))]))
      refine OEnds.st (fun _ k => XS.dconst0 X1187.here hx rfl (hb hby at_205) (v := (0 : UInt64)) rfl k) ?_
      show OEnds p.tables e below G (T1187.setTop (mkF m 206 #[.val (.int p1), .val (.int p2), .val (.int p3), .val (.int p4), .val (.int p5), .val (.int p6), .val (.int (2 : Int32)), .val (.int v1134), .val (.int v1135), .val (.int v1136), .val (.int v1135), .val (.int v1138), .val (.int v1140), .val (.int r2), .val (.ref b_1142), .val (.ref b1146), .val (.ref b1162), .val (.double (own_rc (4611686018427387904 : UInt64) v1140)), .second, .val (.double (own_rc (4611686018427387904 : UInt64) v1140)), .second, .val (.double (own_rc (4611686018427387904 : UInt64) r2)), .second, .val (.int (1 : Int32))] [(.double (0 : UInt64)), (.double (own_rc (4611686018427387904 : UInt64) v1140))]))
      refine OEnds.st (fun _ k => XS.dcmpS X1187.here hx rfl (hb hby at_206) rfl rfl k) ?_
      show OEnds p.tables e below G (T1187.setTop (mkF m 207 #[.val (.int p1), .val (.int p2), .val (.int p3), .val (.int p4), .val (.int p5), .val (.int p6), .val (.int (2 : Int32)), .val (.int v1134), .val (.int v1135), .val (.int v1136), .val (.int v1135), .val (.int v1138), .val (.int v1140), .val (.int r2), .val (.ref b_1142), .val (.ref b1146), .val (.ref b1162), .val (.double (own_rc (4611686018427387904 : UInt64) v1140)), .second, .val (.double (own_rc (4611686018427387904 : UInt64) v1140)), .second, .val (.double (own_rc (4611686018427387904 : UInt64) r2)), .second, .val (.int (1 : Int32))] [(.int (cmpValue (FP.dcmp (own_rc (4611686018427387904 : UInt64) v1140) (0 : UInt64)) .l))]))
      have hc207_1189 : ¬ ((cmpValue (FP.dcmp (own_rc (4611686018427387904 : UInt64) v1140) (0 : UInt64)) .l) < (0 : Int32)) := fun q => Nat.not_lt_zero _ ((own_clt hP1 own_Pz0 .l).mp q)
      refine OEnds.st (fun _ k => XS.ifNo X1187.here hx rfl (hb hby at_207) rfl ((if0 _ _).trans (flt hc207_1189).1) k) ?_
      show OEnds p.tables e below G (T1187.setTop (mkF m 210 #[.val (.int p1), .val (.int p2), .val (.int p3), .val (.int p4), .val (.int p5), .val (.int p6), .val (.int (2 : Int32)), .val (.int v1134), .val (.int v1135), .val (.int v1136), .val (.int v1135), .val (.int v1138), .val (.int v1140), .val (.int r2), .val (.ref b_1142), .val (.ref b1146), .val (.ref b1162), .val (.double (own_rc (4611686018427387904 : UInt64) v1140)), .second, .val (.double (own_rc (4611686018427387904 : UInt64) v1140)), .second, .val (.double (own_rc (4611686018427387904 : UInt64) r2)), .second, .val (.int (1 : Int32))] []))
      refine OEnds.st (fun _ k => XS.dload X1187.here hx rfl (hb hby at_210) rfl k) ?_
      show OEnds p.tables e below G (T1187.setTop (mkF m 212 #[.val (.int p1), .val (.int p2), .val (.int p3), .val (.int p4), .val (.int p5), .val (.int p6), .val (.int (2 : Int32)), .val (.int v1134), .val (.int v1135), .val (.int v1136), .val (.int v1135), .val (.int v1138), .val (.int v1140), .val (.int r2), .val (.ref b_1142), .val (.ref b1146), .val (.ref b1162), .val (.double (own_rc (4611686018427387904 : UInt64) v1140)), .second, .val (.double (own_rc (4611686018427387904 : UInt64) v1140)), .second, .val (.double (own_rc (4611686018427387904 : UInt64) r2)), .second, .val (.int (1 : Int32))] [(.double (own_rc (4611686018427387904 : UInt64) v1140))]))
      refine OEnds.st (fun _ k => XS.dconst1 X1187.here hx rfl (hb hby at_212) (v := (4607182418800017408 : UInt64)) rfl k) ?_
      show OEnds p.tables e below G (T1187.setTop (mkF m 213 #[.val (.int p1), .val (.int p2), .val (.int p3), .val (.int p4), .val (.int p5), .val (.int p6), .val (.int (2 : Int32)), .val (.int v1134), .val (.int v1135), .val (.int v1136), .val (.int v1135), .val (.int v1138), .val (.int v1140), .val (.int r2), .val (.ref b_1142), .val (.ref b1146), .val (.ref b1162), .val (.double (own_rc (4611686018427387904 : UInt64) v1140)), .second, .val (.double (own_rc (4611686018427387904 : UInt64) v1140)), .second, .val (.double (own_rc (4611686018427387904 : UInt64) r2)), .second, .val (.int (1 : Int32))] [(.double (4607182418800017408 : UInt64)), (.double (own_rc (4611686018427387904 : UInt64) v1140))]))
      refine OEnds.st (fun _ k => XS.dcmpS X1187.here hx rfl (hb hby at_213) rfl rfl k) ?_
      show OEnds p.tables e below G (T1187.setTop (mkF m 214 #[.val (.int p1), .val (.int p2), .val (.int p3), .val (.int p4), .val (.int p5), .val (.int p6), .val (.int (2 : Int32)), .val (.int v1134), .val (.int v1135), .val (.int v1136), .val (.int v1135), .val (.int v1138), .val (.int v1140), .val (.int r2), .val (.ref b_1142), .val (.ref b1146), .val (.ref b1162), .val (.double (own_rc (4611686018427387904 : UInt64) v1140)), .second, .val (.double (own_rc (4611686018427387904 : UInt64) v1140)), .second, .val (.double (own_rc (4611686018427387904 : UInt64) r2)), .second, .val (.int (1 : Int32))] [(.int (cmpValue (FP.dcmp (own_rc (4611686018427387904 : UInt64) v1140) (4607182418800017408 : UInt64)) .g))]))
      have hc214_1190 : ¬ ((0 : Int32) < (cmpValue (FP.dcmp (own_rc (4611686018427387904 : UInt64) v1140) (4607182418800017408 : UInt64)) .g)) := fun q => Nat.not_lt.mpr hM1 ((own_cgt hP1 own_B1 .g).mp q)
      refine OEnds.st (fun _ k => XS.ifNo X1187.here hx rfl (hb hby at_214) rfl ((if0 _ _).trans (flt hc214_1190).2.2.1) k) ?_
      show OEnds p.tables e below G (T1187.setTop (mkF m 217 #[.val (.int p1), .val (.int p2), .val (.int p3), .val (.int p4), .val (.int p5), .val (.int p6), .val (.int (2 : Int32)), .val (.int v1134), .val (.int v1135), .val (.int v1136), .val (.int v1135), .val (.int v1138), .val (.int v1140), .val (.int r2), .val (.ref b_1142), .val (.ref b1146), .val (.ref b1162), .val (.double (own_rc (4611686018427387904 : UInt64) v1140)), .second, .val (.double (own_rc (4611686018427387904 : UInt64) v1140)), .second, .val (.double (own_rc (4611686018427387904 : UInt64) r2)), .second, .val (.int (1 : Int32))] []))
      refine OEnds.st (fun _ k => XS.iconst X1187.here hx rfl (hb hby at_217) k) ?_
      show OEnds p.tables e below G (T1187.setTop (mkF m 218 #[.val (.int p1), .val (.int p2), .val (.int p3), .val (.int p4), .val (.int p5), .val (.int p6), .val (.int (2 : Int32)), .val (.int v1134), .val (.int v1135), .val (.int v1136), .val (.int v1135), .val (.int v1138), .val (.int v1140), .val (.int r2), .val (.ref b_1142), .val (.ref b1146), .val (.ref b1162), .val (.double (own_rc (4611686018427387904 : UInt64) v1140)), .second, .val (.double (own_rc (4611686018427387904 : UInt64) v1140)), .second, .val (.double (own_rc (4611686018427387904 : UInt64) r2)), .second, .val (.int (1 : Int32))] [(.int (1 : Int32))]))
      refine OEnds.st (fun _ k => XS.goto X1187.here hx rfl (pc0 := 218) (pc' := 222) rfl (hb hby at_218) (by decide) (by decide) k) ?_
      show OEnds p.tables e below G (T1187.setTop (mkF m 222 #[.val (.int p1), .val (.int p2), .val (.int p3), .val (.int p4), .val (.int p5), .val (.int p6), .val (.int (2 : Int32)), .val (.int v1134), .val (.int v1135), .val (.int v1136), .val (.int v1135), .val (.int v1138), .val (.int v1140), .val (.int r2), .val (.ref b_1142), .val (.ref b1146), .val (.ref b1162), .val (.double (own_rc (4611686018427387904 : UInt64) v1140)), .second, .val (.double (own_rc (4611686018427387904 : UInt64) v1140)), .second, .val (.double (own_rc (4611686018427387904 : UInt64) r2)), .second, .val (.int (1 : Int32))] [(.int (1 : Int32))]))
      refine OEnds.st (fun _ k => XS.istore X1187.here hx rfl (hb hby at_222) rfl (l' := #[.val (.int p1), .val (.int p2), .val (.int p3), .val (.int p4), .val (.int p5), .val (.int p6), .val (.int (2 : Int32)), .val (.int v1134), .val (.int v1135), .val (.int v1136), .val (.int v1135), .val (.int v1138), .val (.int v1140), .val (.int r2), .val (.ref b_1142), .val (.ref b1146), .val (.ref b1162), .val (.double (own_rc (4611686018427387904 : UInt64) v1140)), .second, .val (.double (own_rc (4611686018427387904 : UInt64) v1140)), .second, .val (.double (own_rc (4611686018427387904 : UInt64) r2)), .second, .val (.int (1 : Int32))]) rfl k) ?_
      show OEnds p.tables e below G (T1187.setTop (mkF m 224 #[.val (.int p1), .val (.int p2), .val (.int p3), .val (.int p4), .val (.int p5), .val (.int p6), .val (.int (2 : Int32)), .val (.int v1134), .val (.int v1135), .val (.int v1136), .val (.int v1135), .val (.int v1138), .val (.int v1140), .val (.int r2), .val (.ref b_1142), .val (.ref b1146), .val (.ref b1162), .val (.double (own_rc (4611686018427387904 : UInt64) v1140)), .second, .val (.double (own_rc (4611686018427387904 : UInt64) v1140)), .second, .val (.double (own_rc (4611686018427387904 : UInt64) r2)), .second, .val (.int (1 : Int32))] []))
      refine OEnds.st (fun _ k => XS.iload X1187.here hx rfl (hb hby at_224) rfl k) ?_
      show OEnds p.tables e below G (T1187.setTop (mkF m 226 #[.val (.int p1), .val (.int p2), .val (.int p3), .val (.int p4), .val (.int p5), .val (.int p6), .val (.int (2 : Int32)), .val (.int v1134), .val (.int v1135), .val (.int v1136), .val (.int v1135), .val (.int v1138), .val (.int v1140), .val (.int r2), .val (.ref b_1142), .val (.ref b1146), .val (.ref b1162), .val (.double (own_rc (4611686018427387904 : UInt64) v1140)), .second, .val (.double (own_rc (4611686018427387904 : UInt64) v1140)), .second, .val (.double (own_rc (4611686018427387904 : UInt64) r2)), .second, .val (.int (1 : Int32))] [(.int (1 : Int32))]))
      refine OEnds.st (fun _ k => XS.ifNo X1187.here hx rfl (hb hby at_226) rfl ((if0 _ _).trans (feq (by decide : ¬ ((1 : Int32) = (0 : Int32)))).1) k) ?_
      show OEnds p.tables e below G (T1187.setTop (mkF m 229 #[.val (.int p1), .val (.int p2), .val (.int p3), .val (.int p4), .val (.int p5), .val (.int p6), .val (.int (2 : Int32)), .val (.int v1134), .val (.int v1135), .val (.int v1136), .val (.int v1135), .val (.int v1138), .val (.int v1140), .val (.int r2), .val (.ref b_1142), .val (.ref b1146), .val (.ref b1162), .val (.double (own_rc (4611686018427387904 : UInt64) v1140)), .second, .val (.double (own_rc (4611686018427387904 : UInt64) v1140)), .second, .val (.double (own_rc (4611686018427387904 : UInt64) r2)), .second, .val (.int (1 : Int32))] []))
      refine OEnds.st (fun _ k => XS.dload X1187.here hx rfl (hb hby at_229) rfl k) ?_
      show OEnds p.tables e below G (T1187.setTop (mkF m 231 #[.val (.int p1), .val (.int p2), .val (.int p3), .val (.int p4), .val (.int p5), .val (.int p6), .val (.int (2 : Int32)), .val (.int v1134), .val (.int v1135), .val (.int v1136), .val (.int v1135), .val (.int v1138), .val (.int v1140), .val (.int r2), .val (.ref b_1142), .val (.ref b1146), .val (.ref b1162), .val (.double (own_rc (4611686018427387904 : UInt64) v1140)), .second, .val (.double (own_rc (4611686018427387904 : UInt64) v1140)), .second, .val (.double (own_rc (4611686018427387904 : UInt64) r2)), .second, .val (.int (1 : Int32))] [(.double (own_rc (4611686018427387904 : UInt64) v1140))]))
      refine OEnds.st (fun _ k => XS.dconst0 X1187.here hx rfl (hb hby at_231) (v := (0 : UInt64)) rfl k) ?_
      show OEnds p.tables e below G (T1187.setTop (mkF m 232 #[.val (.int p1), .val (.int p2), .val (.int p3), .val (.int p4), .val (.int p5), .val (.int p6), .val (.int (2 : Int32)), .val (.int v1134), .val (.int v1135), .val (.int v1136), .val (.int v1135), .val (.int v1138), .val (.int v1140), .val (.int r2), .val (.ref b_1142), .val (.ref b1146), .val (.ref b1162), .val (.double (own_rc (4611686018427387904 : UInt64) v1140)), .second, .val (.double (own_rc (4611686018427387904 : UInt64) v1140)), .second, .val (.double (own_rc (4611686018427387904 : UInt64) r2)), .second, .val (.int (1 : Int32))] [(.double (0 : UInt64)), (.double (own_rc (4611686018427387904 : UInt64) v1140))]))
      refine OEnds.st (fun _ k => XS.dcmpS X1187.here hx rfl (hb hby at_232) rfl rfl k) ?_
      show OEnds p.tables e below G (T1187.setTop (mkF m 233 #[.val (.int p1), .val (.int p2), .val (.int p3), .val (.int p4), .val (.int p5), .val (.int p6), .val (.int (2 : Int32)), .val (.int v1134), .val (.int v1135), .val (.int v1136), .val (.int v1135), .val (.int v1138), .val (.int v1140), .val (.int r2), .val (.ref b_1142), .val (.ref b1146), .val (.ref b1162), .val (.double (own_rc (4611686018427387904 : UInt64) v1140)), .second, .val (.double (own_rc (4611686018427387904 : UInt64) v1140)), .second, .val (.double (own_rc (4611686018427387904 : UInt64) r2)), .second, .val (.int (1 : Int32))] [(.int (cmpValue (FP.dcmp (own_rc (4611686018427387904 : UInt64) v1140) (0 : UInt64)) .l))]))
      have hc233_1191 : ¬ ((cmpValue (FP.dcmp (own_rc (4611686018427387904 : UInt64) v1140) (0 : UInt64)) .l) = (0 : Int32)) := fun q => absurd (hM2.mp ((own_ceq hP1 own_Pz0 .l).mp q)) (by decide)
      refine OEnds.st (fun _ k => XS.ifYes X1187.here hx rfl (pc0 := 233) (pc' := 240) rfl (hb hby at_233) rfl ((if0 _ _).trans (feq hc233_1191).2) (by decide) (by decide) k) ?_
      show OEnds p.tables e below G (T1187.setTop (mkF m 240 #[.val (.int p1), .val (.int p2), .val (.int p3), .val (.int p4), .val (.int p5), .val (.int p6), .val (.int (2 : Int32)), .val (.int v1134), .val (.int v1135), .val (.int v1136), .val (.int v1135), .val (.int v1138), .val (.int v1140), .val (.int r2), .val (.ref b_1142), .val (.ref b1146), .val (.ref b1162), .val (.double (own_rc (4611686018427387904 : UInt64) v1140)), .second, .val (.double (own_rc (4611686018427387904 : UInt64) v1140)), .second, .val (.double (own_rc (4611686018427387904 : UInt64) r2)), .second, .val (.int (1 : Int32))] []))
      refine OEnds.st (fun _ k => XS.iconst X1187.here hx rfl (hb hby at_240) k) ?_
      show OEnds p.tables e below G (T1187.setTop (mkF m 241 #[.val (.int p1), .val (.int p2), .val (.int p3), .val (.int p4), .val (.int p5), .val (.int p6), .val (.int (2 : Int32)), .val (.int v1134), .val (.int v1135), .val (.int v1136), .val (.int v1135), .val (.int v1138), .val (.int v1140), .val (.int r2), .val (.ref b_1142), .val (.ref b1146), .val (.ref b1162), .val (.double (own_rc (4611686018427387904 : UInt64) v1140)), .second, .val (.double (own_rc (4611686018427387904 : UInt64) v1140)), .second, .val (.double (own_rc (4611686018427387904 : UInt64) r2)), .second, .val (.int (1 : Int32))] [(.int (0 : Int32))]))
      refine OEnds.st (fun _ k => XS.iload X1187.here hx rfl (hb hby at_241) rfl k) ?_
      show OEnds p.tables e below G (T1187.setTop (mkF m 243 #[.val (.int p1), .val (.int p2), .val (.int p3), .val (.int p4), .val (.int p5), .val (.int p6), .val (.int (2 : Int32)), .val (.int v1134), .val (.int v1135), .val (.int v1136), .val (.int v1135), .val (.int v1138), .val (.int v1140), .val (.int r2), .val (.ref b_1142), .val (.ref b1146), .val (.ref b1162), .val (.double (own_rc (4611686018427387904 : UInt64) v1140)), .second, .val (.double (own_rc (4611686018427387904 : UInt64) v1140)), .second, .val (.double (own_rc (4611686018427387904 : UInt64) r2)), .second, .val (.int (1 : Int32))] [(.int (2 : Int32)), (.int (0 : Int32))]))
      refine OEnds.st (fun _ k => XS.ifNo X1187.here hx rfl (hb hby at_243) rfl ((if0 _ _).trans (feq (by decide : ¬ ((2 : Int32) = (0 : Int32)))).1) k) ?_
      show OEnds p.tables e below G (T1187.setTop (mkF m 246 #[.val (.int p1), .val (.int p2), .val (.int p3), .val (.int p4), .val (.int p5), .val (.int p6), .val (.int (2 : Int32)), .val (.int v1134), .val (.int v1135), .val (.int v1136), .val (.int v1135), .val (.int v1138), .val (.int v1140), .val (.int r2), .val (.ref b_1142), .val (.ref b1146), .val (.ref b1162), .val (.double (own_rc (4611686018427387904 : UInt64) v1140)), .second, .val (.double (own_rc (4611686018427387904 : UInt64) v1140)), .second, .val (.double (own_rc (4611686018427387904 : UInt64) r2)), .second, .val (.int (1 : Int32))] [(.int (0 : Int32))]))
      refine OEnds.st (fun _ k => XS.iload X1187.here hx rfl (hb hby at_246) rfl k) ?_
      show OEnds p.tables e below G (T1187.setTop (mkF m 248 #[.val (.int p1), .val (.int p2), .val (.int p3), .val (.int p4), .val (.int p5), .val (.int p6), .val (.int (2 : Int32)), .val (.int v1134), .val (.int v1135), .val (.int v1136), .val (.int v1135), .val (.int v1138), .val (.int v1140), .val (.int r2), .val (.ref b_1142), .val (.ref b1146), .val (.ref b1162), .val (.double (own_rc (4611686018427387904 : UInt64) v1140)), .second, .val (.double (own_rc (4611686018427387904 : UInt64) v1140)), .second, .val (.double (own_rc (4611686018427387904 : UInt64) r2)), .second, .val (.int (1 : Int32))] [(.int v1140), (.int (0 : Int32))]))
      refine OEnds.st (fun _ k => XS.ifYes X1187.here hx rfl (pc0 := 248) (pc' := 255) rfl (hb hby at_248) rfl ((if0 _ _).trans (feq hr0).2) (by decide) (by decide) k) ?_
      show OEnds p.tables e below G (T1187.setTop (mkF m 255 #[.val (.int p1), .val (.int p2), .val (.int p3), .val (.int p4), .val (.int p5), .val (.int p6), .val (.int (2 : Int32)), .val (.int v1134), .val (.int v1135), .val (.int v1136), .val (.int v1135), .val (.int v1138), .val (.int v1140), .val (.int r2), .val (.ref b_1142), .val (.ref b1146), .val (.ref b1162), .val (.double (own_rc (4611686018427387904 : UInt64) v1140)), .second, .val (.double (own_rc (4611686018427387904 : UInt64) v1140)), .second, .val (.double (own_rc (4611686018427387904 : UInt64) r2)), .second, .val (.int (1 : Int32))] [(.int (0 : Int32))]))
      refine OEnds.st (fun _ k => XS.iconst X1187.here hx rfl (hb hby at_255) k) ?_
      show OEnds p.tables e below G (T1187.setTop (mkF m 256 #[.val (.int p1), .val (.int p2), .val (.int p3), .val (.int p4), .val (.int p5), .val (.int p6), .val (.int (2 : Int32)), .val (.int v1134), .val (.int v1135), .val (.int v1136), .val (.int v1135), .val (.int v1138), .val (.int v1140), .val (.int r2), .val (.ref b_1142), .val (.ref b1146), .val (.ref b1162), .val (.double (own_rc (4611686018427387904 : UInt64) v1140)), .second, .val (.double (own_rc (4611686018427387904 : UInt64) v1140)), .second, .val (.double (own_rc (4611686018427387904 : UInt64) r2)), .second, .val (.int (1 : Int32))] [(.int (0 : Int32)), (.int (0 : Int32))]))
      refine OEnds.st (fun _ k => XS.icmpNo X1187.here hx rfl (hb hby at_256) rfl (teq (by decide : (0 : Int32) = (0 : Int32))).2 k) ?_
      show OEnds p.tables e below G (T1187.setTop (mkF m 259 #[.val (.int p1), .val (.int p2), .val (.int p3), .val (.int p4), .val (.int p5), .val (.int p6), .val (.int (2 : Int32)), .val (.int v1134), .val (.int v1135), .val (.int v1136), .val (.int v1135), .val (.int v1138), .val (.int v1140), .val (.int r2), .val (.ref b_1142), .val (.ref b1146), .val (.ref b1162), .val (.double (own_rc (4611686018427387904 : UInt64) v1140)), .second, .val (.double (own_rc (4611686018427387904 : UInt64) v1140)), .second, .val (.double (own_rc (4611686018427387904 : UInt64) r2)), .second, .val (.int (1 : Int32))] []))
      refine OEnds.st (fun _ k => XS.iconst X1187.here hx rfl (hb hby at_259) k) ?_
      show OEnds p.tables e below G (T1187.setTop (mkF m 260 #[.val (.int p1), .val (.int p2), .val (.int p3), .val (.int p4), .val (.int p5), .val (.int p6), .val (.int (2 : Int32)), .val (.int v1134), .val (.int v1135), .val (.int v1136), .val (.int v1135), .val (.int v1138), .val (.int v1140), .val (.int r2), .val (.ref b_1142), .val (.ref b1146), .val (.ref b1162), .val (.double (own_rc (4611686018427387904 : UInt64) v1140)), .second, .val (.double (own_rc (4611686018427387904 : UInt64) v1140)), .second, .val (.double (own_rc (4611686018427387904 : UInt64) r2)), .second, .val (.int (1 : Int32))] [(.int (1 : Int32))]))
      refine OEnds.st (fun _ k => XS.goto X1187.here hx rfl (pc0 := 260) (pc' := 264) rfl (hb hby at_260) (by decide) (by decide) k) ?_
      show OEnds p.tables e below G (T1187.setTop (mkF m 264 #[.val (.int p1), .val (.int p2), .val (.int p3), .val (.int p4), .val (.int p5), .val (.int p6), .val (.int (2 : Int32)), .val (.int v1134), .val (.int v1135), .val (.int v1136), .val (.int v1135), .val (.int v1138), .val (.int v1140), .val (.int r2), .val (.ref b_1142), .val (.ref b1146), .val (.ref b1162), .val (.double (own_rc (4611686018427387904 : UInt64) v1140)), .second, .val (.double (own_rc (4611686018427387904 : UInt64) v1140)), .second, .val (.double (own_rc (4611686018427387904 : UInt64) r2)), .second, .val (.int (1 : Int32))] [(.int (1 : Int32))]))
      refine OEnds.st (fun _ k => XS.istore X1187.here hx rfl (hb hby at_264) rfl (l' := #[.val (.int p1), .val (.int p2), .val (.int p3), .val (.int p4), .val (.int p5), .val (.int p6), .val (.int (2 : Int32)), .val (.int v1134), .val (.int v1135), .val (.int v1136), .val (.int v1135), .val (.int v1138), .val (.int v1140), .val (.int r2), .val (.ref b_1142), .val (.ref b1146), .val (.ref b1162), .val (.double (own_rc (4611686018427387904 : UInt64) v1140)), .second, .val (.double (own_rc (4611686018427387904 : UInt64) v1140)), .second, .val (.double (own_rc (4611686018427387904 : UInt64) r2)), .second, .val (.int (1 : Int32))]) rfl k) ?_
      show OEnds p.tables e below G (T1187.setTop (mkF m 266 #[.val (.int p1), .val (.int p2), .val (.int p3), .val (.int p4), .val (.int p5), .val (.int p6), .val (.int (2 : Int32)), .val (.int v1134), .val (.int v1135), .val (.int v1136), .val (.int v1135), .val (.int v1138), .val (.int v1140), .val (.int r2), .val (.ref b_1142), .val (.ref b1146), .val (.ref b1162), .val (.double (own_rc (4611686018427387904 : UInt64) v1140)), .second, .val (.double (own_rc (4611686018427387904 : UInt64) v1140)), .second, .val (.double (own_rc (4611686018427387904 : UInt64) r2)), .second, .val (.int (1 : Int32))] []))
      refine OEnds.st (fun _ k => XS.iload X1187.here hx rfl (hb hby at_266) rfl k) ?_
      show OEnds p.tables e below G (T1187.setTop (mkF m 268 #[.val (.int p1), .val (.int p2), .val (.int p3), .val (.int p4), .val (.int p5), .val (.int p6), .val (.int (2 : Int32)), .val (.int v1134), .val (.int v1135), .val (.int v1136), .val (.int v1135), .val (.int v1138), .val (.int v1140), .val (.int r2), .val (.ref b_1142), .val (.ref b1146), .val (.ref b1162), .val (.double (own_rc (4611686018427387904 : UInt64) v1140)), .second, .val (.double (own_rc (4611686018427387904 : UInt64) v1140)), .second, .val (.double (own_rc (4611686018427387904 : UInt64) r2)), .second, .val (.int (1 : Int32))] [(.int (1 : Int32))]))
      refine OEnds.st (fun _ k => XS.ifNo X1187.here hx rfl (hb hby at_268) rfl ((if0 _ _).trans (feq (by decide : ¬ ((1 : Int32) = (0 : Int32)))).1) k) ?_
      have rest308_1192 :  OEnds p.tables e below G (T1187.setTop (mkF m 308 #[.val (.int p1), .val (.int p2), .val (.int p3), .val (.int p4), .val (.int p5), .val (.int p6), .val (.int (2 : Int32)), .val (.int v1134), .val (.int v1135), .val (.int v1136), .val (.int v1135), .val (.int v1138), .val (.int v1140), .val (.int r2), .val (.ref b_1142), .val (.ref b1146), .val (.ref b1162), .val (.double (own_rc (4611686018427387904 : UInt64) v1140)), .second, .val (.double (own_rc (4611686018427387904 : UInt64) v1140)), .second, .val (.double (own_rc (4611686018427387904 : UInt64) r2)), .second, .val (.int (1 : Int32))] [(.int (1 : Int32))])) := by
        show OEnds p.tables e below G (T1187.setTop (mkF m 308 #[.val (.int p1), .val (.int p2), .val (.int p3), .val (.int p4), .val (.int p5), .val (.int p6), .val (.int (2 : Int32)), .val (.int v1134), .val (.int v1135), .val (.int v1136), .val (.int v1135), .val (.int v1138), .val (.int v1140), .val (.int r2), .val (.ref b_1142), .val (.ref b1146), .val (.ref b1162), .val (.double (own_rc (4611686018427387904 : UInt64) v1140)), .second, .val (.double (own_rc (4611686018427387904 : UInt64) v1140)), .second, .val (.double (own_rc (4611686018427387904 : UInt64) r2)), .second, .val (.int (1 : Int32))] [(.int (1 : Int32))]))
        refine OEnds.st (fun _ k => XS.istore X1187.here hx rfl (hb hby at_308) rfl (l' := #[.val (.int p1), .val (.int p2), .val (.int p3), .val (.int p4), .val (.int p5), .val (.int p6), .val (.int (2 : Int32)), .val (.int v1134), .val (.int v1135), .val (.int v1136), .val (.int v1135), .val (.int v1138), .val (.int v1140), .val (.int r2), .val (.ref b_1142), .val (.ref b1146), .val (.ref b1162), .val (.double (own_rc (4611686018427387904 : UInt64) v1140)), .second, .val (.double (own_rc (4611686018427387904 : UInt64) v1140)), .second, .val (.double (own_rc (4611686018427387904 : UInt64) r2)), .second, .val (.int (1 : Int32))]) rfl k) ?_
        rcases hR2 with hm | ⟨hm, hi2⟩
        ·
          show OEnds p.tables e below G (T1187.setTop (mkF m 310 #[.val (.int p1), .val (.int p2), .val (.int p3), .val (.int p4), .val (.int p5), .val (.int p6), .val (.int (2 : Int32)), .val (.int v1134), .val (.int v1135), .val (.int v1136), .val (.int v1135), .val (.int v1138), .val (.int v1140), .val (.int r2), .val (.ref b_1142), .val (.ref b1146), .val (.ref b1162), .val (.double (own_rc (4611686018427387904 : UInt64) v1140)), .second, .val (.double (own_rc (4611686018427387904 : UInt64) v1140)), .second, .val (.double (own_rc (4611686018427387904 : UInt64) r2)), .second, .val (.int (1 : Int32))] []))
          refine OEnds.st (fun _ k => XS.iload X1187.here hx rfl (hb hby at_310) rfl k) ?_
          show OEnds p.tables e below G (T1187.setTop (mkF m 312 #[.val (.int p1), .val (.int p2), .val (.int p3), .val (.int p4), .val (.int p5), .val (.int p6), .val (.int (2 : Int32)), .val (.int v1134), .val (.int v1135), .val (.int v1136), .val (.int v1135), .val (.int v1138), .val (.int v1140), .val (.int r2), .val (.ref b_1142), .val (.ref b1146), .val (.ref b1162), .val (.double (own_rc (4611686018427387904 : UInt64) v1140)), .second, .val (.double (own_rc (4611686018427387904 : UInt64) v1140)), .second, .val (.double (own_rc (4611686018427387904 : UInt64) r2)), .second, .val (.int (1 : Int32))] [(.int v1140)]))
          refine OEnds.st (X1187.ldcInt hx hown (mvT hZ (hw _ (List.mem_of_getElem? (i := 5) rfl))) (g := (mkF m 312 #[.val (.int p1), .val (.int p2), .val (.int p3), .val (.int p4), .val (.int p5), .val (.int p6), .val (.int (2 : Int32)), .val (.int v1134), .val (.int v1135), .val (.int v1136), .val (.int v1135), .val (.int v1138), .val (.int v1140), .val (.int r2), .val (.ref b_1142), .val (.ref b1146), .val (.ref b1162), .val (.double (own_rc (4611686018427387904 : UInt64) v1140)), .second, .val (.double (own_rc (4611686018427387904 : UInt64) v1140)), .second, .val (.double (own_rc (4611686018427387904 : UInt64) r2)), .second, .val (.int (1 : Int32))] [(.int v1140)])) rfl (hb hby at_312)) ?_
          show OEnds p.tables e below G (T1187.setTop (mkF m 314 #[.val (.int p1), .val (.int p2), .val (.int p3), .val (.int p4), .val (.int p5), .val (.int p6), .val (.int (2 : Int32)), .val (.int v1134), .val (.int v1135), .val (.int v1136), .val (.int v1135), .val (.int v1138), .val (.int v1140), .val (.int r2), .val (.ref b_1142), .val (.ref b1146), .val (.ref b1162), .val (.double (own_rc (4611686018427387904 : UInt64) v1140)), .second, .val (.double (own_rc (4611686018427387904 : UInt64) v1140)), .second, .val (.double (own_rc (4611686018427387904 : UInt64) r2)), .second, .val (.int (1 : Int32))] [(.int (2147483647 : Int32)), (.int v1140)]))
          have hc314_1193 : ¬ (v1140 < (2147483647 : Int32)) := own_gtM hm
          refine OEnds.st (fun _ k => XS.icmpYes X1187.here hx rfl (pc0 := 314) (pc' := 371) rfl (hb hby at_314) rfl (flt hc314_1193).2.1 (by decide) (by decide) k) ?_
          show OEnds p.tables e below G (T1187.setTop (mkF m 371 #[.val (.int p1), .val (.int p2), .val (.int p3), .val (.int p4), .val (.int p5), .val (.int p6), .val (.int (2 : Int32)), .val (.int v1134), .val (.int v1135), .val (.int v1136), .val (.int v1135), .val (.int v1138), .val (.int v1140), .val (.int r2), .val (.ref b_1142), .val (.ref b1146), .val (.ref b1162), .val (.double (own_rc (4611686018427387904 : UInt64) v1140)), .second, .val (.double (own_rc (4611686018427387904 : UInt64) v1140)), .second, .val (.double (own_rc (4611686018427387904 : UInt64) r2)), .second, .val (.int (1 : Int32))] []))
          refine OEnds.st (fun _ k => XS.iload X1187.here hx rfl (hb hby at_371) rfl k) ?_
          show OEnds p.tables e below G (T1187.setTop (mkF m 373 #[.val (.int p1), .val (.int p2), .val (.int p3), .val (.int p4), .val (.int p5), .val (.int p6), .val (.int (2 : Int32)), .val (.int v1134), .val (.int v1135), .val (.int v1136), .val (.int v1135), .val (.int v1138), .val (.int v1140), .val (.int r2), .val (.ref b_1142), .val (.ref b1146), .val (.ref b1162), .val (.double (own_rc (4611686018427387904 : UInt64) v1140)), .second, .val (.double (own_rc (4611686018427387904 : UInt64) v1140)), .second, .val (.double (own_rc (4611686018427387904 : UInt64) r2)), .second, .val (.int (1 : Int32))] [(.int (1 : Int32))]))
          rw [← hG]
          refine OEnds.retZ X1187 hx hlk Bd.returns rfl (hb hby at_373) (by decide) (by decide) ?_
          rw [e1187]
          exact ⟨rfl, N1187⟩
        ·
          obtain ⟨M2, hP2, -, hN2, -⟩ := own_R (rel := r2) own_B2 (by decide) (by omega)
          show OEnds p.tables e below G (T1187.setTop (mkF m 310 #[.val (.int p1), .val (.int p2), .val (.int p3), .val (.int p4), .val (.int p5), .val (.int p6), .val (.int (2 : Int32)), .val (.int v1134), .val (.int v1135), .val (.int v1136), .val (.int v1135), .val (.int v1138), .val (.int v1140), .val (.int r2), .val (.ref b_1142), .val (.ref b1146), .val (.ref b1162), .val (.double (own_rc (4611686018427387904 : UInt64) v1140)), .second, .val (.double (own_rc (4611686018427387904 : UInt64) v1140)), .second, .val (.double (own_rc (4611686018427387904 : UInt64) r2)), .second, .val (.int (1 : Int32))] []))
          refine OEnds.st (fun _ k => XS.iload X1187.here hx rfl (hb hby at_310) rfl k) ?_
          show OEnds p.tables e below G (T1187.setTop (mkF m 312 #[.val (.int p1), .val (.int p2), .val (.int p3), .val (.int p4), .val (.int p5), .val (.int p6), .val (.int (2 : Int32)), .val (.int v1134), .val (.int v1135), .val (.int v1136), .val (.int v1135), .val (.int v1138), .val (.int v1140), .val (.int r2), .val (.ref b_1142), .val (.ref b1146), .val (.ref b1162), .val (.double (own_rc (4611686018427387904 : UInt64) v1140)), .second, .val (.double (own_rc (4611686018427387904 : UInt64) v1140)), .second, .val (.double (own_rc (4611686018427387904 : UInt64) r2)), .second, .val (.int (1 : Int32))] [(.int v1140)]))
          refine OEnds.st (X1187.ldcInt hx hown (mvT hZ (hw _ (List.mem_of_getElem? (i := 5) rfl))) (g := (mkF m 312 #[.val (.int p1), .val (.int p2), .val (.int p3), .val (.int p4), .val (.int p5), .val (.int p6), .val (.int (2 : Int32)), .val (.int v1134), .val (.int v1135), .val (.int v1136), .val (.int v1135), .val (.int v1138), .val (.int v1140), .val (.int r2), .val (.ref b_1142), .val (.ref b1146), .val (.ref b1162), .val (.double (own_rc (4611686018427387904 : UInt64) v1140)), .second, .val (.double (own_rc (4611686018427387904 : UInt64) v1140)), .second, .val (.double (own_rc (4611686018427387904 : UInt64) r2)), .second, .val (.int (1 : Int32))] [(.int v1140)])) rfl (hb hby at_312)) ?_
          show OEnds p.tables e below G (T1187.setTop (mkF m 314 #[.val (.int p1), .val (.int p2), .val (.int p3), .val (.int p4), .val (.int p5), .val (.int p6), .val (.int (2 : Int32)), .val (.int v1134), .val (.int v1135), .val (.int v1136), .val (.int v1135), .val (.int v1138), .val (.int v1140), .val (.int r2), .val (.ref b_1142), .val (.ref b1146), .val (.ref b1162), .val (.double (own_rc (4611686018427387904 : UInt64) v1140)), .second, .val (.double (own_rc (4611686018427387904 : UInt64) v1140)), .second, .val (.double (own_rc (4611686018427387904 : UInt64) r2)), .second, .val (.int (1 : Int32))] [(.int (2147483647 : Int32)), (.int v1140)]))
          have hc314_1194 : v1140 < (2147483647 : Int32) := own_ltM hm
          refine OEnds.st (fun _ k => XS.icmpNo X1187.here hx rfl (hb hby at_314) rfl (tlt hc314_1194).2.1 k) ?_
          show OEnds p.tables e below G (T1187.setTop (mkF m 317 #[.val (.int p1), .val (.int p2), .val (.int p3), .val (.int p4), .val (.int p5), .val (.int p6), .val (.int (2 : Int32)), .val (.int v1134), .val (.int v1135), .val (.int v1136), .val (.int v1135), .val (.int v1138), .val (.int v1140), .val (.int r2), .val (.ref b_1142), .val (.ref b1146), .val (.ref b1162), .val (.double (own_rc (4611686018427387904 : UInt64) v1140)), .second, .val (.double (own_rc (4611686018427387904 : UInt64) v1140)), .second, .val (.double (own_rc (4611686018427387904 : UInt64) r2)), .second, .val (.int (1 : Int32))] []))
          refine OEnds.st (fun _ k => XS.iload X1187.here hx rfl (hb hby at_317) rfl k) ?_
          show OEnds p.tables e below G (T1187.setTop (mkF m 319 #[.val (.int p1), .val (.int p2), .val (.int p3), .val (.int p4), .val (.int p5), .val (.int p6), .val (.int (2 : Int32)), .val (.int v1134), .val (.int v1135), .val (.int v1136), .val (.int v1135), .val (.int v1138), .val (.int v1140), .val (.int r2), .val (.ref b_1142), .val (.ref b1146), .val (.ref b1162), .val (.double (own_rc (4611686018427387904 : UInt64) v1140)), .second, .val (.double (own_rc (4611686018427387904 : UInt64) v1140)), .second, .val (.double (own_rc (4611686018427387904 : UInt64) r2)), .second, .val (.int (1 : Int32))] [(.int (2 : Int32))]))
          refine OEnds.st (fun _ k => XS.ifNo X1187.here hx rfl (hb hby at_319) rfl ((if0 _ _).trans (tlt (by decide : (0 : Int32) < (2 : Int32))).2.2.2) k) ?_
          show OEnds p.tables e below G (T1187.setTop (mkF m 322 #[.val (.int p1), .val (.int p2), .val (.int p3), .val (.int p4), .val (.int p5), .val (.int p6), .val (.int (2 : Int32)), .val (.int v1134), .val (.int v1135), .val (.int v1136), .val (.int v1135), .val (.int v1138), .val (.int v1140), .val (.int r2), .val (.ref b_1142), .val (.ref b1146), .val (.ref b1162), .val (.double (own_rc (4611686018427387904 : UInt64) v1140)), .second, .val (.double (own_rc (4611686018427387904 : UInt64) v1140)), .second, .val (.double (own_rc (4611686018427387904 : UInt64) r2)), .second, .val (.int (1 : Int32))] []))
          refine OEnds.st (fun _ k => XS.iload X1187.here hx rfl (hb hby at_322) rfl k) ?_
          show OEnds p.tables e below G (T1187.setTop (mkF m 324 #[.val (.int p1), .val (.int p2), .val (.int p3), .val (.int p4), .val (.int p5), .val (.int p6), .val (.int (2 : Int32)), .val (.int v1134), .val (.int v1135), .val (.int v1136), .val (.int v1135), .val (.int v1138), .val (.int v1140), .val (.int r2), .val (.ref b_1142), .val (.ref b1146), .val (.ref b1162), .val (.double (own_rc (4611686018427387904 : UInt64) v1140)), .second, .val (.double (own_rc (4611686018427387904 : UInt64) v1140)), .second, .val (.double (own_rc (4611686018427387904 : UInt64) r2)), .second, .val (.int (1 : Int32))] [(.int (1 : Int32))]))
          refine OEnds.st (fun _ k => XS.ifNo X1187.here hx rfl (hb hby at_324) rfl ((if0 _ _).trans (feq (by decide : ¬ ((1 : Int32) = (0 : Int32)))).1) k) ?_
          show OEnds p.tables e below G (T1187.setTop (mkF m 327 #[.val (.int p1), .val (.int p2), .val (.int p3), .val (.int p4), .val (.int p5), .val (.int p6), .val (.int (2 : Int32)), .val (.int v1134), .val (.int v1135), .val (.int v1136), .val (.int v1135), .val (.int v1138), .val (.int v1140), .val (.int r2), .val (.ref b_1142), .val (.ref b1146), .val (.ref b1162), .val (.double (own_rc (4611686018427387904 : UInt64) v1140)), .second, .val (.double (own_rc (4611686018427387904 : UInt64) v1140)), .second, .val (.double (own_rc (4611686018427387904 : UInt64) r2)), .second, .val (.int (1 : Int32))] []))
          refine OEnds.st (fun _ k => XS.dload X1187.here hx rfl (hb hby at_327) rfl k) ?_
          show OEnds p.tables e below G (T1187.setTop (mkF m 329 #[.val (.int p1), .val (.int p2), .val (.int p3), .val (.int p4), .val (.int p5), .val (.int p6), .val (.int (2 : Int32)), .val (.int v1134), .val (.int v1135), .val (.int v1136), .val (.int v1135), .val (.int v1138), .val (.int v1140), .val (.int r2), .val (.ref b_1142), .val (.ref b1146), .val (.ref b1162), .val (.double (own_rc (4611686018427387904 : UInt64) v1140)), .second, .val (.double (own_rc (4611686018427387904 : UInt64) v1140)), .second, .val (.double (own_rc (4611686018427387904 : UInt64) r2)), .second, .val (.int (1 : Int32))] [(.double (own_rc (4611686018427387904 : UInt64) r2))]))
          refine OEnds.st (fun _ k => XS.dload X1187.here hx rfl (hb hby at_329) rfl k) ?_
          show OEnds p.tables e below G (T1187.setTop (mkF m 331 #[.val (.int p1), .val (.int p2), .val (.int p3), .val (.int p4), .val (.int p5), .val (.int p6), .val (.int (2 : Int32)), .val (.int v1134), .val (.int v1135), .val (.int v1136), .val (.int v1135), .val (.int v1138), .val (.int v1140), .val (.int r2), .val (.ref b_1142), .val (.ref b1146), .val (.ref b1162), .val (.double (own_rc (4611686018427387904 : UInt64) v1140)), .second, .val (.double (own_rc (4611686018427387904 : UInt64) v1140)), .second, .val (.double (own_rc (4611686018427387904 : UInt64) r2)), .second, .val (.int (1 : Int32))] [(.double (own_rc (4611686018427387904 : UInt64) v1140)), (.double (own_rc (4611686018427387904 : UInt64) r2))]))
          refine OEnds.st (fun _ k => XS.dcmpS X1187.here hx rfl (hb hby at_331) rfl rfl k) ?_
          show OEnds p.tables e below G (T1187.setTop (mkF m 332 #[.val (.int p1), .val (.int p2), .val (.int p3), .val (.int p4), .val (.int p5), .val (.int p6), .val (.int (2 : Int32)), .val (.int v1134), .val (.int v1135), .val (.int v1136), .val (.int v1135), .val (.int v1138), .val (.int v1140), .val (.int r2), .val (.ref b_1142), .val (.ref b1146), .val (.ref b1162), .val (.double (own_rc (4611686018427387904 : UInt64) v1140)), .second, .val (.double (own_rc (4611686018427387904 : UInt64) v1140)), .second, .val (.double (own_rc (4611686018427387904 : UInt64) r2)), .second, .val (.int (1 : Int32))] [(.int (cmpValue (FP.dcmp (own_rc (4611686018427387904 : UInt64) r2) (own_rc (4611686018427387904 : UInt64) v1140)) .g))]))
          have hc332_1195 : (cmpValue (FP.dcmp (own_rc (4611686018427387904 : UInt64) r2) (own_rc (4611686018427387904 : UInt64) v1140)) .g) < (0 : Int32) := (own_clt hP2 hP1 .g).mpr (own_S own_B2 (by decide) (by decide) hrel hi2 hP1 hP2)
          refine OEnds.st (fun _ k => XS.ifNo X1187.here hx rfl (hb hby at_332) rfl ((if0 _ _).trans (tlt hc332_1195).2.1) k) ?_
          show OEnds p.tables e below G (T1187.setTop (mkF m 335 #[.val (.int p1), .val (.int p2), .val (.int p3), .val (.int p4), .val (.int p5), .val (.int p6), .val (.int (2 : Int32)), .val (.int v1134), .val (.int v1135), .val (.int v1136), .val (.int v1135), .val (.int v1138), .val (.int v1140), .val (.int r2), .val (.ref b_1142), .val (.ref b1146), .val (.ref b1162), .val (.double (own_rc (4611686018427387904 : UInt64) v1140)), .second, .val (.double (own_rc (4611686018427387904 : UInt64) v1140)), .second, .val (.double (own_rc (4611686018427387904 : UInt64) r2)), .second, .val (.int (1 : Int32))] []))
          refine OEnds.st (fun _ k => XS.iconst X1187.here hx rfl (hb hby at_335) k) ?_
          show OEnds p.tables e below G (T1187.setTop (mkF m 336 #[.val (.int p1), .val (.int p2), .val (.int p3), .val (.int p4), .val (.int p5), .val (.int p6), .val (.int (2 : Int32)), .val (.int v1134), .val (.int v1135), .val (.int v1136), .val (.int v1135), .val (.int v1138), .val (.int v1140), .val (.int r2), .val (.ref b_1142), .val (.ref b1146), .val (.ref b1162), .val (.double (own_rc (4611686018427387904 : UInt64) v1140)), .second, .val (.double (own_rc (4611686018427387904 : UInt64) v1140)), .second, .val (.double (own_rc (4611686018427387904 : UInt64) r2)), .second, .val (.int (1 : Int32))] [(.int (1 : Int32))]))
          refine OEnds.st (fun _ k => XS.goto X1187.here hx rfl (pc0 := 336) (pc' := 340) rfl (hb hby at_336) (by decide) (by decide) k) ?_
          show OEnds p.tables e below G (T1187.setTop (mkF m 340 #[.val (.int p1), .val (.int p2), .val (.int p3), .val (.int p4), .val (.int p5), .val (.int p6), .val (.int (2 : Int32)), .val (.int v1134), .val (.int v1135), .val (.int v1136), .val (.int v1135), .val (.int v1138), .val (.int v1140), .val (.int r2), .val (.ref b_1142), .val (.ref b1146), .val (.ref b1162), .val (.double (own_rc (4611686018427387904 : UInt64) v1140)), .second, .val (.double (own_rc (4611686018427387904 : UInt64) v1140)), .second, .val (.double (own_rc (4611686018427387904 : UInt64) r2)), .second, .val (.int (1 : Int32))] [(.int (1 : Int32))]))
          refine OEnds.st (fun _ k => XS.istore X1187.here hx rfl (hb hby at_340) rfl (l' := #[.val (.int p1), .val (.int p2), .val (.int p3), .val (.int p4), .val (.int p5), .val (.int p6), .val (.int (2 : Int32)), .val (.int v1134), .val (.int v1135), .val (.int v1136), .val (.int v1135), .val (.int v1138), .val (.int v1140), .val (.int r2), .val (.ref b_1142), .val (.ref b1146), .val (.ref b1162), .val (.double (own_rc (4611686018427387904 : UInt64) v1140)), .second, .val (.double (own_rc (4611686018427387904 : UInt64) v1140)), .second, .val (.double (own_rc (4611686018427387904 : UInt64) r2)), .second, .val (.int (1 : Int32))]) rfl k) ?_
          show OEnds p.tables e below G (T1187.setTop (mkF m 342 #[.val (.int p1), .val (.int p2), .val (.int p3), .val (.int p4), .val (.int p5), .val (.int p6), .val (.int (2 : Int32)), .val (.int v1134), .val (.int v1135), .val (.int v1136), .val (.int v1135), .val (.int v1138), .val (.int v1140), .val (.int r2), .val (.ref b_1142), .val (.ref b1146), .val (.ref b1162), .val (.double (own_rc (4611686018427387904 : UInt64) v1140)), .second, .val (.double (own_rc (4611686018427387904 : UInt64) v1140)), .second, .val (.double (own_rc (4611686018427387904 : UInt64) r2)), .second, .val (.int (1 : Int32))] []))
          refine OEnds.st (fun _ k => XS.goto X1187.here hx rfl (pc0 := 342) (pc' := 371) rfl (hb hby at_342) (by decide) (by decide) k) ?_
          show OEnds p.tables e below G (T1187.setTop (mkF m 371 #[.val (.int p1), .val (.int p2), .val (.int p3), .val (.int p4), .val (.int p5), .val (.int p6), .val (.int (2 : Int32)), .val (.int v1134), .val (.int v1135), .val (.int v1136), .val (.int v1135), .val (.int v1138), .val (.int v1140), .val (.int r2), .val (.ref b_1142), .val (.ref b1146), .val (.ref b1162), .val (.double (own_rc (4611686018427387904 : UInt64) v1140)), .second, .val (.double (own_rc (4611686018427387904 : UInt64) v1140)), .second, .val (.double (own_rc (4611686018427387904 : UInt64) r2)), .second, .val (.int (1 : Int32))] []))
          refine OEnds.st (fun _ k => XS.iload X1187.here hx rfl (hb hby at_371) rfl k) ?_
          show OEnds p.tables e below G (T1187.setTop (mkF m 373 #[.val (.int p1), .val (.int p2), .val (.int p3), .val (.int p4), .val (.int p5), .val (.int p6), .val (.int (2 : Int32)), .val (.int v1134), .val (.int v1135), .val (.int v1136), .val (.int v1135), .val (.int v1138), .val (.int v1140), .val (.int r2), .val (.ref b_1142), .val (.ref b1146), .val (.ref b1162), .val (.double (own_rc (4611686018427387904 : UInt64) v1140)), .second, .val (.double (own_rc (4611686018427387904 : UInt64) v1140)), .second, .val (.double (own_rc (4611686018427387904 : UInt64) r2)), .second, .val (.int (1 : Int32))] [(.int (1 : Int32))]))
          rw [← hG]
          refine OEnds.retZ X1187 hx hlk Bd.returns rfl (hb hby at_373) (by decide) (by decide) ?_
          rw [e1187]
          exact ⟨rfl, N1187⟩
      by_cases hE1196 : (2 : Int32) = v1140
      ·
        show OEnds p.tables e below G (T1187.setTop (mkF m 271 #[.val (.int p1), .val (.int p2), .val (.int p3), .val (.int p4), .val (.int p5), .val (.int p6), .val (.int (2 : Int32)), .val (.int v1134), .val (.int v1135), .val (.int v1136), .val (.int v1135), .val (.int v1138), .val (.int v1140), .val (.int r2), .val (.ref b_1142), .val (.ref b1146), .val (.ref b1162), .val (.double (own_rc (4611686018427387904 : UInt64) v1140)), .second, .val (.double (own_rc (4611686018427387904 : UInt64) v1140)), .second, .val (.double (own_rc (4611686018427387904 : UInt64) r2)), .second, .val (.int (1 : Int32))] []))
        refine OEnds.st (fun _ k => XS.dload X1187.here hx rfl (hb hby at_271) rfl k) ?_
        show OEnds p.tables e below G (T1187.setTop (mkF m 273 #[.val (.int p1), .val (.int p2), .val (.int p3), .val (.int p4), .val (.int p5), .val (.int p6), .val (.int (2 : Int32)), .val (.int v1134), .val (.int v1135), .val (.int v1136), .val (.int v1135), .val (.int v1138), .val (.int v1140), .val (.int r2), .val (.ref b_1142), .val (.ref b1146), .val (.ref b1162), .val (.double (own_rc (4611686018427387904 : UInt64) v1140)), .second, .val (.double (own_rc (4611686018427387904 : UInt64) v1140)), .second, .val (.double (own_rc (4611686018427387904 : UInt64) r2)), .second, .val (.int (1 : Int32))] [(.double (own_rc (4611686018427387904 : UInt64) v1140))]))
        refine OEnds.st (fun _ k => XS.dconst1 X1187.here hx rfl (hb hby at_273) (v := (4607182418800017408 : UInt64)) rfl k) ?_
        show OEnds p.tables e below G (T1187.setTop (mkF m 274 #[.val (.int p1), .val (.int p2), .val (.int p3), .val (.int p4), .val (.int p5), .val (.int p6), .val (.int (2 : Int32)), .val (.int v1134), .val (.int v1135), .val (.int v1136), .val (.int v1135), .val (.int v1138), .val (.int v1140), .val (.int r2), .val (.ref b_1142), .val (.ref b1146), .val (.ref b1162), .val (.double (own_rc (4611686018427387904 : UInt64) v1140)), .second, .val (.double (own_rc (4611686018427387904 : UInt64) v1140)), .second, .val (.double (own_rc (4611686018427387904 : UInt64) r2)), .second, .val (.int (1 : Int32))] [(.double (4607182418800017408 : UInt64)), (.double (own_rc (4611686018427387904 : UInt64) v1140))]))
        refine OEnds.st (fun _ k => XS.dcmpS X1187.here hx rfl (hb hby at_274) rfl rfl k) ?_
        show OEnds p.tables e below G (T1187.setTop (mkF m 275 #[.val (.int p1), .val (.int p2), .val (.int p3), .val (.int p4), .val (.int p5), .val (.int p6), .val (.int (2 : Int32)), .val (.int v1134), .val (.int v1135), .val (.int v1136), .val (.int v1135), .val (.int v1138), .val (.int v1140), .val (.int r2), .val (.ref b_1142), .val (.ref b1146), .val (.ref b1162), .val (.double (own_rc (4611686018427387904 : UInt64) v1140)), .second, .val (.double (own_rc (4611686018427387904 : UInt64) v1140)), .second, .val (.double (own_rc (4611686018427387904 : UInt64) r2)), .second, .val (.int (1 : Int32))] [(.int (cmpValue (FP.dcmp (own_rc (4611686018427387904 : UInt64) v1140) (4607182418800017408 : UInt64)) .l))]))
        have hc275_1197 : (cmpValue (FP.dcmp (own_rc (4611686018427387904 : UInt64) v1140) (4607182418800017408 : UInt64)) .l) = (0 : Int32) := (own_ceq hP1 own_B1 .l).mpr (hM3.mpr ⟨by decide, by
            have kn : (2 : Int32).toInt = 2 := by decide
            rw [hE1196] at kn
            omega⟩)
        refine OEnds.st (fun _ k => XS.ifNo X1187.here hx rfl (hb hby at_275) rfl ((if0 _ _).trans (teq hc275_1197).2) k) ?_
        show OEnds p.tables e below G (T1187.setTop (mkF m 278 #[.val (.int p1), .val (.int p2), .val (.int p3), .val (.int p4), .val (.int p5), .val (.int p6), .val (.int (2 : Int32)), .val (.int v1134), .val (.int v1135), .val (.int v1136), .val (.int v1135), .val (.int v1138), .val (.int v1140), .val (.int r2), .val (.ref b_1142), .val (.ref b1146), .val (.ref b1162), .val (.double (own_rc (4611686018427387904 : UInt64) v1140)), .second, .val (.double (own_rc (4611686018427387904 : UInt64) v1140)), .second, .val (.double (own_rc (4611686018427387904 : UInt64) r2)), .second, .val (.int (1 : Int32))] []))
        refine OEnds.st (fun _ k => XS.iconst X1187.here hx rfl (hb hby at_278) k) ?_
        show OEnds p.tables e below G (T1187.setTop (mkF m 279 #[.val (.int p1), .val (.int p2), .val (.int p3), .val (.int p4), .val (.int p5), .val (.int p6), .val (.int (2 : Int32)), .val (.int v1134), .val (.int v1135), .val (.int v1136), .val (.int v1135), .val (.int v1138), .val (.int v1140), .val (.int r2), .val (.ref b_1142), .val (.ref b1146), .val (.ref b1162), .val (.double (own_rc (4611686018427387904 : UInt64) v1140)), .second, .val (.double (own_rc (4611686018427387904 : UInt64) v1140)), .second, .val (.double (own_rc (4611686018427387904 : UInt64) r2)), .second, .val (.int (1 : Int32))] [(.int (1 : Int32))]))
        refine OEnds.st (fun _ k => XS.goto X1187.here hx rfl (pc0 := 279) (pc' := 283) rfl (hb hby at_279) (by decide) (by decide) k) ?_
        show OEnds p.tables e below G (T1187.setTop (mkF m 283 #[.val (.int p1), .val (.int p2), .val (.int p3), .val (.int p4), .val (.int p5), .val (.int p6), .val (.int (2 : Int32)), .val (.int v1134), .val (.int v1135), .val (.int v1136), .val (.int v1135), .val (.int v1138), .val (.int v1140), .val (.int r2), .val (.ref b_1142), .val (.ref b1146), .val (.ref b1162), .val (.double (own_rc (4611686018427387904 : UInt64) v1140)), .second, .val (.double (own_rc (4611686018427387904 : UInt64) v1140)), .second, .val (.double (own_rc (4611686018427387904 : UInt64) r2)), .second, .val (.int (1 : Int32))] [(.int (1 : Int32))]))
        refine OEnds.st (fun _ k => XS.iload X1187.here hx rfl (hb hby at_283) rfl k) ?_
        show OEnds p.tables e below G (T1187.setTop (mkF m 285 #[.val (.int p1), .val (.int p2), .val (.int p3), .val (.int p4), .val (.int p5), .val (.int p6), .val (.int (2 : Int32)), .val (.int v1134), .val (.int v1135), .val (.int v1136), .val (.int v1135), .val (.int v1138), .val (.int v1140), .val (.int r2), .val (.ref b_1142), .val (.ref b1146), .val (.ref b1162), .val (.double (own_rc (4611686018427387904 : UInt64) v1140)), .second, .val (.double (own_rc (4611686018427387904 : UInt64) v1140)), .second, .val (.double (own_rc (4611686018427387904 : UInt64) r2)), .second, .val (.int (1 : Int32))] [(.int v1140), (.int (1 : Int32))]))
        refine OEnds.st (fun _ k => XS.ifNo X1187.here hx rfl (hb hby at_285) rfl ((if0 _ _).trans (feq hr0).1) k) ?_
        show OEnds p.tables e below G (T1187.setTop (mkF m 288 #[.val (.int p1), .val (.int p2), .val (.int p3), .val (.int p4), .val (.int p5), .val (.int p6), .val (.int (2 : Int32)), .val (.int v1134), .val (.int v1135), .val (.int v1136), .val (.int v1135), .val (.int v1138), .val (.int v1140), .val (.int r2), .val (.ref b_1142), .val (.ref b1146), .val (.ref b1162), .val (.double (own_rc (4611686018427387904 : UInt64) v1140)), .second, .val (.double (own_rc (4611686018427387904 : UInt64) v1140)), .second, .val (.double (own_rc (4611686018427387904 : UInt64) r2)), .second, .val (.int (1 : Int32))] [(.int (1 : Int32))]))
        refine OEnds.st (fun _ k => XS.iload X1187.here hx rfl (hb hby at_288) rfl k) ?_
        show OEnds p.tables e below G (T1187.setTop (mkF m 290 #[.val (.int p1), .val (.int p2), .val (.int p3), .val (.int p4), .val (.int p5), .val (.int p6), .val (.int (2 : Int32)), .val (.int v1134), .val (.int v1135), .val (.int v1136), .val (.int v1135), .val (.int v1138), .val (.int v1140), .val (.int r2), .val (.ref b_1142), .val (.ref b1146), .val (.ref b1162), .val (.double (own_rc (4611686018427387904 : UInt64) v1140)), .second, .val (.double (own_rc (4611686018427387904 : UInt64) v1140)), .second, .val (.double (own_rc (4611686018427387904 : UInt64) r2)), .second, .val (.int (1 : Int32))] [(.int (2 : Int32)), (.int (1 : Int32))]))
        refine OEnds.st (fun _ k => XS.iload X1187.here hx rfl (hb hby at_290) rfl k) ?_
        show OEnds p.tables e below G (T1187.setTop (mkF m 292 #[.val (.int p1), .val (.int p2), .val (.int p3), .val (.int p4), .val (.int p5), .val (.int p6), .val (.int (2 : Int32)), .val (.int v1134), .val (.int v1135), .val (.int v1136), .val (.int v1135), .val (.int v1138), .val (.int v1140), .val (.int r2), .val (.ref b_1142), .val (.ref b1146), .val (.ref b1162), .val (.double (own_rc (4611686018427387904 : UInt64) v1140)), .second, .val (.double (own_rc (4611686018427387904 : UInt64) v1140)), .second, .val (.double (own_rc (4611686018427387904 : UInt64) r2)), .second, .val (.int (1 : Int32))] [(.int v1140), (.int (2 : Int32)), (.int (1 : Int32))]))
        refine OEnds.st (fun _ k => XS.icmpNo X1187.here hx rfl (hb hby at_292) rfl (teq hE1196).2 k) ?_
        show OEnds p.tables e below G (T1187.setTop (mkF m 295 #[.val (.int p1), .val (.int p2), .val (.int p3), .val (.int p4), .val (.int p5), .val (.int p6), .val (.int (2 : Int32)), .val (.int v1134), .val (.int v1135), .val (.int v1136), .val (.int v1135), .val (.int v1138), .val (.int v1140), .val (.int r2), .val (.ref b_1142), .val (.ref b1146), .val (.ref b1162), .val (.double (own_rc (4611686018427387904 : UInt64) v1140)), .second, .val (.double (own_rc (4611686018427387904 : UInt64) v1140)), .second, .val (.double (own_rc (4611686018427387904 : UInt64) r2)), .second, .val (.int (1 : Int32))] [(.int (1 : Int32))]))
        refine OEnds.st (fun _ k => XS.iconst X1187.here hx rfl (hb hby at_295) k) ?_
        show OEnds p.tables e below G (T1187.setTop (mkF m 296 #[.val (.int p1), .val (.int p2), .val (.int p3), .val (.int p4), .val (.int p5), .val (.int p6), .val (.int (2 : Int32)), .val (.int v1134), .val (.int v1135), .val (.int v1136), .val (.int v1135), .val (.int v1138), .val (.int v1140), .val (.int r2), .val (.ref b_1142), .val (.ref b1146), .val (.ref b1162), .val (.double (own_rc (4611686018427387904 : UInt64) v1140)), .second, .val (.double (own_rc (4611686018427387904 : UInt64) v1140)), .second, .val (.double (own_rc (4611686018427387904 : UInt64) r2)), .second, .val (.int (1 : Int32))] [(.int (1 : Int32)), (.int (1 : Int32))]))
        refine OEnds.st (fun _ k => XS.goto X1187.here hx rfl (pc0 := 296) (pc' := 300) rfl (hb hby at_296) (by decide) (by decide) k) ?_
        show OEnds p.tables e below G (T1187.setTop (mkF m 300 #[.val (.int p1), .val (.int p2), .val (.int p3), .val (.int p4), .val (.int p5), .val (.int p6), .val (.int (2 : Int32)), .val (.int v1134), .val (.int v1135), .val (.int v1136), .val (.int v1135), .val (.int v1138), .val (.int v1140), .val (.int r2), .val (.ref b_1142), .val (.ref b1146), .val (.ref b1162), .val (.double (own_rc (4611686018427387904 : UInt64) v1140)), .second, .val (.double (own_rc (4611686018427387904 : UInt64) v1140)), .second, .val (.double (own_rc (4611686018427387904 : UInt64) r2)), .second, .val (.int (1 : Int32))] [(.int (1 : Int32)), (.int (1 : Int32))]))
        refine OEnds.st (fun _ k => XS.icmpNo X1187.here hx rfl (hb hby at_300) rfl (teq (by decide : (1 : Int32) = (1 : Int32))).2 k) ?_
        show OEnds p.tables e below G (T1187.setTop (mkF m 303 #[.val (.int p1), .val (.int p2), .val (.int p3), .val (.int p4), .val (.int p5), .val (.int p6), .val (.int (2 : Int32)), .val (.int v1134), .val (.int v1135), .val (.int v1136), .val (.int v1135), .val (.int v1138), .val (.int v1140), .val (.int r2), .val (.ref b_1142), .val (.ref b1146), .val (.ref b1162), .val (.double (own_rc (4611686018427387904 : UInt64) v1140)), .second, .val (.double (own_rc (4611686018427387904 : UInt64) v1140)), .second, .val (.double (own_rc (4611686018427387904 : UInt64) r2)), .second, .val (.int (1 : Int32))] []))
        refine OEnds.st (fun _ k => XS.iconst X1187.here hx rfl (hb hby at_303) k) ?_
        show OEnds p.tables e below G (T1187.setTop (mkF m 304 #[.val (.int p1), .val (.int p2), .val (.int p3), .val (.int p4), .val (.int p5), .val (.int p6), .val (.int (2 : Int32)), .val (.int v1134), .val (.int v1135), .val (.int v1136), .val (.int v1135), .val (.int v1138), .val (.int v1140), .val (.int r2), .val (.ref b_1142), .val (.ref b1146), .val (.ref b1162), .val (.double (own_rc (4611686018427387904 : UInt64) v1140)), .second, .val (.double (own_rc (4611686018427387904 : UInt64) v1140)), .second, .val (.double (own_rc (4611686018427387904 : UInt64) r2)), .second, .val (.int (1 : Int32))] [(.int (1 : Int32))]))
        refine OEnds.st (fun _ k => XS.goto X1187.here hx rfl (pc0 := 304) (pc' := 308) rfl (hb hby at_304) (by decide) (by decide) k) ?_
        exact rest308_1192  
      ·
        show OEnds p.tables e below G (T1187.setTop (mkF m 271 #[.val (.int p1), .val (.int p2), .val (.int p3), .val (.int p4), .val (.int p5), .val (.int p6), .val (.int (2 : Int32)), .val (.int v1134), .val (.int v1135), .val (.int v1136), .val (.int v1135), .val (.int v1138), .val (.int v1140), .val (.int r2), .val (.ref b_1142), .val (.ref b1146), .val (.ref b1162), .val (.double (own_rc (4611686018427387904 : UInt64) v1140)), .second, .val (.double (own_rc (4611686018427387904 : UInt64) v1140)), .second, .val (.double (own_rc (4611686018427387904 : UInt64) r2)), .second, .val (.int (1 : Int32))] []))
        refine OEnds.st (fun _ k => XS.dload X1187.here hx rfl (hb hby at_271) rfl k) ?_
        show OEnds p.tables e below G (T1187.setTop (mkF m 273 #[.val (.int p1), .val (.int p2), .val (.int p3), .val (.int p4), .val (.int p5), .val (.int p6), .val (.int (2 : Int32)), .val (.int v1134), .val (.int v1135), .val (.int v1136), .val (.int v1135), .val (.int v1138), .val (.int v1140), .val (.int r2), .val (.ref b_1142), .val (.ref b1146), .val (.ref b1162), .val (.double (own_rc (4611686018427387904 : UInt64) v1140)), .second, .val (.double (own_rc (4611686018427387904 : UInt64) v1140)), .second, .val (.double (own_rc (4611686018427387904 : UInt64) r2)), .second, .val (.int (1 : Int32))] [(.double (own_rc (4611686018427387904 : UInt64) v1140))]))
        refine OEnds.st (fun _ k => XS.dconst1 X1187.here hx rfl (hb hby at_273) (v := (4607182418800017408 : UInt64)) rfl k) ?_
        show OEnds p.tables e below G (T1187.setTop (mkF m 274 #[.val (.int p1), .val (.int p2), .val (.int p3), .val (.int p4), .val (.int p5), .val (.int p6), .val (.int (2 : Int32)), .val (.int v1134), .val (.int v1135), .val (.int v1136), .val (.int v1135), .val (.int v1138), .val (.int v1140), .val (.int r2), .val (.ref b_1142), .val (.ref b1146), .val (.ref b1162), .val (.double (own_rc (4611686018427387904 : UInt64) v1140)), .second, .val (.double (own_rc (4611686018427387904 : UInt64) v1140)), .second, .val (.double (own_rc (4611686018427387904 : UInt64) r2)), .second, .val (.int (1 : Int32))] [(.double (4607182418800017408 : UInt64)), (.double (own_rc (4611686018427387904 : UInt64) v1140))]))
        refine OEnds.st (fun _ k => XS.dcmpS X1187.here hx rfl (hb hby at_274) rfl rfl k) ?_
        show OEnds p.tables e below G (T1187.setTop (mkF m 275 #[.val (.int p1), .val (.int p2), .val (.int p3), .val (.int p4), .val (.int p5), .val (.int p6), .val (.int (2 : Int32)), .val (.int v1134), .val (.int v1135), .val (.int v1136), .val (.int v1135), .val (.int v1138), .val (.int v1140), .val (.int r2), .val (.ref b_1142), .val (.ref b1146), .val (.ref b1162), .val (.double (own_rc (4611686018427387904 : UInt64) v1140)), .second, .val (.double (own_rc (4611686018427387904 : UInt64) v1140)), .second, .val (.double (own_rc (4611686018427387904 : UInt64) r2)), .second, .val (.int (1 : Int32))] [(.int (cmpValue (FP.dcmp (own_rc (4611686018427387904 : UInt64) v1140) (4607182418800017408 : UInt64)) .l))]))
        have hc275_1198 : ¬ ((cmpValue (FP.dcmp (own_rc (4611686018427387904 : UInt64) v1140) (4607182418800017408 : UInt64)) .l) = (0 : Int32)) := fun q => hE1196 (Int32.toInt_inj.mp (by
            have kn : (2 : Int32).toInt = 2 := by decide
            have q2 := (hM3.mp ((own_ceq hP1 own_B1 .l).mp q)).2
            omega))
        refine OEnds.st (fun _ k => XS.ifYes X1187.here hx rfl (pc0 := 275) (pc' := 282) rfl (hb hby at_275) rfl ((if0 _ _).trans (feq hc275_1198).2) (by decide) (by decide) k) ?_
        show OEnds p.tables e below G (T1187.setTop (mkF m 282 #[.val (.int p1), .val (.int p2), .val (.int p3), .val (.int p4), .val (.int p5), .val (.int p6), .val (.int (2 : Int32)), .val (.int v1134), .val (.int v1135), .val (.int v1136), .val (.int v1135), .val (.int v1138), .val (.int v1140), .val (.int r2), .val (.ref b_1142), .val (.ref b1146), .val (.ref b1162), .val (.double (own_rc (4611686018427387904 : UInt64) v1140)), .second, .val (.double (own_rc (4611686018427387904 : UInt64) v1140)), .second, .val (.double (own_rc (4611686018427387904 : UInt64) r2)), .second, .val (.int (1 : Int32))] []))
        refine OEnds.st (fun _ k => XS.iconst X1187.here hx rfl (hb hby at_282) k) ?_
        show OEnds p.tables e below G (T1187.setTop (mkF m 283 #[.val (.int p1), .val (.int p2), .val (.int p3), .val (.int p4), .val (.int p5), .val (.int p6), .val (.int (2 : Int32)), .val (.int v1134), .val (.int v1135), .val (.int v1136), .val (.int v1135), .val (.int v1138), .val (.int v1140), .val (.int r2), .val (.ref b_1142), .val (.ref b1146), .val (.ref b1162), .val (.double (own_rc (4611686018427387904 : UInt64) v1140)), .second, .val (.double (own_rc (4611686018427387904 : UInt64) v1140)), .second, .val (.double (own_rc (4611686018427387904 : UInt64) r2)), .second, .val (.int (1 : Int32))] [(.int (0 : Int32))]))
        refine OEnds.st (fun _ k => XS.iload X1187.here hx rfl (hb hby at_283) rfl k) ?_
        show OEnds p.tables e below G (T1187.setTop (mkF m 285 #[.val (.int p1), .val (.int p2), .val (.int p3), .val (.int p4), .val (.int p5), .val (.int p6), .val (.int (2 : Int32)), .val (.int v1134), .val (.int v1135), .val (.int v1136), .val (.int v1135), .val (.int v1138), .val (.int v1140), .val (.int r2), .val (.ref b_1142), .val (.ref b1146), .val (.ref b1162), .val (.double (own_rc (4611686018427387904 : UInt64) v1140)), .second, .val (.double (own_rc (4611686018427387904 : UInt64) v1140)), .second, .val (.double (own_rc (4611686018427387904 : UInt64) r2)), .second, .val (.int (1 : Int32))] [(.int v1140), (.int (0 : Int32))]))
        refine OEnds.st (fun _ k => XS.ifNo X1187.here hx rfl (hb hby at_285) rfl ((if0 _ _).trans (feq hr0).1) k) ?_
        show OEnds p.tables e below G (T1187.setTop (mkF m 288 #[.val (.int p1), .val (.int p2), .val (.int p3), .val (.int p4), .val (.int p5), .val (.int p6), .val (.int (2 : Int32)), .val (.int v1134), .val (.int v1135), .val (.int v1136), .val (.int v1135), .val (.int v1138), .val (.int v1140), .val (.int r2), .val (.ref b_1142), .val (.ref b1146), .val (.ref b1162), .val (.double (own_rc (4611686018427387904 : UInt64) v1140)), .second, .val (.double (own_rc (4611686018427387904 : UInt64) v1140)), .second, .val (.double (own_rc (4611686018427387904 : UInt64) r2)), .second, .val (.int (1 : Int32))] [(.int (0 : Int32))]))
        refine OEnds.st (fun _ k => XS.iload X1187.here hx rfl (hb hby at_288) rfl k) ?_
        show OEnds p.tables e below G (T1187.setTop (mkF m 290 #[.val (.int p1), .val (.int p2), .val (.int p3), .val (.int p4), .val (.int p5), .val (.int p6), .val (.int (2 : Int32)), .val (.int v1134), .val (.int v1135), .val (.int v1136), .val (.int v1135), .val (.int v1138), .val (.int v1140), .val (.int r2), .val (.ref b_1142), .val (.ref b1146), .val (.ref b1162), .val (.double (own_rc (4611686018427387904 : UInt64) v1140)), .second, .val (.double (own_rc (4611686018427387904 : UInt64) v1140)), .second, .val (.double (own_rc (4611686018427387904 : UInt64) r2)), .second, .val (.int (1 : Int32))] [(.int (2 : Int32)), (.int (0 : Int32))]))
        refine OEnds.st (fun _ k => XS.iload X1187.here hx rfl (hb hby at_290) rfl k) ?_
        show OEnds p.tables e below G (T1187.setTop (mkF m 292 #[.val (.int p1), .val (.int p2), .val (.int p3), .val (.int p4), .val (.int p5), .val (.int p6), .val (.int (2 : Int32)), .val (.int v1134), .val (.int v1135), .val (.int v1136), .val (.int v1135), .val (.int v1138), .val (.int v1140), .val (.int r2), .val (.ref b_1142), .val (.ref b1146), .val (.ref b1162), .val (.double (own_rc (4611686018427387904 : UInt64) v1140)), .second, .val (.double (own_rc (4611686018427387904 : UInt64) v1140)), .second, .val (.double (own_rc (4611686018427387904 : UInt64) r2)), .second, .val (.int (1 : Int32))] [(.int v1140), (.int (2 : Int32)), (.int (0 : Int32))]))
        refine OEnds.st (fun _ k => XS.icmpYes X1187.here hx rfl (pc0 := 292) (pc' := 299) rfl (hb hby at_292) rfl (feq hE1196).2 (by decide) (by decide) k) ?_
        show OEnds p.tables e below G (T1187.setTop (mkF m 299 #[.val (.int p1), .val (.int p2), .val (.int p3), .val (.int p4), .val (.int p5), .val (.int p6), .val (.int (2 : Int32)), .val (.int v1134), .val (.int v1135), .val (.int v1136), .val (.int v1135), .val (.int v1138), .val (.int v1140), .val (.int r2), .val (.ref b_1142), .val (.ref b1146), .val (.ref b1162), .val (.double (own_rc (4611686018427387904 : UInt64) v1140)), .second, .val (.double (own_rc (4611686018427387904 : UInt64) v1140)), .second, .val (.double (own_rc (4611686018427387904 : UInt64) r2)), .second, .val (.int (1 : Int32))] [(.int (0 : Int32))]))
        refine OEnds.st (fun _ k => XS.iconst X1187.here hx rfl (hb hby at_299) k) ?_
        show OEnds p.tables e below G (T1187.setTop (mkF m 300 #[.val (.int p1), .val (.int p2), .val (.int p3), .val (.int p4), .val (.int p5), .val (.int p6), .val (.int (2 : Int32)), .val (.int v1134), .val (.int v1135), .val (.int v1136), .val (.int v1135), .val (.int v1138), .val (.int v1140), .val (.int r2), .val (.ref b_1142), .val (.ref b1146), .val (.ref b1162), .val (.double (own_rc (4611686018427387904 : UInt64) v1140)), .second, .val (.double (own_rc (4611686018427387904 : UInt64) v1140)), .second, .val (.double (own_rc (4611686018427387904 : UInt64) r2)), .second, .val (.int (1 : Int32))] [(.int (0 : Int32)), (.int (0 : Int32))]))
        refine OEnds.st (fun _ k => XS.icmpNo X1187.here hx rfl (hb hby at_300) rfl (teq (by decide : (0 : Int32) = (0 : Int32))).2 k) ?_
        show OEnds p.tables e below G (T1187.setTop (mkF m 303 #[.val (.int p1), .val (.int p2), .val (.int p3), .val (.int p4), .val (.int p5), .val (.int p6), .val (.int (2 : Int32)), .val (.int v1134), .val (.int v1135), .val (.int v1136), .val (.int v1135), .val (.int v1138), .val (.int v1140), .val (.int r2), .val (.ref b_1142), .val (.ref b1146), .val (.ref b1162), .val (.double (own_rc (4611686018427387904 : UInt64) v1140)), .second, .val (.double (own_rc (4611686018427387904 : UInt64) v1140)), .second, .val (.double (own_rc (4611686018427387904 : UInt64) r2)), .second, .val (.int (1 : Int32))] []))
        refine OEnds.st (fun _ k => XS.iconst X1187.here hx rfl (hb hby at_303) k) ?_
        show OEnds p.tables e below G (T1187.setTop (mkF m 304 #[.val (.int p1), .val (.int p2), .val (.int p3), .val (.int p4), .val (.int p5), .val (.int p6), .val (.int (2 : Int32)), .val (.int v1134), .val (.int v1135), .val (.int v1136), .val (.int v1135), .val (.int v1138), .val (.int v1140), .val (.int r2), .val (.ref b_1142), .val (.ref b1146), .val (.ref b1162), .val (.double (own_rc (4611686018427387904 : UInt64) v1140)), .second, .val (.double (own_rc (4611686018427387904 : UInt64) v1140)), .second, .val (.double (own_rc (4611686018427387904 : UInt64) r2)), .second, .val (.int (1 : Int32))] [(.int (1 : Int32))]))
        refine OEnds.st (fun _ k => XS.goto X1187.here hx rfl (pc0 := 304) (pc' := 308) rfl (hb hby at_304) (by decide) (by decide) k) ?_
        exact rest308_1192  
    show OEnds p.tables e below G (T1139.setTop (mkF m 99 #[.val (.int p1), .val (.int p2), .val (.int p3), .val (.int p4), .val (.int p5), .val (.int p6), .val (.int (2 : Int32)), .val (.int v1134), .val (.int v1135), .val (.int v1136), .val (.int v1135), .val (.int v1138), .val (.int v1140), .unset, .unset, .unset, .unset, .unset, .unset, .unset, .unset, .unset, .unset, .unset] []))
    refine OEnds.st (fun _ k => XS.iload X1139.here hx rfl (hb hby at_99) rfl k) ?_
    show OEnds p.tables e below G (T1139.setTop (mkF m 101 #[.val (.int p1), .val (.int p2), .val (.int p3), .val (.int p4), .val (.int p5), .val (.int p6), .val (.int (2 : Int32)), .val (.int v1134), .val (.int v1135), .val (.int v1136), .val (.int v1135), .val (.int v1138), .val (.int v1140), .unset, .unset, .unset, .unset, .unset, .unset, .unset, .unset, .unset, .unset, .unset] [(.int v1140)]))
    refine OEnds.st (X1139.ldcInt hx hown (mvT hZ (hw _ (List.mem_of_getElem? (i := 5) rfl))) (g := (mkF m 101 #[.val (.int p1), .val (.int p2), .val (.int p3), .val (.int p4), .val (.int p5), .val (.int p6), .val (.int (2 : Int32)), .val (.int v1134), .val (.int v1135), .val (.int v1136), .val (.int v1135), .val (.int v1138), .val (.int v1140), .unset, .unset, .unset, .unset, .unset, .unset, .unset, .unset, .unset, .unset, .unset] [(.int v1140)])) rfl (hb hby at_101)) ?_
    show OEnds p.tables e below G (T1139.setTop (mkF m 103 #[.val (.int p1), .val (.int p2), .val (.int p3), .val (.int p4), .val (.int p5), .val (.int p6), .val (.int (2 : Int32)), .val (.int v1134), .val (.int v1135), .val (.int v1136), .val (.int v1135), .val (.int v1138), .val (.int v1140), .unset, .unset, .unset, .unset, .unset, .unset, .unset, .unset, .unset, .unset, .unset] [(.int (2147483647 : Int32)), (.int v1140)]))
    by_cases hc103_1199 : v1140 = (2147483647 : Int32)
    · -- pc 103: yes
      refine OEnds.st (fun _ k => XS.icmpNo X1139.here hx rfl (hb hby at_103) rfl (teq hc103_1199).2 k) ?_
      show OEnds p.tables e below G (T1139.setTop (mkF m 106 #[.val (.int p1), .val (.int p2), .val (.int p3), .val (.int p4), .val (.int p5), .val (.int p6), .val (.int (2 : Int32)), .val (.int v1134), .val (.int v1135), .val (.int v1136), .val (.int v1135), .val (.int v1138), .val (.int v1140), .unset, .unset, .unset, .unset, .unset, .unset, .unset, .unset, .unset, .unset, .unset] []))
      refine OEnds.st (fun _ k => XS.iload X1139.here hx rfl (hb hby at_106) rfl k) ?_
      show OEnds p.tables e below G (T1139.setTop (mkF m 108 #[.val (.int p1), .val (.int p2), .val (.int p3), .val (.int p4), .val (.int p5), .val (.int p6), .val (.int (2 : Int32)), .val (.int v1134), .val (.int v1135), .val (.int v1136), .val (.int v1135), .val (.int v1138), .val (.int v1140), .unset, .unset, .unset, .unset, .unset, .unset, .unset, .unset, .unset, .unset, .unset] [(.int v1140)]))
      refine OEnds.st (fun _ k => XS.goto X1139.here hx rfl (pc0 := 108) (pc' := 115) rfl (hb hby at_108) (by decide) (by decide) k) ?_
      exact rest115_1141 v1140 (Or.inl hc103_1199)
    · -- pc 103: no
      refine OEnds.st (fun _ k => XS.icmpYes X1139.here hx rfl (pc0 := 103) (pc' := 111) rfl (hb hby at_103) rfl (feq hc103_1199).2 (by decide) (by decide) k) ?_
      show OEnds p.tables e below G (T1139.setTop (mkF m 111 #[.val (.int p1), .val (.int p2), .val (.int p3), .val (.int p4), .val (.int p5), .val (.int p6), .val (.int (2 : Int32)), .val (.int v1134), .val (.int v1135), .val (.int v1136), .val (.int v1135), .val (.int v1138), .val (.int v1140), .unset, .unset, .unset, .unset, .unset, .unset, .unset, .unset, .unset, .unset, .unset] []))
      refine OEnds.st (fun _ k => XS.iload X1139.here hx rfl (hb hby at_111) rfl k) ?_
      show OEnds p.tables e below G (T1139.setTop (mkF m 113 #[.val (.int p1), .val (.int p2), .val (.int p3), .val (.int p4), .val (.int p5), .val (.int p6), .val (.int (2 : Int32)), .val (.int v1134), .val (.int v1135), .val (.int v1136), .val (.int v1135), .val (.int v1138), .val (.int v1140), .unset, .unset, .unset, .unset, .unset, .unset, .unset, .unset, .unset, .unset, .unset] [(.int v1140)]))
      refine OEnds.st (fun _ k => XS.iconst X1139.here hx rfl (hb hby at_113) k) ?_
      show OEnds p.tables e below G (T1139.setTop (mkF m 114 #[.val (.int p1), .val (.int p2), .val (.int p3), .val (.int p4), .val (.int p5), .val (.int p6), .val (.int (2 : Int32)), .val (.int v1134), .val (.int v1135), .val (.int v1136), .val (.int v1135), .val (.int v1138), .val (.int v1140), .unset, .unset, .unset, .unset, .unset, .unset, .unset, .unset, .unset, .unset, .unset] [(.int (1 : Int32)), (.int v1140)]))
      refine OEnds.st (fun _ k => XS.iadd X1139.here hx rfl (hb hby at_114) rfl k) ?_
      exact rest115_1141 (v1140 + (1 : Int32)) (Or.inr ⟨hc103_1199, own_inc hc103_1199 rfl⟩)
  · -- 3
    rw [hi]
    show OEnds p.tables e below G (s₁.setTop (mkF m 5 #[.val (.int p1), .val (.int p2), .val (.int p3), .val (.int p4), .val (.int p5), .val (.int p6), .val (.int (3 : Int32)), .unset, .unset, .unset, .unset, .unset, .unset, .unset, .unset, .unset, .unset, .unset, .unset, .unset, .unset, .unset, .unset, .unset] []))
    refine OEnds.st (fun _ k => XS.iconst X0.here hx rfl (hb hby at_5) k) ?_
    show OEnds p.tables e below G (s₁.setTop (mkF m 6 #[.val (.int p1), .val (.int p2), .val (.int p3), .val (.int p4), .val (.int p5), .val (.int p6), .val (.int (3 : Int32)), .unset, .unset, .unset, .unset, .unset, .unset, .unset, .unset, .unset, .unset, .unset, .unset, .unset, .unset, .unset, .unset, .unset] [(.int (1 : Int32))]))
    refine OEnds.st (fun _ k => XS.iloadN X0.here hx rfl (hb hby at_6) rfl k) ?_
    show OEnds p.tables e below G (s₁.setTop (mkF m 7 #[.val (.int p1), .val (.int p2), .val (.int p3), .val (.int p4), .val (.int p5), .val (.int p6), .val (.int (3 : Int32)), .unset, .unset, .unset, .unset, .unset, .unset, .unset, .unset, .unset, .unset, .unset, .unset, .unset, .unset, .unset, .unset, .unset] [(.int p3), (.int (1 : Int32))]))
    refine OEnds.st (fun _ k => XS.sipush X0.here hx rfl (hb hby at_7) k) ?_
    show OEnds p.tables e below G (s₁.setTop (mkF m 10 #[.val (.int p1), .val (.int p2), .val (.int p3), .val (.int p4), .val (.int p5), .val (.int p6), .val (.int (3 : Int32)), .unset, .unset, .unset, .unset, .unset, .unset, .unset, .unset, .unset, .unset, .unset, .unset, .unset, .unset, .unset, .unset, .unset] [(.int (255 : Int32)), (.int p3), (.int (1 : Int32))]))
    refine OEnds.st (fun _ k => XS.iand X0.here hx rfl (hb hby at_10) rfl k) ?_
    show OEnds p.tables e below G (s₁.setTop (mkF m 11 #[.val (.int p1), .val (.int p2), .val (.int p3), .val (.int p4), .val (.int p5), .val (.int p6), .val (.int (3 : Int32)), .unset, .unset, .unset, .unset, .unset, .unset, .unset, .unset, .unset, .unset, .unset, .unset, .unset, .unset, .unset, .unset, .unset] [(.int (p3 &&& (255 : Int32))), (.int (1 : Int32))]))
    refine OEnds.st (fun _ k => XS.iadd X0.here hx rfl (hb hby at_11) rfl k) ?_
    show OEnds p.tables e below G (s₁.setTop (mkF m 12 #[.val (.int p1), .val (.int p2), .val (.int p3), .val (.int p4), .val (.int p5), .val (.int p6), .val (.int (3 : Int32)), .unset, .unset, .unset, .unset, .unset, .unset, .unset, .unset, .unset, .unset, .unset, .unset, .unset, .unset, .unset, .unset, .unset] [(.int ((1 : Int32) + (p3 &&& (255 : Int32))))]))
    refine OEnds.st (fun _ k => XS.istore X0.here hx rfl (hb hby at_12) rfl (l' := #[.val (.int p1), .val (.int p2), .val (.int p3), .val (.int p4), .val (.int p5), .val (.int p6), .val (.int (3 : Int32)), .val (.int ((1 : Int32) + (p3 &&& (255 : Int32)))), .unset, .unset, .unset, .unset, .unset, .unset, .unset, .unset, .unset, .unset, .unset, .unset, .unset, .unset, .unset, .unset]) rfl k) ?_
    show OEnds p.tables e below G (s₁.setTop (mkF m 14 #[.val (.int p1), .val (.int p2), .val (.int p3), .val (.int p4), .val (.int p5), .val (.int p6), .val (.int (3 : Int32)), .val (.int ((1 : Int32) + (p3 &&& (255 : Int32)))), .unset, .unset, .unset, .unset, .unset, .unset, .unset, .unset, .unset, .unset, .unset, .unset, .unset, .unset, .unset, .unset] []))
    generalize hv_v1200 : ((1 : Int32) + (p3 &&& (255 : Int32))) = v1200
    show OEnds p.tables e below G (s₁.setTop (mkF m 14 #[.val (.int p1), .val (.int p2), .val (.int p3), .val (.int p4), .val (.int p5), .val (.int p6), .val (.int (3 : Int32)), .val (.int v1200), .unset, .unset, .unset, .unset, .unset, .unset, .unset, .unset, .unset, .unset, .unset, .unset, .unset, .unset, .unset, .unset] []))
    refine OEnds.st (fun _ k => XS.iload X0.here hx rfl (hb hby at_14) rfl k) ?_
    show OEnds p.tables e below G (s₁.setTop (mkF m 16 #[.val (.int p1), .val (.int p2), .val (.int p3), .val (.int p4), .val (.int p5), .val (.int p6), .val (.int (3 : Int32)), .val (.int v1200), .unset, .unset, .unset, .unset, .unset, .unset, .unset, .unset, .unset, .unset, .unset, .unset, .unset, .unset, .unset, .unset] [(.int v1200)]))
    refine OEnds.st (fun _ k => XS.iconst X0.here hx rfl (hb hby at_16) k) ?_
    show OEnds p.tables e below G (s₁.setTop (mkF m 17 #[.val (.int p1), .val (.int p2), .val (.int p3), .val (.int p4), .val (.int p5), .val (.int p6), .val (.int (3 : Int32)), .val (.int v1200), .unset, .unset, .unset, .unset, .unset, .unset, .unset, .unset, .unset, .unset, .unset, .unset, .unset, .unset, .unset, .unset] [(.int (1 : Int32)), (.int v1200)]))
    refine OEnds.st (fun _ k => XS.iadd X0.here hx rfl (hb hby at_17) rfl k) ?_
    show OEnds p.tables e below G (s₁.setTop (mkF m 18 #[.val (.int p1), .val (.int p2), .val (.int p3), .val (.int p4), .val (.int p5), .val (.int p6), .val (.int (3 : Int32)), .val (.int v1200), .unset, .unset, .unset, .unset, .unset, .unset, .unset, .unset, .unset, .unset, .unset, .unset, .unset, .unset, .unset, .unset] [(.int (v1200 + (1 : Int32)))]))
    refine OEnds.st (fun _ k => XS.iloadN X0.here hx rfl (hb hby at_18) rfl k) ?_
    show OEnds p.tables e below G (s₁.setTop (mkF m 19 #[.val (.int p1), .val (.int p2), .val (.int p3), .val (.int p4), .val (.int p5), .val (.int p6), .val (.int (3 : Int32)), .val (.int v1200), .unset, .unset, .unset, .unset, .unset, .unset, .unset, .unset, .unset, .unset, .unset, .unset, .unset, .unset, .unset, .unset] [(.int p4), (.int (v1200 + (1 : Int32)))]))
    refine OEnds.st (fun _ k => XS.sipush X0.here hx rfl (hb hby at_19) k) ?_
    show OEnds p.tables e below G (s₁.setTop (mkF m 22 #[.val (.int p1), .val (.int p2), .val (.int p3), .val (.int p4), .val (.int p5), .val (.int p6), .val (.int (3 : Int32)), .val (.int v1200), .unset, .unset, .unset, .unset, .unset, .unset, .unset, .unset, .unset, .unset, .unset, .unset, .unset, .unset, .unset, .unset] [(.int (255 : Int32)), (.int p4), (.int (v1200 + (1 : Int32)))]))
    refine OEnds.st (fun _ k => XS.iand X0.here hx rfl (hb hby at_22) rfl k) ?_
    show OEnds p.tables e below G (s₁.setTop (mkF m 23 #[.val (.int p1), .val (.int p2), .val (.int p3), .val (.int p4), .val (.int p5), .val (.int p6), .val (.int (3 : Int32)), .val (.int v1200), .unset, .unset, .unset, .unset, .unset, .unset, .unset, .unset, .unset, .unset, .unset, .unset, .unset, .unset, .unset, .unset] [(.int (p4 &&& (255 : Int32))), (.int (v1200 + (1 : Int32)))]))
    refine OEnds.st (fun _ k => XS.iadd X0.here hx rfl (hb hby at_23) rfl k) ?_
    show OEnds p.tables e below G (s₁.setTop (mkF m 24 #[.val (.int p1), .val (.int p2), .val (.int p3), .val (.int p4), .val (.int p5), .val (.int p6), .val (.int (3 : Int32)), .val (.int v1200), .unset, .unset, .unset, .unset, .unset, .unset, .unset, .unset, .unset, .unset, .unset, .unset, .unset, .unset, .unset, .unset] [(.int ((v1200 + (1 : Int32)) + (p4 &&& (255 : Int32))))]))
    refine OEnds.st (fun _ k => XS.istore X0.here hx rfl (hb hby at_24) rfl (l' := #[.val (.int p1), .val (.int p2), .val (.int p3), .val (.int p4), .val (.int p5), .val (.int p6), .val (.int (3 : Int32)), .val (.int v1200), .val (.int ((v1200 + (1 : Int32)) + (p4 &&& (255 : Int32)))), .unset, .unset, .unset, .unset, .unset, .unset, .unset, .unset, .unset, .unset, .unset, .unset, .unset, .unset, .unset]) rfl k) ?_
    show OEnds p.tables e below G (s₁.setTop (mkF m 26 #[.val (.int p1), .val (.int p2), .val (.int p3), .val (.int p4), .val (.int p5), .val (.int p6), .val (.int (3 : Int32)), .val (.int v1200), .val (.int ((v1200 + (1 : Int32)) + (p4 &&& (255 : Int32)))), .unset, .unset, .unset, .unset, .unset, .unset, .unset, .unset, .unset, .unset, .unset, .unset, .unset, .unset, .unset] []))
    generalize hv_v1201 : ((v1200 + (1 : Int32)) + (p4 &&& (255 : Int32))) = v1201
    show OEnds p.tables e below G (s₁.setTop (mkF m 26 #[.val (.int p1), .val (.int p2), .val (.int p3), .val (.int p4), .val (.int p5), .val (.int p6), .val (.int (3 : Int32)), .val (.int v1200), .val (.int v1201), .unset, .unset, .unset, .unset, .unset, .unset, .unset, .unset, .unset, .unset, .unset, .unset, .unset, .unset, .unset] []))
    refine OEnds.st (fun _ k => XS.iload X0.here hx rfl (hb hby at_26) rfl k) ?_
    show OEnds p.tables e below G (s₁.setTop (mkF m 28 #[.val (.int p1), .val (.int p2), .val (.int p3), .val (.int p4), .val (.int p5), .val (.int p6), .val (.int (3 : Int32)), .val (.int v1200), .val (.int v1201), .unset, .unset, .unset, .unset, .unset, .unset, .unset, .unset, .unset, .unset, .unset, .unset, .unset, .unset, .unset] [(.int v1201)]))
    refine OEnds.st (fun _ k => XS.iconst X0.here hx rfl (hb hby at_28) k) ?_
    show OEnds p.tables e below G (s₁.setTop (mkF m 29 #[.val (.int p1), .val (.int p2), .val (.int p3), .val (.int p4), .val (.int p5), .val (.int p6), .val (.int (3 : Int32)), .val (.int v1200), .val (.int v1201), .unset, .unset, .unset, .unset, .unset, .unset, .unset, .unset, .unset, .unset, .unset, .unset, .unset, .unset, .unset] [(.int (1 : Int32)), (.int v1201)]))
    refine OEnds.st (fun _ k => XS.iadd X0.here hx rfl (hb hby at_29) rfl k) ?_
    show OEnds p.tables e below G (s₁.setTop (mkF m 30 #[.val (.int p1), .val (.int p2), .val (.int p3), .val (.int p4), .val (.int p5), .val (.int p6), .val (.int (3 : Int32)), .val (.int v1200), .val (.int v1201), .unset, .unset, .unset, .unset, .unset, .unset, .unset, .unset, .unset, .unset, .unset, .unset, .unset, .unset, .unset] [(.int (v1201 + (1 : Int32)))]))
    refine OEnds.st (fun _ k => XS.iload X0.here hx rfl (hb hby at_30) rfl k) ?_
    show OEnds p.tables e below G (s₁.setTop (mkF m 32 #[.val (.int p1), .val (.int p2), .val (.int p3), .val (.int p4), .val (.int p5), .val (.int p6), .val (.int (3 : Int32)), .val (.int v1200), .val (.int v1201), .unset, .unset, .unset, .unset, .unset, .unset, .unset, .unset, .unset, .unset, .unset, .unset, .unset, .unset, .unset] [(.int p5), (.int (v1201 + (1 : Int32)))]))
    refine OEnds.st (fun _ k => XS.sipush X0.here hx rfl (hb hby at_32) k) ?_
    show OEnds p.tables e below G (s₁.setTop (mkF m 35 #[.val (.int p1), .val (.int p2), .val (.int p3), .val (.int p4), .val (.int p5), .val (.int p6), .val (.int (3 : Int32)), .val (.int v1200), .val (.int v1201), .unset, .unset, .unset, .unset, .unset, .unset, .unset, .unset, .unset, .unset, .unset, .unset, .unset, .unset, .unset] [(.int (255 : Int32)), (.int p5), (.int (v1201 + (1 : Int32)))]))
    refine OEnds.st (fun _ k => XS.iand X0.here hx rfl (hb hby at_35) rfl k) ?_
    show OEnds p.tables e below G (s₁.setTop (mkF m 36 #[.val (.int p1), .val (.int p2), .val (.int p3), .val (.int p4), .val (.int p5), .val (.int p6), .val (.int (3 : Int32)), .val (.int v1200), .val (.int v1201), .unset, .unset, .unset, .unset, .unset, .unset, .unset, .unset, .unset, .unset, .unset, .unset, .unset, .unset, .unset] [(.int (p5 &&& (255 : Int32))), (.int (v1201 + (1 : Int32)))]))
    refine OEnds.st (fun _ k => XS.iadd X0.here hx rfl (hb hby at_36) rfl k) ?_
    show OEnds p.tables e below G (s₁.setTop (mkF m 37 #[.val (.int p1), .val (.int p2), .val (.int p3), .val (.int p4), .val (.int p5), .val (.int p6), .val (.int (3 : Int32)), .val (.int v1200), .val (.int v1201), .unset, .unset, .unset, .unset, .unset, .unset, .unset, .unset, .unset, .unset, .unset, .unset, .unset, .unset, .unset] [(.int ((v1201 + (1 : Int32)) + (p5 &&& (255 : Int32))))]))
    refine OEnds.st (fun _ k => XS.istore X0.here hx rfl (hb hby at_37) rfl (l' := #[.val (.int p1), .val (.int p2), .val (.int p3), .val (.int p4), .val (.int p5), .val (.int p6), .val (.int (3 : Int32)), .val (.int v1200), .val (.int v1201), .val (.int ((v1201 + (1 : Int32)) + (p5 &&& (255 : Int32)))), .unset, .unset, .unset, .unset, .unset, .unset, .unset, .unset, .unset, .unset, .unset, .unset, .unset, .unset]) rfl k) ?_
    show OEnds p.tables e below G (s₁.setTop (mkF m 39 #[.val (.int p1), .val (.int p2), .val (.int p3), .val (.int p4), .val (.int p5), .val (.int p6), .val (.int (3 : Int32)), .val (.int v1200), .val (.int v1201), .val (.int ((v1201 + (1 : Int32)) + (p5 &&& (255 : Int32)))), .unset, .unset, .unset, .unset, .unset, .unset, .unset, .unset, .unset, .unset, .unset, .unset, .unset, .unset] []))
    generalize hv_v1202 : ((v1201 + (1 : Int32)) + (p5 &&& (255 : Int32))) = v1202
    have hbd := own_bd hv_v1200 hv_v1201 hv_v1202
    show OEnds p.tables e below G (s₁.setTop (mkF m 39 #[.val (.int p1), .val (.int p2), .val (.int p3), .val (.int p4), .val (.int p5), .val (.int p6), .val (.int (3 : Int32)), .val (.int v1200), .val (.int v1201), .val (.int v1202), .unset, .unset, .unset, .unset, .unset, .unset, .unset, .unset, .unset, .unset, .unset, .unset, .unset, .unset] []))
    refine OEnds.st (fun _ k => XS.iload X0.here hx rfl (hb hby at_39) rfl k) ?_
    show OEnds p.tables e below G (s₁.setTop (mkF m 41 #[.val (.int p1), .val (.int p2), .val (.int p3), .val (.int p4), .val (.int p5), .val (.int p6), .val (.int (3 : Int32)), .val (.int v1200), .val (.int v1201), .val (.int v1202), .unset, .unset, .unset, .unset, .unset, .unset, .unset, .unset, .unset, .unset, .unset, .unset, .unset, .unset] [(.int (3 : Int32))]))
    refine OEnds.st (fun _ k => XS.ifYes X0.here hx rfl (pc0 := 41) (pc' := 48) rfl (hb hby at_41) rfl ((if0 _ _).trans (feq (by decide : ¬ ((3 : Int32) = (0 : Int32)))).2) (by decide) (by decide) k) ?_
    show OEnds p.tables e below G (s₁.setTop (mkF m 48 #[.val (.int p1), .val (.int p2), .val (.int p3), .val (.int p4), .val (.int p5), .val (.int p6), .val (.int (3 : Int32)), .val (.int v1200), .val (.int v1201), .val (.int v1202), .unset, .unset, .unset, .unset, .unset, .unset, .unset, .unset, .unset, .unset, .unset, .unset, .unset, .unset] []))
    refine OEnds.st (fun _ k => XS.iload X0.here hx rfl (hb hby at_48) rfl k) ?_
    show OEnds p.tables e below G (s₁.setTop (mkF m 50 #[.val (.int p1), .val (.int p2), .val (.int p3), .val (.int p4), .val (.int p5), .val (.int p6), .val (.int (3 : Int32)), .val (.int v1200), .val (.int v1201), .val (.int v1202), .unset, .unset, .unset, .unset, .unset, .unset, .unset, .unset, .unset, .unset, .unset, .unset, .unset, .unset] [(.int (3 : Int32))]))
    refine OEnds.st (fun _ k => XS.iconst X0.here hx rfl (hb hby at_50) k) ?_
    show OEnds p.tables e below G (s₁.setTop (mkF m 51 #[.val (.int p1), .val (.int p2), .val (.int p3), .val (.int p4), .val (.int p5), .val (.int p6), .val (.int (3 : Int32)), .val (.int v1200), .val (.int v1201), .val (.int v1202), .unset, .unset, .unset, .unset, .unset, .unset, .unset, .unset, .unset, .unset, .unset, .unset, .unset, .unset] [(.int (1 : Int32)), (.int (3 : Int32))]))
    refine OEnds.st (fun _ k => XS.icmpYes X0.here hx rfl (pc0 := 51) (pc' := 59) rfl (hb hby at_51) rfl (feq (by decide : ¬ ((3 : Int32) = (1 : Int32)))).2 (by decide) (by decide) k) ?_
    show OEnds p.tables e below G (s₁.setTop (mkF m 59 #[.val (.int p1), .val (.int p2), .val (.int p3), .val (.int p4), .val (.int p5), .val (.int p6), .val (.int (3 : Int32)), .val (.int v1200), .val (.int v1201), .val (.int v1202), .unset, .unset, .unset, .unset, .unset, .unset, .unset, .unset, .unset, .unset, .unset, .unset, .unset, .unset] []))
    refine OEnds.st (fun _ k => XS.iload X0.here hx rfl (hb hby at_59) rfl k) ?_
    show OEnds p.tables e below G (s₁.setTop (mkF m 61 #[.val (.int p1), .val (.int p2), .val (.int p3), .val (.int p4), .val (.int p5), .val (.int p6), .val (.int (3 : Int32)), .val (.int v1200), .val (.int v1201), .val (.int v1202), .unset, .unset, .unset, .unset, .unset, .unset, .unset, .unset, .unset, .unset, .unset, .unset, .unset, .unset] [(.int (3 : Int32))]))
    refine OEnds.st (fun _ k => XS.iconst X0.here hx rfl (hb hby at_61) k) ?_
    show OEnds p.tables e below G (s₁.setTop (mkF m 62 #[.val (.int p1), .val (.int p2), .val (.int p3), .val (.int p4), .val (.int p5), .val (.int p6), .val (.int (3 : Int32)), .val (.int v1200), .val (.int v1201), .val (.int v1202), .unset, .unset, .unset, .unset, .unset, .unset, .unset, .unset, .unset, .unset, .unset, .unset, .unset, .unset] [(.int (2 : Int32)), (.int (3 : Int32))]))
    refine OEnds.st (fun _ k => XS.icmpYes X0.here hx rfl (pc0 := 62) (pc' := 70) rfl (hb hby at_62) rfl (feq (by decide : ¬ ((3 : Int32) = (2 : Int32)))).2 (by decide) (by decide) k) ?_
    show OEnds p.tables e below G (s₁.setTop (mkF m 70 #[.val (.int p1), .val (.int p2), .val (.int p3), .val (.int p4), .val (.int p5), .val (.int p6), .val (.int (3 : Int32)), .val (.int v1200), .val (.int v1201), .val (.int v1202), .unset, .unset, .unset, .unset, .unset, .unset, .unset, .unset, .unset, .unset, .unset, .unset, .unset, .unset] []))
    refine OEnds.st (fun _ k => XS.iload X0.here hx rfl (hb hby at_70) rfl k) ?_
    show OEnds p.tables e below G (s₁.setTop (mkF m 72 #[.val (.int p1), .val (.int p2), .val (.int p3), .val (.int p4), .val (.int p5), .val (.int p6), .val (.int (3 : Int32)), .val (.int v1200), .val (.int v1201), .val (.int v1202), .unset, .unset, .unset, .unset, .unset, .unset, .unset, .unset, .unset, .unset, .unset, .unset, .unset, .unset] [(.int v1202)]))
    refine OEnds.st (fun _ k => XS.istore X0.here hx rfl (hb hby at_72) rfl (l' := #[.val (.int p1), .val (.int p2), .val (.int p3), .val (.int p4), .val (.int p5), .val (.int p6), .val (.int (3 : Int32)), .val (.int v1200), .val (.int v1201), .val (.int v1202), .val (.int v1202), .unset, .unset, .unset, .unset, .unset, .unset, .unset, .unset, .unset, .unset, .unset, .unset, .unset]) rfl k) ?_
    show OEnds p.tables e below G (s₁.setTop (mkF m 74 #[.val (.int p1), .val (.int p2), .val (.int p3), .val (.int p4), .val (.int p5), .val (.int p6), .val (.int (3 : Int32)), .val (.int v1200), .val (.int v1201), .val (.int v1202), .val (.int v1202), .unset, .unset, .unset, .unset, .unset, .unset, .unset, .unset, .unset, .unset, .unset, .unset, .unset] []))
    refine OEnds.st (fun _ k => XS.iconst X0.here hx rfl (hb hby at_74) k) ?_
    show OEnds p.tables e below G (s₁.setTop (mkF m 75 #[.val (.int p1), .val (.int p2), .val (.int p3), .val (.int p4), .val (.int p5), .val (.int p6), .val (.int (3 : Int32)), .val (.int v1200), .val (.int v1201), .val (.int v1202), .val (.int v1202), .unset, .unset, .unset, .unset, .unset, .unset, .unset, .unset, .unset, .unset, .unset, .unset, .unset] [(.int (1 : Int32))]))
    refine OEnds.st (fun _ k => XS.iload X0.here hx rfl (hb hby at_75) rfl k) ?_
    show OEnds p.tables e below G (s₁.setTop (mkF m 77 #[.val (.int p1), .val (.int p2), .val (.int p3), .val (.int p4), .val (.int p5), .val (.int p6), .val (.int (3 : Int32)), .val (.int v1200), .val (.int v1201), .val (.int v1202), .val (.int v1202), .unset, .unset, .unset, .unset, .unset, .unset, .unset, .unset, .unset, .unset, .unset, .unset, .unset] [(.int v1202), (.int (1 : Int32))]))
    refine OEnds.st (fun _ k => XS.iload X0.here hx rfl (hb hby at_77) rfl k) ?_
    show OEnds p.tables e below G (s₁.setTop (mkF m 79 #[.val (.int p1), .val (.int p2), .val (.int p3), .val (.int p4), .val (.int p5), .val (.int p6), .val (.int (3 : Int32)), .val (.int v1200), .val (.int v1201), .val (.int v1202), .val (.int v1202), .unset, .unset, .unset, .unset, .unset, .unset, .unset, .unset, .unset, .unset, .unset, .unset, .unset] [(.int p6), (.int v1202), (.int (1 : Int32))]))
    refine OEnds.st (X0.ldcInt hx hown (mvT hZ (hw _ (List.mem_of_getElem? (i := 0) rfl))) (g := (mkF m 79 #[.val (.int p1), .val (.int p2), .val (.int p3), .val (.int p4), .val (.int p5), .val (.int p6), .val (.int (3 : Int32)), .val (.int v1200), .val (.int v1201), .val (.int v1202), .val (.int v1202), .unset, .unset, .unset, .unset, .unset, .unset, .unset, .unset, .unset, .unset, .unset, .unset, .unset] [(.int p6), (.int v1202), (.int (1 : Int32))])) rfl (hb hby at_79)) ?_
    show OEnds p.tables e below G (s₁.setTop (mkF m 81 #[.val (.int p1), .val (.int p2), .val (.int p3), .val (.int p4), .val (.int p5), .val (.int p6), .val (.int (3 : Int32)), .val (.int v1200), .val (.int v1201), .val (.int v1202), .val (.int v1202), .unset, .unset, .unset, .unset, .unset, .unset, .unset, .unset, .unset, .unset, .unset, .unset, .unset] [(.int (65535 : Int32)), (.int p6), (.int v1202), (.int (1 : Int32))]))
    refine OEnds.st (fun _ k => XS.iand X0.here hx rfl (hb hby at_81) rfl k) ?_
    show OEnds p.tables e below G (s₁.setTop (mkF m 82 #[.val (.int p1), .val (.int p2), .val (.int p3), .val (.int p4), .val (.int p5), .val (.int p6), .val (.int (3 : Int32)), .val (.int v1200), .val (.int v1201), .val (.int v1202), .val (.int v1202), .unset, .unset, .unset, .unset, .unset, .unset, .unset, .unset, .unset, .unset, .unset, .unset, .unset] [(.int (p6 &&& (65535 : Int32))), (.int v1202), (.int (1 : Int32))]))
    refine OEnds.st (fun _ k => XS.iadd X0.here hx rfl (hb hby at_82) rfl k) ?_
    show OEnds p.tables e below G (s₁.setTop (mkF m 83 #[.val (.int p1), .val (.int p2), .val (.int p3), .val (.int p4), .val (.int p5), .val (.int p6), .val (.int (3 : Int32)), .val (.int v1200), .val (.int v1201), .val (.int v1202), .val (.int v1202), .unset, .unset, .unset, .unset, .unset, .unset, .unset, .unset, .unset, .unset, .unset, .unset, .unset] [(.int (v1202 + (p6 &&& (65535 : Int32)))), (.int (1 : Int32))]))
    obtain ⟨_, _, ⟨T1203, L1203, k1203c, n1203c⟩, -, X1203, ⟨Lc1203, hQ1203, l1203, y1203, z1203⟩, st1203⟩ := Jvm.LawKit.callS X0 hx (y := (⟨"java/lang/Math", "max", "(II)I"⟩ : MethodName)) hown (mvT hZ (hw _ (List.mem_of_getElem? (i := 1) rfl))) (mvT hZ (hw _ (List.mem_of_getElem? (i := 2) rfl))) (mvT hZ (hw _ (List.mem_of_getElem? (i := 3) rfl))) (mvT hZ (hw _ (List.mem_of_getElem? (i := 4) rfl))) (by decide) (backOf (W := 0) (rm1 l Z a0 hw [] (1 : Int32) (v1202 + (p6 &&& (65535 : Int32))) h0 n0 Z0 ) hZ (hw _ (List.mem_of_getElem? (i := 4) rfl)) (hw _ (List.mem_of_getElem? (i := 3) rfl)) (by decide) (by decide)) (g := (mkF m 83 #[.val (.int p1), .val (.int p2), .val (.int p3), .val (.int p4), .val (.int p5), .val (.int p6), .val (.int (3 : Int32)), .val (.int v1200), .val (.int v1201), .val (.int v1202), .val (.int v1202), .unset, .unset, .unset, .unset, .unset, .unset, .unset, .unset, .unset, .unset, .unset, .unset, .unset] [(.int (v1202 + (p6 &&& (65535 : Int32)))), (.int (1 : Int32))])) rfl (by rw [hml]; rfl) (argsL := [(.int (1 : Int32)), (.int (v1202 + (p6 &&& (65535 : Int32))))]) (rest := []) (lenOf pd_1 rfl) rfl (by show 2 * 0 + _ ≤ _; exact Nat.le_of_eq rfl) (hb hby at_83) (fun _ _ => ⟨rfl, e0, (by decide : 0 + 0 ≤ _), (by decide : 0 + 0 ≤ _)⟩)
    dsimp only [Pt.U, Pt.locs, Pt.cells, Pt.slots] at X1203 l1203 y1203 z1203 st1203 hQ1203
    subst l1203 y1203 z1203
    obtain ⟨rfl, N1203q, e1203⟩ := hQ1203
    have N1203 := Fr.app N0 N1203q
    refine OEnds.st st1203 ?_
    clear st1203
    show OEnds p.tables e below G (T1203.setTop (mkF m 86 #[.val (.int p1), .val (.int p2), .val (.int p3), .val (.int p4), .val (.int p5), .val (.int p6), .val (.int (3 : Int32)), .val (.int v1200), .val (.int v1201), .val (.int v1202), .val (.int v1202), .unset, .unset, .unset, .unset, .unset, .unset, .unset, .unset, .unset, .unset, .unset, .unset, .unset] [(.int (own_mx (1 : Int32) (v1202 + (p6 &&& (65535 : Int32)))))]))
    refine OEnds.st (fun _ k => XS.istore X1203.here hx rfl (hb hby at_86) rfl (l' := #[.val (.int p1), .val (.int p2), .val (.int p3), .val (.int p4), .val (.int p5), .val (.int p6), .val (.int (3 : Int32)), .val (.int v1200), .val (.int v1201), .val (.int v1202), .val (.int v1202), .val (.int (own_mx (1 : Int32) (v1202 + (p6 &&& (65535 : Int32))))), .unset, .unset, .unset, .unset, .unset, .unset, .unset, .unset, .unset, .unset, .unset, .unset]) rfl k) ?_
    show OEnds p.tables e below G (T1203.setTop (mkF m 88 #[.val (.int p1), .val (.int p2), .val (.int p3), .val (.int p4), .val (.int p5), .val (.int p6), .val (.int (3 : Int32)), .val (.int v1200), .val (.int v1201), .val (.int v1202), .val (.int v1202), .val (.int (own_mx (1 : Int32) (v1202 + (p6 &&& (65535 : Int32))))), .unset, .unset, .unset, .unset, .unset, .unset, .unset, .unset, .unset, .unset, .unset, .unset] []))
    generalize hv_v1204 : (own_mx (1 : Int32) (v1202 + (p6 &&& (65535 : Int32)))) = v1204
    have hk1 : ¬ (v1204 < v1200) := own_ret (by omega) hv_v1204 (by omega)
    have hk2 : ¬ (v1204 < v1201) := own_ret (by omega) hv_v1204 (by omega)
    have hk3 : ¬ (v1204 < v1202) := own_ret (by omega) hv_v1204 (by omega)
    show OEnds p.tables e below G (T1203.setTop (mkF m 88 #[.val (.int p1), .val (.int p2), .val (.int p3), .val (.int p4), .val (.int p5), .val (.int p6), .val (.int (3 : Int32)), .val (.int v1200), .val (.int v1201), .val (.int v1202), .val (.int v1202), .val (.int v1204), .unset, .unset, .unset, .unset, .unset, .unset, .unset, .unset, .unset, .unset, .unset, .unset] []))
    refine OEnds.st (fun _ k => XS.iload X1203.here hx rfl (hb hby at_88) rfl k) ?_
    show OEnds p.tables e below G (T1203.setTop (mkF m 90 #[.val (.int p1), .val (.int p2), .val (.int p3), .val (.int p4), .val (.int p5), .val (.int p6), .val (.int (3 : Int32)), .val (.int v1200), .val (.int v1201), .val (.int v1202), .val (.int v1202), .val (.int v1204), .unset, .unset, .unset, .unset, .unset, .unset, .unset, .unset, .unset, .unset, .unset, .unset] [(.int (3 : Int32))]))
    refine OEnds.st (fun _ k => XS.iloadN X1203.here hx rfl (hb hby at_90) rfl k) ?_
    show OEnds p.tables e below G (T1203.setTop (mkF m 91 #[.val (.int p1), .val (.int p2), .val (.int p3), .val (.int p4), .val (.int p5), .val (.int p6), .val (.int (3 : Int32)), .val (.int v1200), .val (.int v1201), .val (.int v1202), .val (.int v1202), .val (.int v1204), .unset, .unset, .unset, .unset, .unset, .unset, .unset, .unset, .unset, .unset, .unset, .unset] [(.int p2), (.int (3 : Int32))]))
    refine OEnds.st (X1203.ldcInt hx hown (mvT hZ (hw _ (List.mem_of_getElem? (i := 5) rfl))) (g := (mkF m 91 #[.val (.int p1), .val (.int p2), .val (.int p3), .val (.int p4), .val (.int p5), .val (.int p6), .val (.int (3 : Int32)), .val (.int v1200), .val (.int v1201), .val (.int v1202), .val (.int v1202), .val (.int v1204), .unset, .unset, .unset, .unset, .unset, .unset, .unset, .unset, .unset, .unset, .unset, .unset] [(.int p2), (.int (3 : Int32))])) rfl (hb hby at_91)) ?_
    show OEnds p.tables e below G (T1203.setTop (mkF m 93 #[.val (.int p1), .val (.int p2), .val (.int p3), .val (.int p4), .val (.int p5), .val (.int p6), .val (.int (3 : Int32)), .val (.int v1200), .val (.int v1201), .val (.int v1202), .val (.int v1202), .val (.int v1204), .unset, .unset, .unset, .unset, .unset, .unset, .unset, .unset, .unset, .unset, .unset, .unset] [(.int (2147483647 : Int32)), (.int p2), (.int (3 : Int32))]))
    refine OEnds.st (fun _ k => XS.iand X1203.here hx rfl (hb hby at_93) rfl k) ?_
    show OEnds p.tables e below G (T1203.setTop (mkF m 94 #[.val (.int p1), .val (.int p2), .val (.int p3), .val (.int p4), .val (.int p5), .val (.int p6), .val (.int (3 : Int32)), .val (.int v1200), .val (.int v1201), .val (.int v1202), .val (.int v1202), .val (.int v1204), .unset, .unset, .unset, .unset, .unset, .unset, .unset, .unset, .unset, .unset, .unset, .unset] [(.int (p2 &&& (2147483647 : Int32))), (.int (3 : Int32))]))
    obtain ⟨_, _, ⟨T1205, L1205, k1205c, n1205c⟩, -, X1205, ⟨Lc1205, hQ1205, l1205, y1205, z1205⟩, st1205⟩ := Jvm.LawKit.callS X1203 hx (y := (⟨"java/lang/Math", "max", "(II)I"⟩ : MethodName)) hown (mvT hZ (hw _ (List.mem_of_getElem? (i := 1) rfl))) (mvT hZ (hw _ (List.mem_of_getElem? (i := 2) rfl))) (mvT hZ (hw _ (List.mem_of_getElem? (i := 3) rfl))) (mvT hZ (hw _ (List.mem_of_getElem? (i := 4) rfl))) (by decide) (backOf (W := 0) (rm1 l Z a0 hw [] (3 : Int32) (p2 &&& (2147483647 : Int32)) h0 n0 Z0 ) hZ (hw _ (List.mem_of_getElem? (i := 4) rfl)) (hw _ (List.mem_of_getElem? (i := 3) rfl)) (by decide) (by decide)) (g := (mkF m 94 #[.val (.int p1), .val (.int p2), .val (.int p3), .val (.int p4), .val (.int p5), .val (.int p6), .val (.int (3 : Int32)), .val (.int v1200), .val (.int v1201), .val (.int v1202), .val (.int v1202), .val (.int v1204), .unset, .unset, .unset, .unset, .unset, .unset, .unset, .unset, .unset, .unset, .unset, .unset] [(.int (p2 &&& (2147483647 : Int32))), (.int (3 : Int32))])) rfl (by rw [hml]; rfl) (argsL := [(.int (3 : Int32)), (.int (p2 &&& (2147483647 : Int32)))]) (rest := []) (lenOf pd_1 rfl) rfl (by show 2 * 0 + _ ≤ _; exact Nat.le_of_eq rfl) (hb hby at_94) (fun _ _ => ⟨rfl, e1203, (by decide : 0 + 0 + 0 ≤ _), (by decide : 0 + 0 + 0 ≤ _)⟩)
    dsimp only [Pt.U, Pt.locs, Pt.cells, Pt.slots] at X1205 l1205 y1205 z1205 st1205 hQ1205
    subst l1205 y1205 z1205
    obtain ⟨rfl, N1205q, e1205⟩ := hQ1205
    have N1205 := Fr.app N1203 N1205q
    refine OEnds.st st1205 ?_
    clear st1205
    show OEnds p.tables e below G (T1205.setTop (mkF m 97 #[.val (.int p1), .val (.int p2), .val (.int p3), .val (.int p4), .val (.int p5), .val (.int p6), .val (.int (3 : Int32)), .val (.int v1200), .val (.int v1201), .val (.int v1202), .val (.int v1202), .val (.int v1204), .unset, .unset, .unset, .unset, .unset, .unset, .unset, .unset, .unset, .unset, .unset, .unset] [(.int (own_mx (3 : Int32) (p2 &&& (2147483647 : Int32))))]))
    refine OEnds.st (fun _ k => XS.istore X1205.here hx rfl (hb hby at_97) rfl (l' := #[.val (.int p1), .val (.int p2), .val (.int p3), .val (.int p4), .val (.int p5), .val (.int p6), .val (.int (3 : Int32)), .val (.int v1200), .val (.int v1201), .val (.int v1202), .val (.int v1202), .val (.int v1204), .val (.int (own_mx (3 : Int32) (p2 &&& (2147483647 : Int32)))), .unset, .unset, .unset, .unset, .unset, .unset, .unset, .unset, .unset, .unset, .unset]) rfl k) ?_
    show OEnds p.tables e below G (T1205.setTop (mkF m 99 #[.val (.int p1), .val (.int p2), .val (.int p3), .val (.int p4), .val (.int p5), .val (.int p6), .val (.int (3 : Int32)), .val (.int v1200), .val (.int v1201), .val (.int v1202), .val (.int v1202), .val (.int v1204), .val (.int (own_mx (3 : Int32) (p2 &&& (2147483647 : Int32)))), .unset, .unset, .unset, .unset, .unset, .unset, .unset, .unset, .unset, .unset, .unset] []))
    generalize hv_v1206 : (own_mx (3 : Int32) (p2 &&& (2147483647 : Int32))) = v1206
    have hrel : ((3 : Nat) : Int) ≤ v1206.toInt := by
      have q := (own_mxge (3 : Int32) (p2 &&& (2147483647 : Int32))).1
      rw [hv_v1206] at q
      have kn : (3 : Int32).toInt = 3 := by decide
      omega
    have hr0 : ¬ v1206 = (0 : Int32) := fun q => by
      have k0 : (0 : Int32).toInt = 0 := by decide
      rw [q] at hrel
      omega
    have rest115_1207 : ∀ (r2 : Int32) (hR2 : (v1206 = (2147483647 : Int32)) ∨ (¬ v1206 = (2147483647 : Int32) ∧ r2.toInt = v1206.toInt + 1)), OEnds p.tables e below G (T1205.setTop (mkF m 115 #[.val (.int p1), .val (.int p2), .val (.int p3), .val (.int p4), .val (.int p5), .val (.int p6), .val (.int (3 : Int32)), .val (.int v1200), .val (.int v1201), .val (.int v1202), .val (.int v1202), .val (.int v1204), .val (.int v1206), .unset, .unset, .unset, .unset, .unset, .unset, .unset, .unset, .unset, .unset, .unset] [(.int r2)])) := by
      intro r2 hR2
      show OEnds p.tables e below G (T1205.setTop (mkF m 115 #[.val (.int p1), .val (.int p2), .val (.int p3), .val (.int p4), .val (.int p5), .val (.int p6), .val (.int (3 : Int32)), .val (.int v1200), .val (.int v1201), .val (.int v1202), .val (.int v1202), .val (.int v1204), .val (.int v1206), .unset, .unset, .unset, .unset, .unset, .unset, .unset, .unset, .unset, .unset, .unset] [(.int r2)]))
      refine OEnds.st (fun _ k => XS.istore X1205.here hx rfl (hb hby at_115) rfl (l' := #[.val (.int p1), .val (.int p2), .val (.int p3), .val (.int p4), .val (.int p5), .val (.int p6), .val (.int (3 : Int32)), .val (.int v1200), .val (.int v1201), .val (.int v1202), .val (.int v1202), .val (.int v1204), .val (.int v1206), .val (.int r2), .unset, .unset, .unset, .unset, .unset, .unset, .unset, .unset, .unset, .unset]) rfl k) ?_
      show OEnds p.tables e below G (T1205.setTop (mkF m 117 #[.val (.int p1), .val (.int p2), .val (.int p3), .val (.int p4), .val (.int p5), .val (.int p6), .val (.int (3 : Int32)), .val (.int v1200), .val (.int v1201), .val (.int v1202), .val (.int v1202), .val (.int v1204), .val (.int v1206), .val (.int r2), .unset, .unset, .unset, .unset, .unset, .unset, .unset, .unset, .unset, .unset] []))
      refine OEnds.st (fun _ k => XS.iload X1205.here hx rfl (hb hby at_117) rfl k) ?_
      show OEnds p.tables e below G (T1205.setTop (mkF m 119 #[.val (.int p1), .val (.int p2), .val (.int p3), .val (.int p4), .val (.int p5), .val (.int p6), .val (.int (3 : Int32)), .val (.int v1200), .val (.int v1201), .val (.int v1202), .val (.int v1202), .val (.int v1204), .val (.int v1206), .val (.int r2), .unset, .unset, .unset, .unset, .unset, .unset, .unset, .unset, .unset, .unset] [(.int (3 : Int32))]))
      refine OEnds.st (fun _ k => XS.iload X1205.here hx rfl (hb hby at_119) rfl k) ?_
      show OEnds p.tables e below G (T1205.setTop (mkF m 121 #[.val (.int p1), .val (.int p2), .val (.int p3), .val (.int p4), .val (.int p5), .val (.int p6), .val (.int (3 : Int32)), .val (.int v1200), .val (.int v1201), .val (.int v1202), .val (.int v1202), .val (.int v1204), .val (.int v1206), .val (.int r2), .unset, .unset, .unset, .unset, .unset, .unset, .unset, .unset, .unset, .unset] [(.int v1200), (.int (3 : Int32))]))
      refine OEnds.st (fun _ k => XS.iload X1205.here hx rfl (hb hby at_121) rfl k) ?_
      show OEnds p.tables e below G (T1205.setTop (mkF m 123 #[.val (.int p1), .val (.int p2), .val (.int p3), .val (.int p4), .val (.int p5), .val (.int p6), .val (.int (3 : Int32)), .val (.int v1200), .val (.int v1201), .val (.int v1202), .val (.int v1202), .val (.int v1204), .val (.int v1206), .val (.int r2), .unset, .unset, .unset, .unset, .unset, .unset, .unset, .unset, .unset, .unset] [(.int v1201), (.int v1200), (.int (3 : Int32))]))
      refine OEnds.st (fun _ k => XS.iload X1205.here hx rfl (hb hby at_123) rfl k) ?_
      show OEnds p.tables e below G (T1205.setTop (mkF m 125 #[.val (.int p1), .val (.int p2), .val (.int p3), .val (.int p4), .val (.int p5), .val (.int p6), .val (.int (3 : Int32)), .val (.int v1200), .val (.int v1201), .val (.int v1202), .val (.int v1202), .val (.int v1204), .val (.int v1206), .val (.int r2), .unset, .unset, .unset, .unset, .unset, .unset, .unset, .unset, .unset, .unset] [(.int v1202), (.int v1201), (.int v1200), (.int (3 : Int32))]))
      obtain ⟨_, _, ⟨T1208, L1208, k1208c, n1208c⟩, -, X1208, ⟨Lc1208, hQ1208, l1208, y1208, z1208⟩, st1208⟩ := Jvm.LawKit.callS X1205 hx (y := (⟨"com/example/words_to_weights/wordstoweights/evaluation/JudgedRankingSetRecallPinLaw", "ranks", "(IIII)[I"⟩ : MethodName)) hown (mvT hZ (hw _ (List.mem_of_getElem? (i := 6) rfl))) (mvT hZ (hw _ (List.mem_of_getElem? (i := 7) rfl))) (mvT hZ (hw _ (List.mem_of_getElem? (i := 8) rfl))) (mvT hZ (hw _ (List.mem_of_getElem? (i := 9) rfl))) (by decide) (backOf (W := 0) (rmrk3 l Z a0 hw [] v1200 v1201 v1202 h0 n0 Z0 ) hZ (hw _ (List.mem_of_getElem? (i := 9) rfl)) (hw _ (List.mem_of_getElem? (i := 8) rfl)) (by decide) (by decide)) (g := (mkF m 125 #[.val (.int p1), .val (.int p2), .val (.int p3), .val (.int p4), .val (.int p5), .val (.int p6), .val (.int (3 : Int32)), .val (.int v1200), .val (.int v1201), .val (.int v1202), .val (.int v1202), .val (.int v1204), .val (.int v1206), .val (.int r2), .unset, .unset, .unset, .unset, .unset, .unset, .unset, .unset, .unset, .unset] [(.int v1202), (.int v1201), (.int v1200), (.int (3 : Int32))])) rfl (by rw [hml]; rfl) (argsL := [(.int (3 : Int32)), (.int v1200), (.int v1201), (.int v1202)]) (rest := []) (lenOf pd_2 rfl) rfl (by show 2 * 0 + _ ≤ _; exact Nat.le_of_eq rfl) (hb hby at_125) (fun _ _ => ⟨rfl, e1205, (by decide : 0 + 0 + 0 + 1 ≤ _), (by decide : 0 + 0 + 0 + 3 ≤ _)⟩)
      dsimp only [Pt.U, Pt.locs, Pt.cells, Pt.slots] at X1208 l1208 y1208 z1208 st1208 hQ1208
      subst l1208 y1208 z1208
      obtain ⟨b_1208, kb_1208, rfl, N1208q, p1209, p1210, p1211⟩ := hQ1208
      have N1208 := Fr.app N1205 N1208q
      refine OEnds.st st1208 ?_
      clear st1208
      have sz_b_1208 : h0.size ≤ b_1208 := Nat.le_trans KK0.1 p1210
      have ge_b_1208 : n0 ≤ b_1208 := Nat.le_trans Z0 p1210
      have KK1208 : Keep h0 T1208.heap [] := KK0.trans p1209 (fun x hx => absurd hx List.not_mem_nil)
      have Z1208 := Nat.le_trans Z0 p1209.1
      show OEnds p.tables e below G (T1208.setTop (mkF m 128 #[.val (.int p1), .val (.int p2), .val (.int p3), .val (.int p4), .val (.int p5), .val (.int p6), .val (.int (3 : Int32)), .val (.int v1200), .val (.int v1201), .val (.int v1202), .val (.int v1202), .val (.int v1204), .val (.int v1206), .val (.int r2), .unset, .unset, .unset, .unset, .unset, .unset, .unset, .unset, .unset, .unset] [(.ref b_1208)]))
      refine OEnds.st (fun _ k => XS.astore X1208.here hx rfl (hb hby at_128) rfl rfl (l' := #[.val (.int p1), .val (.int p2), .val (.int p3), .val (.int p4), .val (.int p5), .val (.int p6), .val (.int (3 : Int32)), .val (.int v1200), .val (.int v1201), .val (.int v1202), .val (.int v1202), .val (.int v1204), .val (.int v1206), .val (.int r2), .val (.ref b_1208), .unset, .unset, .unset, .unset, .unset, .unset, .unset, .unset, .unset]) rfl k) ?_
      show OEnds p.tables e below G (T1208.setTop (mkF m 130 #[.val (.int p1), .val (.int p2), .val (.int p3), .val (.int p4), .val (.int p5), .val (.int p6), .val (.int (3 : Int32)), .val (.int v1200), .val (.int v1201), .val (.int v1202), .val (.int v1202), .val (.int v1204), .val (.int v1206), .val (.int r2), .val (.ref b_1208), .unset, .unset, .unset, .unset, .unset, .unset, .unset, .unset, .unset] []))
      obtain ⟨T1212, h1212, X1212, e1212, E1212, A1212, D1212, -, st1212⟩ := newO X1208 hx hZ hown (hw _ (List.mem_of_getElem? (i := 11) rfl)) (hw _ (List.mem_of_getElem? (i := 12) rfl)) (hw _ (List.mem_of_getElem? (i := 13) rfl)) rfl (g := (mkF m 130 #[.val (.int p1), .val (.int p2), .val (.int p3), .val (.int p4), .val (.int p5), .val (.int p6), .val (.int (3 : Int32)), .val (.int v1200), .val (.int v1201), .val (.int v1202), .val (.int v1202), .val (.int v1204), .val (.int v1206), .val (.int r2), .val (.ref b_1208), .unset, .unset, .unset, .unset, .unset, .unset, .unset, .unset, .unset] [])) rfl (hb hby at_130) (by decide) (by decide)
      obtain ⟨b1212, g1212⟩ : ∃ z, z = T1208.heap.size := ⟨_, rfl⟩
      rw [← g1212] at A1212 D1212 st1212
      refine OEnds.st st1212 ?_
      clear st1212
      have ne1213 : b_1208 ≠ b1212 := Nat.ne_of_lt (Nat.lt_of_lt_of_le (p1211).lt (Nat.le_of_eq g1212.symm))
      have ge_b1212 : n0 ≤ b1212 := Nat.le_trans Z1208 (Nat.le_of_eq g1212.symm)
      have sz_b1212 : h0.size ≤ b1212 := Nat.le_trans KK1208.1 (Nat.le_of_eq g1212.symm)
      have f1214 : Arv Z h1212 b_1208 kb_1208 .int (3 : Int32) [(.int v1200), (.int v1201), (.int v1202)] (.int (0 : Int32)) := p1211.ext E1212
      have KK1212 : Keep h0 h1212 [] := KK1208.ext E1212
      have Z1212 := Nat.le_trans Z1208 E1212.1
      have ex_b1212 := A1212
      have f1215 : Fld Z h1212 b1212 "com/example/words_to_weights/wordstoweights/evaluation/JudgedRanking" "retrieved" "I" (.int (0 : Int32)) := D1212 (Or.inr (hw _ (List.mem_of_getElem? (i := 21) rfl))) (ty := .int) (by decide)
      have f1216 : Fld Z h1212 b1212 "com/example/words_to_weights/wordstoweights/evaluation/JudgedRanking" "relevant" "I" (.int (0 : Int32)) := D1212 (Or.inr (hw _ (List.mem_of_getElem? (i := 23) rfl))) (ty := .int) (by decide)
      have f1217 : Fld Z h1212 b1212 "com/example/words_to_weights/wordstoweights/evaluation/JudgedRanking" "relevantRanks" "[I" .null := D1212 (Or.inr (hw _ (List.mem_of_getElem? (i := 25) rfl))) (ty := (.array .int)) (by decide)
      show OEnds p.tables e below G (T1212.setTop (mkF m 133 #[.val (.int p1), .val (.int p2), .val (.int p3), .val (.int p4), .val (.int p5), .val (.int p6), .val (.int (3 : Int32)), .val (.int v1200), .val (.int v1201), .val (.int v1202), .val (.int v1202), .val (.int v1204), .val (.int v1206), .val (.int r2), .val (.ref b_1208), .unset, .unset, .unset, .unset, .unset, .unset, .unset, .unset, .unset] [(.ref b1212)]))
      refine OEnds.st (fun _ k => XS.dup X1212.here hx rfl (hb hby at_133) rfl rfl k) ?_
      show OEnds p.tables e below G (T1212.setTop (mkF m 134 #[.val (.int p1), .val (.int p2), .val (.int p3), .val (.int p4), .val (.int p5), .val (.int p6), .val (.int (3 : Int32)), .val (.int v1200), .val (.int v1201), .val (.int v1202), .val (.int v1202), .val (.int v1204), .val (.int v1206), .val (.int r2), .val (.ref b_1208), .unset, .unset, .unset, .unset, .unset, .unset, .unset, .unset, .unset] [(.ref b1212), (.ref b1212)]))
      refine OEnds.st (fun _ k => XS.iload X1212.here hx rfl (hb hby at_134) rfl k) ?_
      show OEnds p.tables e below G (T1212.setTop (mkF m 136 #[.val (.int p1), .val (.int p2), .val (.int p3), .val (.int p4), .val (.int p5), .val (.int p6), .val (.int (3 : Int32)), .val (.int v1200), .val (.int v1201), .val (.int v1202), .val (.int v1202), .val (.int v1204), .val (.int v1206), .val (.int r2), .val (.ref b_1208), .unset, .unset, .unset, .unset, .unset, .unset, .unset, .unset, .unset] [(.int v1204), (.ref b1212), (.ref b1212)]))
      refine OEnds.st (fun _ k => XS.iload X1212.here hx rfl (hb hby at_136) rfl k) ?_
      show OEnds p.tables e below G (T1212.setTop (mkF m 138 #[.val (.int p1), .val (.int p2), .val (.int p3), .val (.int p4), .val (.int p5), .val (.int p6), .val (.int (3 : Int32)), .val (.int v1200), .val (.int v1201), .val (.int v1202), .val (.int v1202), .val (.int v1204), .val (.int v1206), .val (.int r2), .val (.ref b_1208), .unset, .unset, .unset, .unset, .unset, .unset, .unset, .unset, .unset] [(.int v1206), (.int v1204), (.ref b1212), (.ref b1212)]))
      refine OEnds.st (fun _ k => XS.aload X1212.here hx rfl (hb hby at_138) rfl rfl k) ?_
      show OEnds p.tables e below G (T1212.setTop (mkF m 140 #[.val (.int p1), .val (.int p2), .val (.int p3), .val (.int p4), .val (.int p5), .val (.int p6), .val (.int (3 : Int32)), .val (.int v1200), .val (.int v1201), .val (.int v1202), .val (.int v1202), .val (.int v1204), .val (.int v1206), .val (.int r2), .val (.ref b_1208), .unset, .unset, .unset, .unset, .unset, .unset, .unset, .unset, .unset] [(.ref b_1208), (.int v1206), (.int v1204), (.ref b1212), (.ref b1212)]))
      obtain ⟨_, _, ⟨T1218, L1218, k1218c, n1218c⟩, -, X1218, ⟨Lc1218, hQ1218, l1218, y1218, z1218⟩, st1218⟩ := X1212.specialBack hx (y := (⟨"com/example/words_to_weights/wordstoweights/evaluation/JudgedRanking", "<init>", "(II[I)V"⟩ : MethodName)) rfl hown (mvT hZ (hw _ (List.mem_of_getElem? (i := 14) rfl))) (mvT hZ (hw _ (List.mem_of_getElem? (i := 15) rfl))) (mvT hZ (hw _ (List.mem_of_getElem? (i := 16) rfl))) (by decide) (backOf (W := 1) (rm3 l Z a0 hw [] b1212 v1204 v1206 b_1208 h1212 n0 Z1212 ex_b1212 f1215 f1216 f1217 ge_b1212) hZ (hw _ (List.mem_of_getElem? (i := 16) rfl)) (hw _ (List.mem_of_getElem? (i := 13) rfl)) (by decide) (by decide)) (g := (mkF m 140 #[.val (.int p1), .val (.int p2), .val (.int p3), .val (.int p4), .val (.int p5), .val (.int p6), .val (.int (3 : Int32)), .val (.int v1200), .val (.int v1201), .val (.int v1202), .val (.int v1202), .val (.int v1204), .val (.int v1206), .val (.int r2), .val (.ref b_1208), .unset, .unset, .unset, .unset, .unset, .unset, .unset, .unset, .unset] [(.ref b_1208), (.int v1206), (.int v1204), (.ref b1212), (.ref b1212)])) rfl (by rw [hml]; rfl) (Steps.refl _) (a := b1212) (argsL := [(.int v1204), (.int v1206), (.ref b_1208)]) (rest := [(.ref b1212)]) (lenOf pd_3 rfl) rfl (by show 2 * 0 + _ ≤ _; exact Nat.le_of_eq rfl) (hb hby at_140) (fun _ _ => ⟨rfl, e1212, (by decide : 0 + 0 + 0 + 1 + 1 + 0 ≤ _), (by decide : 0 + 0 + 0 + 3 + 3 + 0 ≤ _)⟩)
      dsimp only [Pt.U, Pt.locs, Pt.cells, Pt.slots] at X1218 l1218 y1218 z1218 st1218 hQ1218
      subst l1218 y1218 z1218
      obtain ⟨rfl, N1218q, p1219, p1220, p1221, p1222⟩ := hQ1218
      have N1218 := Fr.app N1208 N1218q
      refine OEnds.st (fun _ k => st1218.trans k) ?_
      clear st1218
      have f1223 : Arv Z T1218.heap b_1208 kb_1208 .int (3 : Int32) [(.int v1200), (.int v1201), (.int v1202)] (.int (0 : Int32)) := f1214.keep p1219 (by simp only [List.mem_cons, List.not_mem_nil, or_false, not_or]; exact ne1213)
      have f1224 : Exa Z T1218.heap b1212 "com/example/words_to_weights/wordstoweights/evaluation/JudgedRanking" := ex_b1212.keep p1219
      have KK1218 : Keep h0 T1218.heap [] := KK1212.trans p1219 (fun x hx => by cases List.mem_singleton.mp hx; exact Or.inr sz_b1212)
      have Z1218 := Nat.le_trans Z1212 p1219.1
      show OEnds p.tables e below G (T1218.setTop (mkF m 143 #[.val (.int p1), .val (.int p2), .val (.int p3), .val (.int p4), .val (.int p5), .val (.int p6), .val (.int (3 : Int32)), .val (.int v1200), .val (.int v1201), .val (.int v1202), .val (.int v1202), .val (.int v1204), .val (.int v1206), .val (.int r2), .val (.ref b_1208), .unset, .unset, .unset, .unset, .unset, .unset, .unset, .unset, .unset] [(.ref b1212)]))
      refine OEnds.st (fun _ k => XS.astore X1218.here hx rfl (hb hby at_143) rfl rfl (l' := #[.val (.int p1), .val (.int p2), .val (.int p3), .val (.int p4), .val (.int p5), .val (.int p6), .val (.int (3 : Int32)), .val (.int v1200), .val (.int v1201), .val (.int v1202), .val (.int v1202), .val (.int v1204), .val (.int v1206), .val (.int r2), .val (.ref b_1208), .val (.ref b1212), .unset, .unset, .unset, .unset, .unset, .unset, .unset, .unset]) rfl k) ?_
      show OEnds p.tables e below G (T1218.setTop (mkF m 145 #[.val (.int p1), .val (.int p2), .val (.int p3), .val (.int p4), .val (.int p5), .val (.int p6), .val (.int (3 : Int32)), .val (.int v1200), .val (.int v1201), .val (.int v1202), .val (.int v1202), .val (.int v1204), .val (.int v1206), .val (.int r2), .val (.ref b_1208), .val (.ref b1212), .unset, .unset, .unset, .unset, .unset, .unset, .unset, .unset] []))
      obtain ⟨T1228, h1228, X1228, e1228, E1228, A1228, D1228, -, st1228⟩ := newO X1218 hx hZ hown (hw _ (List.mem_of_getElem? (i := 11) rfl)) (hw _ (List.mem_of_getElem? (i := 12) rfl)) (hw _ (List.mem_of_getElem? (i := 13) rfl)) rfl (g := (mkF m 145 #[.val (.int p1), .val (.int p2), .val (.int p3), .val (.int p4), .val (.int p5), .val (.int p6), .val (.int (3 : Int32)), .val (.int v1200), .val (.int v1201), .val (.int v1202), .val (.int v1202), .val (.int v1204), .val (.int v1206), .val (.int r2), .val (.ref b_1208), .val (.ref b1212), .unset, .unset, .unset, .unset, .unset, .unset, .unset, .unset] [])) rfl (hb hby at_145) (by decide) (by decide)
      obtain ⟨b1228, g1228⟩ : ∃ z, z = T1218.heap.size := ⟨_, rfl⟩
      rw [← g1228] at A1228 D1228 st1228
      refine OEnds.st st1228 ?_
      clear st1228
      have ne1229 : b_1208 ≠ b1228 := Nat.ne_of_lt (Nat.lt_of_lt_of_le (f1223).lt (Nat.le_of_eq g1228.symm))
      have ne1230 : b1212 ≠ b1228 := Nat.ne_of_lt (Nat.lt_of_lt_of_le (p1220).lt (Nat.le_of_eq g1228.symm))
      have ge_b1228 : n0 ≤ b1228 := Nat.le_trans Z1218 (Nat.le_of_eq g1228.symm)
      have sz_b1228 : h0.size ≤ b1228 := Nat.le_trans KK1218.1 (Nat.le_of_eq g1228.symm)
      have f1231 : Arv Z h1228 b_1208 kb_1208 .int (3 : Int32) [(.int v1200), (.int v1201), (.int v1202)] (.int (0 : Int32)) := f1223.ext E1228
      have f1232 : Exa Z h1228 b1212 "com/example/words_to_weights/wordstoweights/evaluation/JudgedRanking" := p1220.ext E1228
      have f1233 : Fld Z h1228 b1212 "com/example/words_to_weights/wordstoweights/evaluation/JudgedRanking" "relevant" "I" (.int v1206) := p1221.ext E1228
      have f1234 : Fld Z h1228 b1212 "com/example/words_to_weights/wordstoweights/evaluation/JudgedRanking" "relevantRanks" "[I" (.ref b_1208) := p1222.ext E1228
      have KK1228 : Keep h0 h1228 [] := KK1218.ext E1228
      have Z1228 := Nat.le_trans Z1218 E1228.1
      have ex_b1228 := A1228
      have f1235 : Fld Z h1228 b1228 "com/example/words_to_weights/wordstoweights/evaluation/JudgedRanking" "retrieved" "I" (.int (0 : Int32)) := D1228 (Or.inr (hw _ (List.mem_of_getElem? (i := 21) rfl))) (ty := .int) (by decide)
      have f1236 : Fld Z h1228 b1228 "com/example/words_to_weights/wordstoweights/evaluation/JudgedRanking" "relevant" "I" (.int (0 : Int32)) := D1228 (Or.inr (hw _ (List.mem_of_getElem? (i := 23) rfl))) (ty := .int) (by decide)
      have f1237 : Fld Z h1228 b1228 "com/example/words_to_weights/wordstoweights/evaluation/JudgedRanking" "relevantRanks" "[I" .null := D1228 (Or.inr (hw _ (List.mem_of_getElem? (i := 25) rfl))) (ty := (.array .int)) (by decide)
      show OEnds p.tables e below G (T1228.setTop (mkF m 148 #[.val (.int p1), .val (.int p2), .val (.int p3), .val (.int p4), .val (.int p5), .val (.int p6), .val (.int (3 : Int32)), .val (.int v1200), .val (.int v1201), .val (.int v1202), .val (.int v1202), .val (.int v1204), .val (.int v1206), .val (.int r2), .val (.ref b_1208), .val (.ref b1212), .unset, .unset, .unset, .unset, .unset, .unset, .unset, .unset] [(.ref b1228)]))
      refine OEnds.st (fun _ k => XS.dup X1228.here hx rfl (hb hby at_148) rfl rfl k) ?_
      show OEnds p.tables e below G (T1228.setTop (mkF m 149 #[.val (.int p1), .val (.int p2), .val (.int p3), .val (.int p4), .val (.int p5), .val (.int p6), .val (.int (3 : Int32)), .val (.int v1200), .val (.int v1201), .val (.int v1202), .val (.int v1202), .val (.int v1204), .val (.int v1206), .val (.int r2), .val (.ref b_1208), .val (.ref b1212), .unset, .unset, .unset, .unset, .unset, .unset, .unset, .unset] [(.ref b1228), (.ref b1228)]))
      refine OEnds.st (fun _ k => XS.iload X1228.here hx rfl (hb hby at_149) rfl k) ?_
      show OEnds p.tables e below G (T1228.setTop (mkF m 151 #[.val (.int p1), .val (.int p2), .val (.int p3), .val (.int p4), .val (.int p5), .val (.int p6), .val (.int (3 : Int32)), .val (.int v1200), .val (.int v1201), .val (.int v1202), .val (.int v1202), .val (.int v1204), .val (.int v1206), .val (.int r2), .val (.ref b_1208), .val (.ref b1212), .unset, .unset, .unset, .unset, .unset, .unset, .unset, .unset] [(.int v1204), (.ref b1228), (.ref b1228)]))
      refine OEnds.st (fun _ k => XS.iload X1228.here hx rfl (hb hby at_151) rfl k) ?_
      show OEnds p.tables e below G (T1228.setTop (mkF m 153 #[.val (.int p1), .val (.int p2), .val (.int p3), .val (.int p4), .val (.int p5), .val (.int p6), .val (.int (3 : Int32)), .val (.int v1200), .val (.int v1201), .val (.int v1202), .val (.int v1202), .val (.int v1204), .val (.int v1206), .val (.int r2), .val (.ref b_1208), .val (.ref b1212), .unset, .unset, .unset, .unset, .unset, .unset, .unset, .unset] [(.int r2), (.int v1204), (.ref b1228), (.ref b1228)]))
      refine OEnds.st (fun _ k => XS.aload X1228.here hx rfl (hb hby at_153) rfl rfl k) ?_
      show OEnds p.tables e below G (T1228.setTop (mkF m 155 #[.val (.int p1), .val (.int p2), .val (.int p3), .val (.int p4), .val (.int p5), .val (.int p6), .val (.int (3 : Int32)), .val (.int v1200), .val (.int v1201), .val (.int v1202), .val (.int v1202), .val (.int v1204), .val (.int v1206), .val (.int r2), .val (.ref b_1208), .val (.ref b1212), .unset, .unset, .unset, .unset, .unset, .unset, .unset, .unset] [(.ref b_1208), (.int r2), (.int v1204), (.ref b1228), (.ref b1228)]))
      obtain ⟨_, _, ⟨T1238, L1238, k1238c, n1238c⟩, -, X1238, ⟨Lc1238, hQ1238, l1238, y1238, z1238⟩, st1238⟩ := X1228.specialBack hx (y := (⟨"com/example/words_to_weights/wordstoweights/evaluation/JudgedRanking", "<init>", "(II[I)V"⟩ : MethodName)) rfl hown (mvT hZ (hw _ (List.mem_of_getElem? (i := 14) rfl))) (mvT hZ (hw _ (List.mem_of_getElem? (i := 15) rfl))) (mvT hZ (hw _ (List.mem_of_getElem? (i := 16) rfl))) (by decide) (backOf (W := 1) (rm3 l Z a0 hw [] b1228 v1204 r2 b_1208 h1228 n0 Z1228 ex_b1228 f1235 f1236 f1237 ge_b1228) hZ (hw _ (List.mem_of_getElem? (i := 16) rfl)) (hw _ (List.mem_of_getElem? (i := 13) rfl)) (by decide) (by decide)) (g := (mkF m 155 #[.val (.int p1), .val (.int p2), .val (.int p3), .val (.int p4), .val (.int p5), .val (.int p6), .val (.int (3 : Int32)), .val (.int v1200), .val (.int v1201), .val (.int v1202), .val (.int v1202), .val (.int v1204), .val (.int v1206), .val (.int r2), .val (.ref b_1208), .val (.ref b1212), .unset, .unset, .unset, .unset, .unset, .unset, .unset, .unset] [(.ref b_1208), (.int r2), (.int v1204), (.ref b1228), (.ref b1228)])) rfl (by rw [hml]; rfl) (Steps.refl _) (a := b1228) (argsL := [(.int v1204), (.int r2), (.ref b_1208)]) (rest := [(.ref b1228)]) (lenOf pd_3 rfl) rfl (by show 2 * 0 + _ ≤ _; exact Nat.le_of_eq rfl) (hb hby at_155) (fun _ _ => ⟨rfl, e1228, (by decide : 0 + 0 + 0 + 1 + 1 + 0 + 1 + 0 ≤ _), (by decide : 0 + 0 + 0 + 3 + 3 + 0 + 3 + 0 ≤ _)⟩)
      dsimp only [Pt.U, Pt.locs, Pt.cells, Pt.slots] at X1238 l1238 y1238 z1238 st1238 hQ1238
      subst l1238 y1238 z1238
      obtain ⟨rfl, N1238q, p1239, p1240, p1241, p1242⟩ := hQ1238
      have N1238 := Fr.app N1218 N1238q
      refine OEnds.st (fun _ k => st1238.trans k) ?_
      clear st1238
      have f1243 : Arv Z T1238.heap b_1208 kb_1208 .int (3 : Int32) [(.int v1200), (.int v1201), (.int v1202)] (.int (0 : Int32)) := f1231.keep p1239 (by simp only [List.mem_cons, List.not_mem_nil, or_false, not_or]; exact ne1229)
      have f1244 : Exa Z T1238.heap b1212 "com/example/words_to_weights/wordstoweights/evaluation/JudgedRanking" := f1232.keep p1239
      have f1245 : Fld Z T1238.heap b1212 "com/example/words_to_weights/wordstoweights/evaluation/JudgedRanking" "relevant" "I" (.int v1206) := f1233.keep p1239 (by simp only [List.mem_cons, List.not_mem_nil, or_false, not_or]; exact ne1230)
      have f1246 : Fld Z T1238.heap b1212 "com/example/words_to_weights/wordstoweights/evaluation/JudgedRanking" "relevantRanks" "[I" (.ref b_1208) := f1234.keep p1239 (by simp only [List.mem_cons, List.not_mem_nil, or_false, not_or]; exact ne1230)
      have f1247 : Exa Z T1238.heap b1228 "com/example/words_to_weights/wordstoweights/evaluation/JudgedRanking" := ex_b1228.keep p1239
      have KK1238 : Keep h0 T1238.heap [] := KK1228.trans p1239 (fun x hx => by cases List.mem_singleton.mp hx; exact Or.inr sz_b1228)
      have Z1238 := Nat.le_trans Z1228 p1239.1
      show OEnds p.tables e below G (T1238.setTop (mkF m 158 #[.val (.int p1), .val (.int p2), .val (.int p3), .val (.int p4), .val (.int p5), .val (.int p6), .val (.int (3 : Int32)), .val (.int v1200), .val (.int v1201), .val (.int v1202), .val (.int v1202), .val (.int v1204), .val (.int v1206), .val (.int r2), .val (.ref b_1208), .val (.ref b1212), .unset, .unset, .unset, .unset, .unset, .unset, .unset, .unset] [(.ref b1228)]))
      refine OEnds.st (fun _ k => XS.astore X1238.here hx rfl (hb hby at_158) rfl rfl (l' := #[.val (.int p1), .val (.int p2), .val (.int p3), .val (.int p4), .val (.int p5), .val (.int p6), .val (.int (3 : Int32)), .val (.int v1200), .val (.int v1201), .val (.int v1202), .val (.int v1202), .val (.int v1204), .val (.int v1206), .val (.int r2), .val (.ref b_1208), .val (.ref b1212), .val (.ref b1228), .unset, .unset, .unset, .unset, .unset, .unset, .unset]) rfl k) ?_
      show OEnds p.tables e below G (T1238.setTop (mkF m 160 #[.val (.int p1), .val (.int p2), .val (.int p3), .val (.int p4), .val (.int p5), .val (.int p6), .val (.int (3 : Int32)), .val (.int v1200), .val (.int v1201), .val (.int v1202), .val (.int v1202), .val (.int v1204), .val (.int v1206), .val (.int r2), .val (.ref b_1208), .val (.ref b1212), .val (.ref b1228), .unset, .unset, .unset, .unset, .unset, .unset, .unset] []))
      refine OEnds.st (fun _ k => XS.aload X1238.here hx rfl (hb hby at_160) rfl rfl k) ?_
      show OEnds p.tables e below G (T1238.setTop (mkF m 162 #[.val (.int p1), .val (.int p2), .val (.int p3), .val (.int p4), .val (.int p5), .val (.int p6), .val (.int (3 : Int32)), .val (.int v1200), .val (.int v1201), .val (.int v1202), .val (.int v1202), .val (.int v1204), .val (.int v1206), .val (.int r2), .val (.ref b_1208), .val (.ref b1212), .val (.ref b1228), .unset, .unset, .unset, .unset, .unset, .unset, .unset] [(.ref b1212)]))
      obtain ⟨cq1251, kq1251, q1251a, q1251b, q1251c⟩ := isOf hZ rfl f1244
      obtain ⟨_, _, ⟨T1251, L1251, k1251c, n1251c⟩, -, X1251, ⟨Lc1251, hQ1251, l1251, y1251, z1251⟩, st1251⟩ := X1238.virtualBack hx (y := (⟨"com/example/words_to_weights/wordstoweights/evaluation/JudgedRanking", "setRecall", "()D"⟩ : MethodName)) (z := (⟨"com/example/words_to_weights/wordstoweights/evaluation/JudgedRanking", "setRecall", "()D"⟩ : MethodName)) hown (mvT hZ (hw _ (List.mem_of_getElem? (i := 26) rfl))) (mvT hZ (hw _ (List.mem_of_getElem? (i := 27) rfl))) (notFace_of_selects (args := #[]) (mvT hZ (hw _ (List.mem_of_getElem? (i := 29) rfl)))) (mvT hZ (hw _ (List.mem_of_getElem? (i := 29) rfl))) (mvT hZ (hw _ (List.mem_of_getElem? (i := 28) rfl))) (by decide) (backOf (W := 0) (rmsr3 l Z a0 hw [] b1212 v1206 b_1208 kb_1208 ([(.int v1200), (.int v1201), (.int v1202)]) T1238.heap n0 Z1238 f1245 f1246 f1243) hZ (hw _ (List.mem_of_getElem? (i := 30) rfl)) (hw _ (List.mem_of_getElem? (i := 13) rfl)) (by decide) (by decide)) q1251a q1251c (g := (mkF m 162 #[.val (.int p1), .val (.int p2), .val (.int p3), .val (.int p4), .val (.int p5), .val (.int p6), .val (.int (3 : Int32)), .val (.int v1200), .val (.int v1201), .val (.int v1202), .val (.int v1202), .val (.int v1204), .val (.int v1206), .val (.int r2), .val (.ref b_1208), .val (.ref b1212), .val (.ref b1228), .unset, .unset, .unset, .unset, .unset, .unset, .unset] [(.ref b1212)])) rfl (by rw [hml]; rfl) (Steps.refl _) (argsL := []) (rest := []) (lenOf pd_4 rfl) rfl (by show 2 * 0 + _ ≤ _; exact Nat.le_of_eq rfl) (hb hby at_162) (fun _ _ => ⟨rfl, rfl, (by decide : 0 + 0 + 0 + 1 + 1 + 0 + 1 + 0 + 0 ≤ _), (by decide : 0 + 0 + 0 + 3 + 3 + 0 + 3 + 0 + 0 ≤ _)⟩)
      dsimp only [Pt.U, Pt.locs, Pt.cells, Pt.slots] at X1251 l1251 y1251 z1251 st1251 hQ1251
      subst l1251 y1251 z1251
      obtain ⟨rfl, N1251q, e1251⟩ := hQ1251
      have N1251 := Fr.app N1238 N1251q
      refine OEnds.st (fun _ k => st1251.trans k) ?_
      clear st1251
      show OEnds p.tables e below G (T1251.setTop (mkF m 165 #[.val (.int p1), .val (.int p2), .val (.int p3), .val (.int p4), .val (.int p5), .val (.int p6), .val (.int (3 : Int32)), .val (.int v1200), .val (.int v1201), .val (.int v1202), .val (.int v1202), .val (.int v1204), .val (.int v1206), .val (.int r2), .val (.ref b_1208), .val (.ref b1212), .val (.ref b1228), .unset, .unset, .unset, .unset, .unset, .unset, .unset] [(.double (own_rc (4613937818241073152 : UInt64) v1206))]))
      refine OEnds.st (fun _ k => XS.dstore X1251.here hx rfl (hb hby at_165) rfl (l' := #[.val (.int p1), .val (.int p2), .val (.int p3), .val (.int p4), .val (.int p5), .val (.int p6), .val (.int (3 : Int32)), .val (.int v1200), .val (.int v1201), .val (.int v1202), .val (.int v1202), .val (.int v1204), .val (.int v1206), .val (.int r2), .val (.ref b_1208), .val (.ref b1212), .val (.ref b1228), .val (.double (own_rc (4613937818241073152 : UInt64) v1206)), .second, .unset, .unset, .unset, .unset, .unset]) rfl k) ?_
      show OEnds p.tables e below G (T1251.setTop (mkF m 167 #[.val (.int p1), .val (.int p2), .val (.int p3), .val (.int p4), .val (.int p5), .val (.int p6), .val (.int (3 : Int32)), .val (.int v1200), .val (.int v1201), .val (.int v1202), .val (.int v1202), .val (.int v1204), .val (.int v1206), .val (.int r2), .val (.ref b_1208), .val (.ref b1212), .val (.ref b1228), .val (.double (own_rc (4613937818241073152 : UInt64) v1206)), .second, .unset, .unset, .unset, .unset, .unset] []))
      refine OEnds.st (fun _ k => XS.aload X1251.here hx rfl (hb hby at_167) rfl rfl k) ?_
      show OEnds p.tables e below G (T1251.setTop (mkF m 169 #[.val (.int p1), .val (.int p2), .val (.int p3), .val (.int p4), .val (.int p5), .val (.int p6), .val (.int (3 : Int32)), .val (.int v1200), .val (.int v1201), .val (.int v1202), .val (.int v1202), .val (.int v1204), .val (.int v1206), .val (.int r2), .val (.ref b_1208), .val (.ref b1212), .val (.ref b1228), .val (.double (own_rc (4613937818241073152 : UInt64) v1206)), .second, .unset, .unset, .unset, .unset, .unset] [(.ref b1212)]))
      refine OEnds.st (fun _ k => XS.iload X1251.here hx rfl (hb hby at_169) rfl k) ?_
      show OEnds p.tables e below G (T1251.setTop (mkF m 171 #[.val (.int p1), .val (.int p2), .val (.int p3), .val (.int p4), .val (.int p5), .val (.int p6), .val (.int (3 : Int32)), .val (.int v1200), .val (.int v1201), .val (.int v1202), .val (.int v1202), .val (.int v1204), .val (.int v1206), .val (.int r2), .val (.ref b_1208), .val (.ref b1212), .val (.ref b1228), .val (.double (own_rc (4613937818241073152 : UInt64) v1206)), .second, .unset, .unset, .unset, .unset, .unset] [(.int v1204), (.ref b1212)]))
      obtain ⟨cq1252, kq1252, q1252a, q1252b, q1252c⟩ := isOf hZ e1251 f1244
      obtain ⟨_, _, ⟨T1252, L1252, k1252c, n1252c⟩, -, X1252, ⟨Lc1252, hQ1252, l1252, y1252, z1252⟩, st1252⟩ := X1251.virtualBack hx (y := (⟨"com/example/words_to_weights/wordstoweights/evaluation/JudgedRanking", "recallAt", "(I)D"⟩ : MethodName)) (z := (⟨"com/example/words_to_weights/wordstoweights/evaluation/JudgedRanking", "recallAt", "(I)D"⟩ : MethodName)) hown (mvT hZ (hw _ (List.mem_of_getElem? (i := 31) rfl))) (mvT hZ (hw _ (List.mem_of_getElem? (i := 32) rfl))) (notFace_of_selects (args := #[]) (mvT hZ (hw _ (List.mem_of_getElem? (i := 34) rfl)))) (mvT hZ (hw _ (List.mem_of_getElem? (i := 34) rfl))) (mvT hZ (hw _ (List.mem_of_getElem? (i := 33) rfl))) (by decide) (backOf (W := 0) (rmra3 l Z a0 hw [] b1212 v1204 v1206 b_1208 kb_1208 v1200 v1201 v1202 T1238.heap n0 Z1238 f1244 f1245 f1246 f1243 hk1 hk2 hk3) hZ (hw _ (List.mem_of_getElem? (i := 35) rfl)) (hw _ (List.mem_of_getElem? (i := 13) rfl)) (by decide) (by decide)) q1252a q1252c (g := (mkF m 171 #[.val (.int p1), .val (.int p2), .val (.int p3), .val (.int p4), .val (.int p5), .val (.int p6), .val (.int (3 : Int32)), .val (.int v1200), .val (.int v1201), .val (.int v1202), .val (.int v1202), .val (.int v1204), .val (.int v1206), .val (.int r2), .val (.ref b_1208), .val (.ref b1212), .val (.ref b1228), .val (.double (own_rc (4613937818241073152 : UInt64) v1206)), .second, .unset, .unset, .unset, .unset, .unset] [(.int v1204), (.ref b1212)])) rfl (by rw [hml]; rfl) (Steps.refl _) (argsL := [(.int v1204)]) (rest := []) (lenOf pd_5 rfl) rfl (by show 2 * 0 + _ ≤ _; exact Nat.le_of_eq rfl) (hb hby at_171) (fun _ _ => ⟨rfl, e1251, (by decide : 0 + 0 + 0 + 1 + 1 + 0 + 1 + 0 + 0 + 0 ≤ _), (by decide : 0 + 0 + 0 + 3 + 3 + 0 + 3 + 0 + 0 + 0 ≤ _)⟩)
      dsimp only [Pt.U, Pt.locs, Pt.cells, Pt.slots] at X1252 l1252 y1252 z1252 st1252 hQ1252
      subst l1252 y1252 z1252
      obtain ⟨rfl, N1252q, e1252⟩ := hQ1252
      have N1252 := Fr.app N1251 N1252q
      refine OEnds.st (fun _ k => st1252.trans k) ?_
      clear st1252
      show OEnds p.tables e below G (T1252.setTop (mkF m 174 #[.val (.int p1), .val (.int p2), .val (.int p3), .val (.int p4), .val (.int p5), .val (.int p6), .val (.int (3 : Int32)), .val (.int v1200), .val (.int v1201), .val (.int v1202), .val (.int v1202), .val (.int v1204), .val (.int v1206), .val (.int r2), .val (.ref b_1208), .val (.ref b1212), .val (.ref b1228), .val (.double (own_rc (4613937818241073152 : UInt64) v1206)), .second, .unset, .unset, .unset, .unset, .unset] [(.double (own_rc (4613937818241073152 : UInt64) v1206))]))
      refine OEnds.st (fun _ k => XS.dstore X1252.here hx rfl (hb hby at_174) rfl (l' := #[.val (.int p1), .val (.int p2), .val (.int p3), .val (.int p4), .val (.int p5), .val (.int p6), .val (.int (3 : Int32)), .val (.int v1200), .val (.int v1201), .val (.int v1202), .val (.int v1202), .val (.int v1204), .val (.int v1206), .val (.int r2), .val (.ref b_1208), .val (.ref b1212), .val (.ref b1228), .val (.double (own_rc (4613937818241073152 : UInt64) v1206)), .second, .val (.double (own_rc (4613937818241073152 : UInt64) v1206)), .second, .unset, .unset, .unset]) rfl k) ?_
      show OEnds p.tables e below G (T1252.setTop (mkF m 176 #[.val (.int p1), .val (.int p2), .val (.int p3), .val (.int p4), .val (.int p5), .val (.int p6), .val (.int (3 : Int32)), .val (.int v1200), .val (.int v1201), .val (.int v1202), .val (.int v1202), .val (.int v1204), .val (.int v1206), .val (.int r2), .val (.ref b_1208), .val (.ref b1212), .val (.ref b1228), .val (.double (own_rc (4613937818241073152 : UInt64) v1206)), .second, .val (.double (own_rc (4613937818241073152 : UInt64) v1206)), .second, .unset, .unset, .unset] []))
      refine OEnds.st (fun _ k => XS.aload X1252.here hx rfl (hb hby at_176) rfl rfl k) ?_
      show OEnds p.tables e below G (T1252.setTop (mkF m 178 #[.val (.int p1), .val (.int p2), .val (.int p3), .val (.int p4), .val (.int p5), .val (.int p6), .val (.int (3 : Int32)), .val (.int v1200), .val (.int v1201), .val (.int v1202), .val (.int v1202), .val (.int v1204), .val (.int v1206), .val (.int r2), .val (.ref b_1208), .val (.ref b1212), .val (.ref b1228), .val (.double (own_rc (4613937818241073152 : UInt64) v1206)), .second, .val (.double (own_rc (4613937818241073152 : UInt64) v1206)), .second, .unset, .unset, .unset] [(.ref b1228)]))
      obtain ⟨cq1253, kq1253, q1253a, q1253b, q1253c⟩ := isOf hZ e1252 p1240
      obtain ⟨_, _, ⟨T1253, L1253, k1253c, n1253c⟩, -, X1253, ⟨Lc1253, hQ1253, l1253, y1253, z1253⟩, st1253⟩ := X1252.virtualBack hx (y := (⟨"com/example/words_to_weights/wordstoweights/evaluation/JudgedRanking", "setRecall", "()D"⟩ : MethodName)) (z := (⟨"com/example/words_to_weights/wordstoweights/evaluation/JudgedRanking", "setRecall", "()D"⟩ : MethodName)) hown (mvT hZ (hw _ (List.mem_of_getElem? (i := 26) rfl))) (mvT hZ (hw _ (List.mem_of_getElem? (i := 27) rfl))) (notFace_of_selects (args := #[]) (mvT hZ (hw _ (List.mem_of_getElem? (i := 29) rfl)))) (mvT hZ (hw _ (List.mem_of_getElem? (i := 29) rfl))) (mvT hZ (hw _ (List.mem_of_getElem? (i := 28) rfl))) (by decide) (backOf (W := 0) (rmsr3 l Z a0 hw [] b1228 r2 b_1208 kb_1208 ([(.int v1200), (.int v1201), (.int v1202)]) T1238.heap n0 Z1238 p1241 p1242 f1243) hZ (hw _ (List.mem_of_getElem? (i := 30) rfl)) (hw _ (List.mem_of_getElem? (i := 13) rfl)) (by decide) (by decide)) q1253a q1253c (g := (mkF m 178 #[.val (.int p1), .val (.int p2), .val (.int p3), .val (.int p4), .val (.int p5), .val (.int p6), .val (.int (3 : Int32)), .val (.int v1200), .val (.int v1201), .val (.int v1202), .val (.int v1202), .val (.int v1204), .val (.int v1206), .val (.int r2), .val (.ref b_1208), .val (.ref b1212), .val (.ref b1228), .val (.double (own_rc (4613937818241073152 : UInt64) v1206)), .second, .val (.double (own_rc (4613937818241073152 : UInt64) v1206)), .second, .unset, .unset, .unset] [(.ref b1228)])) rfl (by rw [hml]; rfl) (Steps.refl _) (argsL := []) (rest := []) (lenOf pd_4 rfl) rfl (by show 2 * 0 + _ ≤ _; exact Nat.le_of_eq rfl) (hb hby at_178) (fun _ _ => ⟨rfl, e1252, (by decide : 0 + 0 + 0 + 1 + 1 + 0 + 1 + 0 + 0 + 0 + 0 ≤ _), (by decide : 0 + 0 + 0 + 3 + 3 + 0 + 3 + 0 + 0 + 0 + 0 ≤ _)⟩)
      dsimp only [Pt.U, Pt.locs, Pt.cells, Pt.slots] at X1253 l1253 y1253 z1253 st1253 hQ1253
      subst l1253 y1253 z1253
      obtain ⟨rfl, N1253q, e1253⟩ := hQ1253
      have N1253 := Fr.app N1252 N1253q
      refine OEnds.st (fun _ k => st1253.trans k) ?_
      clear st1253
      show OEnds p.tables e below G (T1253.setTop (mkF m 181 #[.val (.int p1), .val (.int p2), .val (.int p3), .val (.int p4), .val (.int p5), .val (.int p6), .val (.int (3 : Int32)), .val (.int v1200), .val (.int v1201), .val (.int v1202), .val (.int v1202), .val (.int v1204), .val (.int v1206), .val (.int r2), .val (.ref b_1208), .val (.ref b1212), .val (.ref b1228), .val (.double (own_rc (4613937818241073152 : UInt64) v1206)), .second, .val (.double (own_rc (4613937818241073152 : UInt64) v1206)), .second, .unset, .unset, .unset] [(.double (own_rc (4613937818241073152 : UInt64) r2))]))
      refine OEnds.st (fun _ k => XS.dstore X1253.here hx rfl (hb hby at_181) rfl (l' := #[.val (.int p1), .val (.int p2), .val (.int p3), .val (.int p4), .val (.int p5), .val (.int p6), .val (.int (3 : Int32)), .val (.int v1200), .val (.int v1201), .val (.int v1202), .val (.int v1202), .val (.int v1204), .val (.int v1206), .val (.int r2), .val (.ref b_1208), .val (.ref b1212), .val (.ref b1228), .val (.double (own_rc (4613937818241073152 : UInt64) v1206)), .second, .val (.double (own_rc (4613937818241073152 : UInt64) v1206)), .second, .val (.double (own_rc (4613937818241073152 : UInt64) r2)), .second, .unset]) rfl k) ?_
      obtain ⟨M1, hP1, hM1, hM2, hM3⟩ := own_R own_B3 (by decide) hrel
      show OEnds p.tables e below G (T1253.setTop (mkF m 183 #[.val (.int p1), .val (.int p2), .val (.int p3), .val (.int p4), .val (.int p5), .val (.int p6), .val (.int (3 : Int32)), .val (.int v1200), .val (.int v1201), .val (.int v1202), .val (.int v1202), .val (.int v1204), .val (.int v1206), .val (.int r2), .val (.ref b_1208), .val (.ref b1212), .val (.ref b1228), .val (.double (own_rc (4613937818241073152 : UInt64) v1206)), .second, .val (.double (own_rc (4613937818241073152 : UInt64) v1206)), .second, .val (.double (own_rc (4613937818241073152 : UInt64) r2)), .second, .unset] []))
      refine OEnds.st (fun _ k => XS.dload X1253.here hx rfl (hb hby at_183) rfl k) ?_
      show OEnds p.tables e below G (T1253.setTop (mkF m 185 #[.val (.int p1), .val (.int p2), .val (.int p3), .val (.int p4), .val (.int p5), .val (.int p6), .val (.int (3 : Int32)), .val (.int v1200), .val (.int v1201), .val (.int v1202), .val (.int v1202), .val (.int v1204), .val (.int v1206), .val (.int r2), .val (.ref b_1208), .val (.ref b1212), .val (.ref b1228), .val (.double (own_rc (4613937818241073152 : UInt64) v1206)), .second, .val (.double (own_rc (4613937818241073152 : UInt64) v1206)), .second, .val (.double (own_rc (4613937818241073152 : UInt64) r2)), .second, .unset] [(.double (own_rc (4613937818241073152 : UInt64) v1206))]))
      refine OEnds.st (fun _ k => XS.dload X1253.here hx rfl (hb hby at_185) rfl k) ?_
      show OEnds p.tables e below G (T1253.setTop (mkF m 187 #[.val (.int p1), .val (.int p2), .val (.int p3), .val (.int p4), .val (.int p5), .val (.int p6), .val (.int (3 : Int32)), .val (.int v1200), .val (.int v1201), .val (.int v1202), .val (.int v1202), .val (.int v1204), .val (.int v1206), .val (.int r2), .val (.ref b_1208), .val (.ref b1212), .val (.ref b1228), .val (.double (own_rc (4613937818241073152 : UInt64) v1206)), .second, .val (.double (own_rc (4613937818241073152 : UInt64) v1206)), .second, .val (.double (own_rc (4613937818241073152 : UInt64) r2)), .second, .unset] [(.double (own_rc (4613937818241073152 : UInt64) v1206)), (.double (own_rc (4613937818241073152 : UInt64) v1206))]))
      refine OEnds.st (fun _ k => XS.dcmpS X1253.here hx rfl (hb hby at_187) rfl rfl k) ?_
      show OEnds p.tables e below G (T1253.setTop (mkF m 188 #[.val (.int p1), .val (.int p2), .val (.int p3), .val (.int p4), .val (.int p5), .val (.int p6), .val (.int (3 : Int32)), .val (.int v1200), .val (.int v1201), .val (.int v1202), .val (.int v1202), .val (.int v1204), .val (.int v1206), .val (.int r2), .val (.ref b_1208), .val (.ref b1212), .val (.ref b1228), .val (.double (own_rc (4613937818241073152 : UInt64) v1206)), .second, .val (.double (own_rc (4613937818241073152 : UInt64) v1206)), .second, .val (.double (own_rc (4613937818241073152 : UInt64) r2)), .second, .unset] [(.int (cmpValue (FP.dcmp (own_rc (4613937818241073152 : UInt64) v1206) (own_rc (4613937818241073152 : UInt64) v1206)) .l))]))
      have hc188_1254 : (cmpValue (FP.dcmp (own_rc (4613937818241073152 : UInt64) v1206) (own_rc (4613937818241073152 : UInt64) v1206)) .l) = (0 : Int32) := (own_ceq hP1 hP1 .l).mpr rfl
      refine OEnds.st (fun _ k => XS.ifNo X1253.here hx rfl (hb hby at_188) rfl ((if0 _ _).trans (teq hc188_1254).2) k) ?_
      show OEnds p.tables e below G (T1253.setTop (mkF m 191 #[.val (.int p1), .val (.int p2), .val (.int p3), .val (.int p4), .val (.int p5), .val (.int p6), .val (.int (3 : Int32)), .val (.int v1200), .val (.int v1201), .val (.int v1202), .val (.int v1202), .val (.int v1204), .val (.int v1206), .val (.int r2), .val (.ref b_1208), .val (.ref b1212), .val (.ref b1228), .val (.double (own_rc (4613937818241073152 : UInt64) v1206)), .second, .val (.double (own_rc (4613937818241073152 : UInt64) v1206)), .second, .val (.double (own_rc (4613937818241073152 : UInt64) r2)), .second, .unset] []))
      refine OEnds.st (fun _ k => XS.iconst X1253.here hx rfl (hb hby at_191) k) ?_
      show OEnds p.tables e below G (T1253.setTop (mkF m 192 #[.val (.int p1), .val (.int p2), .val (.int p3), .val (.int p4), .val (.int p5), .val (.int p6), .val (.int (3 : Int32)), .val (.int v1200), .val (.int v1201), .val (.int v1202), .val (.int v1202), .val (.int v1204), .val (.int v1206), .val (.int r2), .val (.ref b_1208), .val (.ref b1212), .val (.ref b1228), .val (.double (own_rc (4613937818241073152 : UInt64) v1206)), .second, .val (.double (own_rc (4613937818241073152 : UInt64) v1206)), .second, .val (.double (own_rc (4613937818241073152 : UInt64) r2)), .second, .unset] [(.int (1 : Int32))]))
      refine OEnds.st (fun _ k => XS.goto X1253.here hx rfl (pc0 := 192) (pc' := 196) rfl (hb hby at_192) (by decide) (by decide) k) ?_
      show OEnds p.tables e below G (T1253.setTop (mkF m 196 #[.val (.int p1), .val (.int p2), .val (.int p3), .val (.int p4), .val (.int p5), .val (.int p6), .val (.int (3 : Int32)), .val (.int v1200), .val (.int v1201), .val (.int v1202), .val (.int v1202), .val (.int v1204), .val (.int v1206), .val (.int r2), .val (.ref b_1208), .val (.ref b1212), .val (.ref b1228), .val (.double (own_rc (4613937818241073152 : UInt64) v1206)), .second, .val (.double (own_rc (4613937818241073152 : UInt64) v1206)), .second, .val (.double (own_rc (4613937818241073152 : UInt64) r2)), .second, .unset] [(.int (1 : Int32))]))
      refine OEnds.st (fun _ k => XS.istore X1253.here hx rfl (hb hby at_196) rfl (l' := #[.val (.int p1), .val (.int p2), .val (.int p3), .val (.int p4), .val (.int p5), .val (.int p6), .val (.int (3 : Int32)), .val (.int v1200), .val (.int v1201), .val (.int v1202), .val (.int v1202), .val (.int v1204), .val (.int v1206), .val (.int r2), .val (.ref b_1208), .val (.ref b1212), .val (.ref b1228), .val (.double (own_rc (4613937818241073152 : UInt64) v1206)), .second, .val (.double (own_rc (4613937818241073152 : UInt64) v1206)), .second, .val (.double (own_rc (4613937818241073152 : UInt64) r2)), .second, .val (.int (1 : Int32))]) rfl k) ?_
      show OEnds p.tables e below G (T1253.setTop (mkF m 198 #[.val (.int p1), .val (.int p2), .val (.int p3), .val (.int p4), .val (.int p5), .val (.int p6), .val (.int (3 : Int32)), .val (.int v1200), .val (.int v1201), .val (.int v1202), .val (.int v1202), .val (.int v1204), .val (.int v1206), .val (.int r2), .val (.ref b_1208), .val (.ref b1212), .val (.ref b1228), .val (.double (own_rc (4613937818241073152 : UInt64) v1206)), .second, .val (.double (own_rc (4613937818241073152 : UInt64) v1206)), .second, .val (.double (own_rc (4613937818241073152 : UInt64) r2)), .second, .val (.int (1 : Int32))] []))
      refine OEnds.st (fun _ k => XS.iload X1253.here hx rfl (hb hby at_198) rfl k) ?_
      show OEnds p.tables e below G (T1253.setTop (mkF m 200 #[.val (.int p1), .val (.int p2), .val (.int p3), .val (.int p4), .val (.int p5), .val (.int p6), .val (.int (3 : Int32)), .val (.int v1200), .val (.int v1201), .val (.int v1202), .val (.int v1202), .val (.int v1204), .val (.int v1206), .val (.int r2), .val (.ref b_1208), .val (.ref b1212), .val (.ref b1228), .val (.double (own_rc (4613937818241073152 : UInt64) v1206)), .second, .val (.double (own_rc (4613937818241073152 : UInt64) v1206)), .second, .val (.double (own_rc (4613937818241073152 : UInt64) r2)), .second, .val (.int (1 : Int32))] [(.int (1 : Int32))]))
      refine OEnds.st (fun _ k => XS.ifNo X1253.here hx rfl (hb hby at_200) rfl ((if0 _ _).trans (feq (by decide : ¬ ((1 : Int32) = (0 : Int32)))).1) k) ?_
      show OEnds p.tables e below G (T1253.setTop (mkF m 203 #[.val (.int p1), .val (.int p2), .val (.int p3), .val (.int p4), .val (.int p5), .val (.int p6), .val (.int (3 : Int32)), .val (.int v1200), .val (.int v1201), .val (.int v1202), .val (.int v1202), .val (.int v1204), .val (.int v1206), .val (.int r2), .val (.ref b_1208), .val (.ref b1212), .val (.ref b1228), .val (.double (own_rc (4613937818241073152 : UInt64) v1206)), .second, .val (.double (own_rc (4613937818241073152 : UInt64) v1206)), .second, .val (.double (own_rc (4613937818241073152 : UInt64) r2)), .second, .val (.int (1 : Int32))] []))
      refine OEnds.st (fun _ k => XS.dload X1253.here hx rfl (hb hby at_203) rfl k) ?_
      show OEnds p.tables e below G (T1253.setTop (mkF m 205 #[.val (.int p1), .val (.int p2), .val (.int p3), .val (.int p4), .val (.int p5), .val (.int p6), .val (.int (3 : Int32)), .val (.int v1200), .val (.int v1201), .val (.int v1202), .val (.int v1202), .val (.int v1204), .val (.int v1206), .val (.int r2), .val (.ref b_1208), .val (.ref b1212), .val (.ref b1228), .val (.double (own_rc (4613937818241073152 : UInt64) v1206)), .second, .val (.double (own_rc (4613937818241073152 : UInt64) v1206)), .second, .val (.double (own_rc (4613937818241073152 : UInt64) r2)), .second, .val (.int (1 : Int32))] [(.double (own_rc (4613937818241073152 : UInt64) v1206))]))
      refine OEnds.st (fun _ k => XS.dconst0 X1253.here hx rfl (hb hby at_205) (v := (0 : UInt64)) rfl k) ?_
      show OEnds p.tables e below G (T1253.setTop (mkF m 206 #[.val (.int p1), .val (.int p2), .val (.int p3), .val (.int p4), .val (.int p5), .val (.int p6), .val (.int (3 : Int32)), .val (.int v1200), .val (.int v1201), .val (.int v1202), .val (.int v1202), .val (.int v1204), .val (.int v1206), .val (.int r2), .val (.ref b_1208), .val (.ref b1212), .val (.ref b1228), .val (.double (own_rc (4613937818241073152 : UInt64) v1206)), .second, .val (.double (own_rc (4613937818241073152 : UInt64) v1206)), .second, .val (.double (own_rc (4613937818241073152 : UInt64) r2)), .second, .val (.int (1 : Int32))] [(.double (0 : UInt64)), (.double (own_rc (4613937818241073152 : UInt64) v1206))]))
      refine OEnds.st (fun _ k => XS.dcmpS X1253.here hx rfl (hb hby at_206) rfl rfl k) ?_
      show OEnds p.tables e below G (T1253.setTop (mkF m 207 #[.val (.int p1), .val (.int p2), .val (.int p3), .val (.int p4), .val (.int p5), .val (.int p6), .val (.int (3 : Int32)), .val (.int v1200), .val (.int v1201), .val (.int v1202), .val (.int v1202), .val (.int v1204), .val (.int v1206), .val (.int r2), .val (.ref b_1208), .val (.ref b1212), .val (.ref b1228), .val (.double (own_rc (4613937818241073152 : UInt64) v1206)), .second, .val (.double (own_rc (4613937818241073152 : UInt64) v1206)), .second, .val (.double (own_rc (4613937818241073152 : UInt64) r2)), .second, .val (.int (1 : Int32))] [(.int (cmpValue (FP.dcmp (own_rc (4613937818241073152 : UInt64) v1206) (0 : UInt64)) .l))]))
      have hc207_1255 : ¬ ((cmpValue (FP.dcmp (own_rc (4613937818241073152 : UInt64) v1206) (0 : UInt64)) .l) < (0 : Int32)) := fun q => Nat.not_lt_zero _ ((own_clt hP1 own_Pz0 .l).mp q)
      refine OEnds.st (fun _ k => XS.ifNo X1253.here hx rfl (hb hby at_207) rfl ((if0 _ _).trans (flt hc207_1255).1) k) ?_
      show OEnds p.tables e below G (T1253.setTop (mkF m 210 #[.val (.int p1), .val (.int p2), .val (.int p3), .val (.int p4), .val (.int p5), .val (.int p6), .val (.int (3 : Int32)), .val (.int v1200), .val (.int v1201), .val (.int v1202), .val (.int v1202), .val (.int v1204), .val (.int v1206), .val (.int r2), .val (.ref b_1208), .val (.ref b1212), .val (.ref b1228), .val (.double (own_rc (4613937818241073152 : UInt64) v1206)), .second, .val (.double (own_rc (4613937818241073152 : UInt64) v1206)), .second, .val (.double (own_rc (4613937818241073152 : UInt64) r2)), .second, .val (.int (1 : Int32))] []))
      refine OEnds.st (fun _ k => XS.dload X1253.here hx rfl (hb hby at_210) rfl k) ?_
      show OEnds p.tables e below G (T1253.setTop (mkF m 212 #[.val (.int p1), .val (.int p2), .val (.int p3), .val (.int p4), .val (.int p5), .val (.int p6), .val (.int (3 : Int32)), .val (.int v1200), .val (.int v1201), .val (.int v1202), .val (.int v1202), .val (.int v1204), .val (.int v1206), .val (.int r2), .val (.ref b_1208), .val (.ref b1212), .val (.ref b1228), .val (.double (own_rc (4613937818241073152 : UInt64) v1206)), .second, .val (.double (own_rc (4613937818241073152 : UInt64) v1206)), .second, .val (.double (own_rc (4613937818241073152 : UInt64) r2)), .second, .val (.int (1 : Int32))] [(.double (own_rc (4613937818241073152 : UInt64) v1206))]))
      refine OEnds.st (fun _ k => XS.dconst1 X1253.here hx rfl (hb hby at_212) (v := (4607182418800017408 : UInt64)) rfl k) ?_
      show OEnds p.tables e below G (T1253.setTop (mkF m 213 #[.val (.int p1), .val (.int p2), .val (.int p3), .val (.int p4), .val (.int p5), .val (.int p6), .val (.int (3 : Int32)), .val (.int v1200), .val (.int v1201), .val (.int v1202), .val (.int v1202), .val (.int v1204), .val (.int v1206), .val (.int r2), .val (.ref b_1208), .val (.ref b1212), .val (.ref b1228), .val (.double (own_rc (4613937818241073152 : UInt64) v1206)), .second, .val (.double (own_rc (4613937818241073152 : UInt64) v1206)), .second, .val (.double (own_rc (4613937818241073152 : UInt64) r2)), .second, .val (.int (1 : Int32))] [(.double (4607182418800017408 : UInt64)), (.double (own_rc (4613937818241073152 : UInt64) v1206))]))
      refine OEnds.st (fun _ k => XS.dcmpS X1253.here hx rfl (hb hby at_213) rfl rfl k) ?_
      show OEnds p.tables e below G (T1253.setTop (mkF m 214 #[.val (.int p1), .val (.int p2), .val (.int p3), .val (.int p4), .val (.int p5), .val (.int p6), .val (.int (3 : Int32)), .val (.int v1200), .val (.int v1201), .val (.int v1202), .val (.int v1202), .val (.int v1204), .val (.int v1206), .val (.int r2), .val (.ref b_1208), .val (.ref b1212), .val (.ref b1228), .val (.double (own_rc (4613937818241073152 : UInt64) v1206)), .second, .val (.double (own_rc (4613937818241073152 : UInt64) v1206)), .second, .val (.double (own_rc (4613937818241073152 : UInt64) r2)), .second, .val (.int (1 : Int32))] [(.int (cmpValue (FP.dcmp (own_rc (4613937818241073152 : UInt64) v1206) (4607182418800017408 : UInt64)) .g))]))
      have hc214_1256 : ¬ ((0 : Int32) < (cmpValue (FP.dcmp (own_rc (4613937818241073152 : UInt64) v1206) (4607182418800017408 : UInt64)) .g)) := fun q => Nat.not_lt.mpr hM1 ((own_cgt hP1 own_B1 .g).mp q)
      refine OEnds.st (fun _ k => XS.ifNo X1253.here hx rfl (hb hby at_214) rfl ((if0 _ _).trans (flt hc214_1256).2.2.1) k) ?_
      show OEnds p.tables e below G (T1253.setTop (mkF m 217 #[.val (.int p1), .val (.int p2), .val (.int p3), .val (.int p4), .val (.int p5), .val (.int p6), .val (.int (3 : Int32)), .val (.int v1200), .val (.int v1201), .val (.int v1202), .val (.int v1202), .val (.int v1204), .val (.int v1206), .val (.int r2), .val (.ref b_1208), .val (.ref b1212), .val (.ref b1228), .val (.double (own_rc (4613937818241073152 : UInt64) v1206)), .second, .val (.double (own_rc (4613937818241073152 : UInt64) v1206)), .second, .val (.double (own_rc (4613937818241073152 : UInt64) r2)), .second, .val (.int (1 : Int32))] []))
      refine OEnds.st (fun _ k => XS.iconst X1253.here hx rfl (hb hby at_217) k) ?_
      show OEnds p.tables e below G (T1253.setTop (mkF m 218 #[.val (.int p1), .val (.int p2), .val (.int p3), .val (.int p4), .val (.int p5), .val (.int p6), .val (.int (3 : Int32)), .val (.int v1200), .val (.int v1201), .val (.int v1202), .val (.int v1202), .val (.int v1204), .val (.int v1206), .val (.int r2), .val (.ref b_1208), .val (.ref b1212), .val (.ref b1228), .val (.double (own_rc (4613937818241073152 : UInt64) v1206)), .second, .val (.double (own_rc (4613937818241073152 : UInt64) v1206)), .second, .val (.double (own_rc (4613937818241073152 : UInt64) r2)), .second, .val (.int (1 : Int32))] [(.int (1 : Int32))]))
      refine OEnds.st (fun _ k => XS.goto X1253.here hx rfl (pc0 := 218) (pc' := 222) rfl (hb hby at_218) (by decide) (by decide) k) ?_
      show OEnds p.tables e below G (T1253.setTop (mkF m 222 #[.val (.int p1), .val (.int p2), .val (.int p3), .val (.int p4), .val (.int p5), .val (.int p6), .val (.int (3 : Int32)), .val (.int v1200), .val (.int v1201), .val (.int v1202), .val (.int v1202), .val (.int v1204), .val (.int v1206), .val (.int r2), .val (.ref b_1208), .val (.ref b1212), .val (.ref b1228), .val (.double (own_rc (4613937818241073152 : UInt64) v1206)), .second, .val (.double (own_rc (4613937818241073152 : UInt64) v1206)), .second, .val (.double (own_rc (4613937818241073152 : UInt64) r2)), .second, .val (.int (1 : Int32))] [(.int (1 : Int32))]))
      refine OEnds.st (fun _ k => XS.istore X1253.here hx rfl (hb hby at_222) rfl (l' := #[.val (.int p1), .val (.int p2), .val (.int p3), .val (.int p4), .val (.int p5), .val (.int p6), .val (.int (3 : Int32)), .val (.int v1200), .val (.int v1201), .val (.int v1202), .val (.int v1202), .val (.int v1204), .val (.int v1206), .val (.int r2), .val (.ref b_1208), .val (.ref b1212), .val (.ref b1228), .val (.double (own_rc (4613937818241073152 : UInt64) v1206)), .second, .val (.double (own_rc (4613937818241073152 : UInt64) v1206)), .second, .val (.double (own_rc (4613937818241073152 : UInt64) r2)), .second, .val (.int (1 : Int32))]) rfl k) ?_
      show OEnds p.tables e below G (T1253.setTop (mkF m 224 #[.val (.int p1), .val (.int p2), .val (.int p3), .val (.int p4), .val (.int p5), .val (.int p6), .val (.int (3 : Int32)), .val (.int v1200), .val (.int v1201), .val (.int v1202), .val (.int v1202), .val (.int v1204), .val (.int v1206), .val (.int r2), .val (.ref b_1208), .val (.ref b1212), .val (.ref b1228), .val (.double (own_rc (4613937818241073152 : UInt64) v1206)), .second, .val (.double (own_rc (4613937818241073152 : UInt64) v1206)), .second, .val (.double (own_rc (4613937818241073152 : UInt64) r2)), .second, .val (.int (1 : Int32))] []))
      refine OEnds.st (fun _ k => XS.iload X1253.here hx rfl (hb hby at_224) rfl k) ?_
      show OEnds p.tables e below G (T1253.setTop (mkF m 226 #[.val (.int p1), .val (.int p2), .val (.int p3), .val (.int p4), .val (.int p5), .val (.int p6), .val (.int (3 : Int32)), .val (.int v1200), .val (.int v1201), .val (.int v1202), .val (.int v1202), .val (.int v1204), .val (.int v1206), .val (.int r2), .val (.ref b_1208), .val (.ref b1212), .val (.ref b1228), .val (.double (own_rc (4613937818241073152 : UInt64) v1206)), .second, .val (.double (own_rc (4613937818241073152 : UInt64) v1206)), .second, .val (.double (own_rc (4613937818241073152 : UInt64) r2)), .second, .val (.int (1 : Int32))] [(.int (1 : Int32))]))
      refine OEnds.st (fun _ k => XS.ifNo X1253.here hx rfl (hb hby at_226) rfl ((if0 _ _).trans (feq (by decide : ¬ ((1 : Int32) = (0 : Int32)))).1) k) ?_
      show OEnds p.tables e below G (T1253.setTop (mkF m 229 #[.val (.int p1), .val (.int p2), .val (.int p3), .val (.int p4), .val (.int p5), .val (.int p6), .val (.int (3 : Int32)), .val (.int v1200), .val (.int v1201), .val (.int v1202), .val (.int v1202), .val (.int v1204), .val (.int v1206), .val (.int r2), .val (.ref b_1208), .val (.ref b1212), .val (.ref b1228), .val (.double (own_rc (4613937818241073152 : UInt64) v1206)), .second, .val (.double (own_rc (4613937818241073152 : UInt64) v1206)), .second, .val (.double (own_rc (4613937818241073152 : UInt64) r2)), .second, .val (.int (1 : Int32))] []))
      refine OEnds.st (fun _ k => XS.dload X1253.here hx rfl (hb hby at_229) rfl k) ?_
      show OEnds p.tables e below G (T1253.setTop (mkF m 231 #[.val (.int p1), .val (.int p2), .val (.int p3), .val (.int p4), .val (.int p5), .val (.int p6), .val (.int (3 : Int32)), .val (.int v1200), .val (.int v1201), .val (.int v1202), .val (.int v1202), .val (.int v1204), .val (.int v1206), .val (.int r2), .val (.ref b_1208), .val (.ref b1212), .val (.ref b1228), .val (.double (own_rc (4613937818241073152 : UInt64) v1206)), .second, .val (.double (own_rc (4613937818241073152 : UInt64) v1206)), .second, .val (.double (own_rc (4613937818241073152 : UInt64) r2)), .second, .val (.int (1 : Int32))] [(.double (own_rc (4613937818241073152 : UInt64) v1206))]))
      refine OEnds.st (fun _ k => XS.dconst0 X1253.here hx rfl (hb hby at_231) (v := (0 : UInt64)) rfl k) ?_
      show OEnds p.tables e below G (T1253.setTop (mkF m 232 #[.val (.int p1), .val (.int p2), .val (.int p3), .val (.int p4), .val (.int p5), .val (.int p6), .val (.int (3 : Int32)), .val (.int v1200), .val (.int v1201), .val (.int v1202), .val (.int v1202), .val (.int v1204), .val (.int v1206), .val (.int r2), .val (.ref b_1208), .val (.ref b1212), .val (.ref b1228), .val (.double (own_rc (4613937818241073152 : UInt64) v1206)), .second, .val (.double (own_rc (4613937818241073152 : UInt64) v1206)), .second, .val (.double (own_rc (4613937818241073152 : UInt64) r2)), .second, .val (.int (1 : Int32))] [(.double (0 : UInt64)), (.double (own_rc (4613937818241073152 : UInt64) v1206))]))
      refine OEnds.st (fun _ k => XS.dcmpS X1253.here hx rfl (hb hby at_232) rfl rfl k) ?_
      show OEnds p.tables e below G (T1253.setTop (mkF m 233 #[.val (.int p1), .val (.int p2), .val (.int p3), .val (.int p4), .val (.int p5), .val (.int p6), .val (.int (3 : Int32)), .val (.int v1200), .val (.int v1201), .val (.int v1202), .val (.int v1202), .val (.int v1204), .val (.int v1206), .val (.int r2), .val (.ref b_1208), .val (.ref b1212), .val (.ref b1228), .val (.double (own_rc (4613937818241073152 : UInt64) v1206)), .second, .val (.double (own_rc (4613937818241073152 : UInt64) v1206)), .second, .val (.double (own_rc (4613937818241073152 : UInt64) r2)), .second, .val (.int (1 : Int32))] [(.int (cmpValue (FP.dcmp (own_rc (4613937818241073152 : UInt64) v1206) (0 : UInt64)) .l))]))
      have hc233_1257 : ¬ ((cmpValue (FP.dcmp (own_rc (4613937818241073152 : UInt64) v1206) (0 : UInt64)) .l) = (0 : Int32)) := fun q => absurd (hM2.mp ((own_ceq hP1 own_Pz0 .l).mp q)) (by decide)
      refine OEnds.st (fun _ k => XS.ifYes X1253.here hx rfl (pc0 := 233) (pc' := 240) rfl (hb hby at_233) rfl ((if0 _ _).trans (feq hc233_1257).2) (by decide) (by decide) k) ?_
      show OEnds p.tables e below G (T1253.setTop (mkF m 240 #[.val (.int p1), .val (.int p2), .val (.int p3), .val (.int p4), .val (.int p5), .val (.int p6), .val (.int (3 : Int32)), .val (.int v1200), .val (.int v1201), .val (.int v1202), .val (.int v1202), .val (.int v1204), .val (.int v1206), .val (.int r2), .val (.ref b_1208), .val (.ref b1212), .val (.ref b1228), .val (.double (own_rc (4613937818241073152 : UInt64) v1206)), .second, .val (.double (own_rc (4613937818241073152 : UInt64) v1206)), .second, .val (.double (own_rc (4613937818241073152 : UInt64) r2)), .second, .val (.int (1 : Int32))] []))
      refine OEnds.st (fun _ k => XS.iconst X1253.here hx rfl (hb hby at_240) k) ?_
      show OEnds p.tables e below G (T1253.setTop (mkF m 241 #[.val (.int p1), .val (.int p2), .val (.int p3), .val (.int p4), .val (.int p5), .val (.int p6), .val (.int (3 : Int32)), .val (.int v1200), .val (.int v1201), .val (.int v1202), .val (.int v1202), .val (.int v1204), .val (.int v1206), .val (.int r2), .val (.ref b_1208), .val (.ref b1212), .val (.ref b1228), .val (.double (own_rc (4613937818241073152 : UInt64) v1206)), .second, .val (.double (own_rc (4613937818241073152 : UInt64) v1206)), .second, .val (.double (own_rc (4613937818241073152 : UInt64) r2)), .second, .val (.int (1 : Int32))] [(.int (0 : Int32))]))
      refine OEnds.st (fun _ k => XS.iload X1253.here hx rfl (hb hby at_241) rfl k) ?_
      show OEnds p.tables e below G (T1253.setTop (mkF m 243 #[.val (.int p1), .val (.int p2), .val (.int p3), .val (.int p4), .val (.int p5), .val (.int p6), .val (.int (3 : Int32)), .val (.int v1200), .val (.int v1201), .val (.int v1202), .val (.int v1202), .val (.int v1204), .val (.int v1206), .val (.int r2), .val (.ref b_1208), .val (.ref b1212), .val (.ref b1228), .val (.double (own_rc (4613937818241073152 : UInt64) v1206)), .second, .val (.double (own_rc (4613937818241073152 : UInt64) v1206)), .second, .val (.double (own_rc (4613937818241073152 : UInt64) r2)), .second, .val (.int (1 : Int32))] [(.int (3 : Int32)), (.int (0 : Int32))]))
      refine OEnds.st (fun _ k => XS.ifNo X1253.here hx rfl (hb hby at_243) rfl ((if0 _ _).trans (feq (by decide : ¬ ((3 : Int32) = (0 : Int32)))).1) k) ?_
      show OEnds p.tables e below G (T1253.setTop (mkF m 246 #[.val (.int p1), .val (.int p2), .val (.int p3), .val (.int p4), .val (.int p5), .val (.int p6), .val (.int (3 : Int32)), .val (.int v1200), .val (.int v1201), .val (.int v1202), .val (.int v1202), .val (.int v1204), .val (.int v1206), .val (.int r2), .val (.ref b_1208), .val (.ref b1212), .val (.ref b1228), .val (.double (own_rc (4613937818241073152 : UInt64) v1206)), .second, .val (.double (own_rc (4613937818241073152 : UInt64) v1206)), .second, .val (.double (own_rc (4613937818241073152 : UInt64) r2)), .second, .val (.int (1 : Int32))] [(.int (0 : Int32))]))
      refine OEnds.st (fun _ k => XS.iload X1253.here hx rfl (hb hby at_246) rfl k) ?_
      show OEnds p.tables e below G (T1253.setTop (mkF m 248 #[.val (.int p1), .val (.int p2), .val (.int p3), .val (.int p4), .val (.int p5), .val (.int p6), .val (.int (3 : Int32)), .val (.int v1200), .val (.int v1201), .val (.int v1202), .val (.int v1202), .val (.int v1204), .val (.int v1206), .val (.int r2), .val (.ref b_1208), .val (.ref b1212), .val (.ref b1228), .val (.double (own_rc (4613937818241073152 : UInt64) v1206)), .second, .val (.double (own_rc (4613937818241073152 : UInt64) v1206)), .second, .val (.double (own_rc (4613937818241073152 : UInt64) r2)), .second, .val (.int (1 : Int32))] [(.int v1206), (.int (0 : Int32))]))
      refine OEnds.st (fun _ k => XS.ifYes X1253.here hx rfl (pc0 := 248) (pc' := 255) rfl (hb hby at_248) rfl ((if0 _ _).trans (feq hr0).2) (by decide) (by decide) k) ?_
      show OEnds p.tables e below G (T1253.setTop (mkF m 255 #[.val (.int p1), .val (.int p2), .val (.int p3), .val (.int p4), .val (.int p5), .val (.int p6), .val (.int (3 : Int32)), .val (.int v1200), .val (.int v1201), .val (.int v1202), .val (.int v1202), .val (.int v1204), .val (.int v1206), .val (.int r2), .val (.ref b_1208), .val (.ref b1212), .val (.ref b1228), .val (.double (own_rc (4613937818241073152 : UInt64) v1206)), .second, .val (.double (own_rc (4613937818241073152 : UInt64) v1206)), .second, .val (.double (own_rc (4613937818241073152 : UInt64) r2)), .second, .val (.int (1 : Int32))] [(.int (0 : Int32))]))
      refine OEnds.st (fun _ k => XS.iconst X1253.here hx rfl (hb hby at_255) k) ?_
      show OEnds p.tables e below G (T1253.setTop (mkF m 256 #[.val (.int p1), .val (.int p2), .val (.int p3), .val (.int p4), .val (.int p5), .val (.int p6), .val (.int (3 : Int32)), .val (.int v1200), .val (.int v1201), .val (.int v1202), .val (.int v1202), .val (.int v1204), .val (.int v1206), .val (.int r2), .val (.ref b_1208), .val (.ref b1212), .val (.ref b1228), .val (.double (own_rc (4613937818241073152 : UInt64) v1206)), .second, .val (.double (own_rc (4613937818241073152 : UInt64) v1206)), .second, .val (.double (own_rc (4613937818241073152 : UInt64) r2)), .second, .val (.int (1 : Int32))] [(.int (0 : Int32)), (.int (0 : Int32))]))
      refine OEnds.st (fun _ k => XS.icmpNo X1253.here hx rfl (hb hby at_256) rfl (teq (by decide : (0 : Int32) = (0 : Int32))).2 k) ?_
      show OEnds p.tables e below G (T1253.setTop (mkF m 259 #[.val (.int p1), .val (.int p2), .val (.int p3), .val (.int p4), .val (.int p5), .val (.int p6), .val (.int (3 : Int32)), .val (.int v1200), .val (.int v1201), .val (.int v1202), .val (.int v1202), .val (.int v1204), .val (.int v1206), .val (.int r2), .val (.ref b_1208), .val (.ref b1212), .val (.ref b1228), .val (.double (own_rc (4613937818241073152 : UInt64) v1206)), .second, .val (.double (own_rc (4613937818241073152 : UInt64) v1206)), .second, .val (.double (own_rc (4613937818241073152 : UInt64) r2)), .second, .val (.int (1 : Int32))] []))
      refine OEnds.st (fun _ k => XS.iconst X1253.here hx rfl (hb hby at_259) k) ?_
      show OEnds p.tables e below G (T1253.setTop (mkF m 260 #[.val (.int p1), .val (.int p2), .val (.int p3), .val (.int p4), .val (.int p5), .val (.int p6), .val (.int (3 : Int32)), .val (.int v1200), .val (.int v1201), .val (.int v1202), .val (.int v1202), .val (.int v1204), .val (.int v1206), .val (.int r2), .val (.ref b_1208), .val (.ref b1212), .val (.ref b1228), .val (.double (own_rc (4613937818241073152 : UInt64) v1206)), .second, .val (.double (own_rc (4613937818241073152 : UInt64) v1206)), .second, .val (.double (own_rc (4613937818241073152 : UInt64) r2)), .second, .val (.int (1 : Int32))] [(.int (1 : Int32))]))
      refine OEnds.st (fun _ k => XS.goto X1253.here hx rfl (pc0 := 260) (pc' := 264) rfl (hb hby at_260) (by decide) (by decide) k) ?_
      show OEnds p.tables e below G (T1253.setTop (mkF m 264 #[.val (.int p1), .val (.int p2), .val (.int p3), .val (.int p4), .val (.int p5), .val (.int p6), .val (.int (3 : Int32)), .val (.int v1200), .val (.int v1201), .val (.int v1202), .val (.int v1202), .val (.int v1204), .val (.int v1206), .val (.int r2), .val (.ref b_1208), .val (.ref b1212), .val (.ref b1228), .val (.double (own_rc (4613937818241073152 : UInt64) v1206)), .second, .val (.double (own_rc (4613937818241073152 : UInt64) v1206)), .second, .val (.double (own_rc (4613937818241073152 : UInt64) r2)), .second, .val (.int (1 : Int32))] [(.int (1 : Int32))]))
      refine OEnds.st (fun _ k => XS.istore X1253.here hx rfl (hb hby at_264) rfl (l' := #[.val (.int p1), .val (.int p2), .val (.int p3), .val (.int p4), .val (.int p5), .val (.int p6), .val (.int (3 : Int32)), .val (.int v1200), .val (.int v1201), .val (.int v1202), .val (.int v1202), .val (.int v1204), .val (.int v1206), .val (.int r2), .val (.ref b_1208), .val (.ref b1212), .val (.ref b1228), .val (.double (own_rc (4613937818241073152 : UInt64) v1206)), .second, .val (.double (own_rc (4613937818241073152 : UInt64) v1206)), .second, .val (.double (own_rc (4613937818241073152 : UInt64) r2)), .second, .val (.int (1 : Int32))]) rfl k) ?_
      show OEnds p.tables e below G (T1253.setTop (mkF m 266 #[.val (.int p1), .val (.int p2), .val (.int p3), .val (.int p4), .val (.int p5), .val (.int p6), .val (.int (3 : Int32)), .val (.int v1200), .val (.int v1201), .val (.int v1202), .val (.int v1202), .val (.int v1204), .val (.int v1206), .val (.int r2), .val (.ref b_1208), .val (.ref b1212), .val (.ref b1228), .val (.double (own_rc (4613937818241073152 : UInt64) v1206)), .second, .val (.double (own_rc (4613937818241073152 : UInt64) v1206)), .second, .val (.double (own_rc (4613937818241073152 : UInt64) r2)), .second, .val (.int (1 : Int32))] []))
      refine OEnds.st (fun _ k => XS.iload X1253.here hx rfl (hb hby at_266) rfl k) ?_
      show OEnds p.tables e below G (T1253.setTop (mkF m 268 #[.val (.int p1), .val (.int p2), .val (.int p3), .val (.int p4), .val (.int p5), .val (.int p6), .val (.int (3 : Int32)), .val (.int v1200), .val (.int v1201), .val (.int v1202), .val (.int v1202), .val (.int v1204), .val (.int v1206), .val (.int r2), .val (.ref b_1208), .val (.ref b1212), .val (.ref b1228), .val (.double (own_rc (4613937818241073152 : UInt64) v1206)), .second, .val (.double (own_rc (4613937818241073152 : UInt64) v1206)), .second, .val (.double (own_rc (4613937818241073152 : UInt64) r2)), .second, .val (.int (1 : Int32))] [(.int (1 : Int32))]))
      refine OEnds.st (fun _ k => XS.ifNo X1253.here hx rfl (hb hby at_268) rfl ((if0 _ _).trans (feq (by decide : ¬ ((1 : Int32) = (0 : Int32)))).1) k) ?_
      have rest308_1258 :  OEnds p.tables e below G (T1253.setTop (mkF m 308 #[.val (.int p1), .val (.int p2), .val (.int p3), .val (.int p4), .val (.int p5), .val (.int p6), .val (.int (3 : Int32)), .val (.int v1200), .val (.int v1201), .val (.int v1202), .val (.int v1202), .val (.int v1204), .val (.int v1206), .val (.int r2), .val (.ref b_1208), .val (.ref b1212), .val (.ref b1228), .val (.double (own_rc (4613937818241073152 : UInt64) v1206)), .second, .val (.double (own_rc (4613937818241073152 : UInt64) v1206)), .second, .val (.double (own_rc (4613937818241073152 : UInt64) r2)), .second, .val (.int (1 : Int32))] [(.int (1 : Int32))])) := by
        show OEnds p.tables e below G (T1253.setTop (mkF m 308 #[.val (.int p1), .val (.int p2), .val (.int p3), .val (.int p4), .val (.int p5), .val (.int p6), .val (.int (3 : Int32)), .val (.int v1200), .val (.int v1201), .val (.int v1202), .val (.int v1202), .val (.int v1204), .val (.int v1206), .val (.int r2), .val (.ref b_1208), .val (.ref b1212), .val (.ref b1228), .val (.double (own_rc (4613937818241073152 : UInt64) v1206)), .second, .val (.double (own_rc (4613937818241073152 : UInt64) v1206)), .second, .val (.double (own_rc (4613937818241073152 : UInt64) r2)), .second, .val (.int (1 : Int32))] [(.int (1 : Int32))]))
        refine OEnds.st (fun _ k => XS.istore X1253.here hx rfl (hb hby at_308) rfl (l' := #[.val (.int p1), .val (.int p2), .val (.int p3), .val (.int p4), .val (.int p5), .val (.int p6), .val (.int (3 : Int32)), .val (.int v1200), .val (.int v1201), .val (.int v1202), .val (.int v1202), .val (.int v1204), .val (.int v1206), .val (.int r2), .val (.ref b_1208), .val (.ref b1212), .val (.ref b1228), .val (.double (own_rc (4613937818241073152 : UInt64) v1206)), .second, .val (.double (own_rc (4613937818241073152 : UInt64) v1206)), .second, .val (.double (own_rc (4613937818241073152 : UInt64) r2)), .second, .val (.int (1 : Int32))]) rfl k) ?_
        rcases hR2 with hm | ⟨hm, hi2⟩
        ·
          show OEnds p.tables e below G (T1253.setTop (mkF m 310 #[.val (.int p1), .val (.int p2), .val (.int p3), .val (.int p4), .val (.int p5), .val (.int p6), .val (.int (3 : Int32)), .val (.int v1200), .val (.int v1201), .val (.int v1202), .val (.int v1202), .val (.int v1204), .val (.int v1206), .val (.int r2), .val (.ref b_1208), .val (.ref b1212), .val (.ref b1228), .val (.double (own_rc (4613937818241073152 : UInt64) v1206)), .second, .val (.double (own_rc (4613937818241073152 : UInt64) v1206)), .second, .val (.double (own_rc (4613937818241073152 : UInt64) r2)), .second, .val (.int (1 : Int32))] []))
          refine OEnds.st (fun _ k => XS.iload X1253.here hx rfl (hb hby at_310) rfl k) ?_
          show OEnds p.tables e below G (T1253.setTop (mkF m 312 #[.val (.int p1), .val (.int p2), .val (.int p3), .val (.int p4), .val (.int p5), .val (.int p6), .val (.int (3 : Int32)), .val (.int v1200), .val (.int v1201), .val (.int v1202), .val (.int v1202), .val (.int v1204), .val (.int v1206), .val (.int r2), .val (.ref b_1208), .val (.ref b1212), .val (.ref b1228), .val (.double (own_rc (4613937818241073152 : UInt64) v1206)), .second, .val (.double (own_rc (4613937818241073152 : UInt64) v1206)), .second, .val (.double (own_rc (4613937818241073152 : UInt64) r2)), .second, .val (.int (1 : Int32))] [(.int v1206)]))
          refine OEnds.st (X1253.ldcInt hx hown (mvT hZ (hw _ (List.mem_of_getElem? (i := 5) rfl))) (g := (mkF m 312 #[.val (.int p1), .val (.int p2), .val (.int p3), .val (.int p4), .val (.int p5), .val (.int p6), .val (.int (3 : Int32)), .val (.int v1200), .val (.int v1201), .val (.int v1202), .val (.int v1202), .val (.int v1204), .val (.int v1206), .val (.int r2), .val (.ref b_1208), .val (.ref b1212), .val (.ref b1228), .val (.double (own_rc (4613937818241073152 : UInt64) v1206)), .second, .val (.double (own_rc (4613937818241073152 : UInt64) v1206)), .second, .val (.double (own_rc (4613937818241073152 : UInt64) r2)), .second, .val (.int (1 : Int32))] [(.int v1206)])) rfl (hb hby at_312)) ?_
          show OEnds p.tables e below G (T1253.setTop (mkF m 314 #[.val (.int p1), .val (.int p2), .val (.int p3), .val (.int p4), .val (.int p5), .val (.int p6), .val (.int (3 : Int32)), .val (.int v1200), .val (.int v1201), .val (.int v1202), .val (.int v1202), .val (.int v1204), .val (.int v1206), .val (.int r2), .val (.ref b_1208), .val (.ref b1212), .val (.ref b1228), .val (.double (own_rc (4613937818241073152 : UInt64) v1206)), .second, .val (.double (own_rc (4613937818241073152 : UInt64) v1206)), .second, .val (.double (own_rc (4613937818241073152 : UInt64) r2)), .second, .val (.int (1 : Int32))] [(.int (2147483647 : Int32)), (.int v1206)]))
          have hc314_1259 : ¬ (v1206 < (2147483647 : Int32)) := own_gtM hm
          refine OEnds.st (fun _ k => XS.icmpYes X1253.here hx rfl (pc0 := 314) (pc' := 371) rfl (hb hby at_314) rfl (flt hc314_1259).2.1 (by decide) (by decide) k) ?_
          show OEnds p.tables e below G (T1253.setTop (mkF m 371 #[.val (.int p1), .val (.int p2), .val (.int p3), .val (.int p4), .val (.int p5), .val (.int p6), .val (.int (3 : Int32)), .val (.int v1200), .val (.int v1201), .val (.int v1202), .val (.int v1202), .val (.int v1204), .val (.int v1206), .val (.int r2), .val (.ref b_1208), .val (.ref b1212), .val (.ref b1228), .val (.double (own_rc (4613937818241073152 : UInt64) v1206)), .second, .val (.double (own_rc (4613937818241073152 : UInt64) v1206)), .second, .val (.double (own_rc (4613937818241073152 : UInt64) r2)), .second, .val (.int (1 : Int32))] []))
          refine OEnds.st (fun _ k => XS.iload X1253.here hx rfl (hb hby at_371) rfl k) ?_
          show OEnds p.tables e below G (T1253.setTop (mkF m 373 #[.val (.int p1), .val (.int p2), .val (.int p3), .val (.int p4), .val (.int p5), .val (.int p6), .val (.int (3 : Int32)), .val (.int v1200), .val (.int v1201), .val (.int v1202), .val (.int v1202), .val (.int v1204), .val (.int v1206), .val (.int r2), .val (.ref b_1208), .val (.ref b1212), .val (.ref b1228), .val (.double (own_rc (4613937818241073152 : UInt64) v1206)), .second, .val (.double (own_rc (4613937818241073152 : UInt64) v1206)), .second, .val (.double (own_rc (4613937818241073152 : UInt64) r2)), .second, .val (.int (1 : Int32))] [(.int (1 : Int32))]))
          rw [← hG]
          refine OEnds.retZ X1253 hx hlk Bd.returns rfl (hb hby at_373) (by decide) (by decide) ?_
          rw [e1253]
          exact ⟨rfl, N1253⟩
        ·
          obtain ⟨M2, hP2, -, hN2, -⟩ := own_R (rel := r2) own_B3 (by decide) (by omega)
          show OEnds p.tables e below G (T1253.setTop (mkF m 310 #[.val (.int p1), .val (.int p2), .val (.int p3), .val (.int p4), .val (.int p5), .val (.int p6), .val (.int (3 : Int32)), .val (.int v1200), .val (.int v1201), .val (.int v1202), .val (.int v1202), .val (.int v1204), .val (.int v1206), .val (.int r2), .val (.ref b_1208), .val (.ref b1212), .val (.ref b1228), .val (.double (own_rc (4613937818241073152 : UInt64) v1206)), .second, .val (.double (own_rc (4613937818241073152 : UInt64) v1206)), .second, .val (.double (own_rc (4613937818241073152 : UInt64) r2)), .second, .val (.int (1 : Int32))] []))
          refine OEnds.st (fun _ k => XS.iload X1253.here hx rfl (hb hby at_310) rfl k) ?_
          show OEnds p.tables e below G (T1253.setTop (mkF m 312 #[.val (.int p1), .val (.int p2), .val (.int p3), .val (.int p4), .val (.int p5), .val (.int p6), .val (.int (3 : Int32)), .val (.int v1200), .val (.int v1201), .val (.int v1202), .val (.int v1202), .val (.int v1204), .val (.int v1206), .val (.int r2), .val (.ref b_1208), .val (.ref b1212), .val (.ref b1228), .val (.double (own_rc (4613937818241073152 : UInt64) v1206)), .second, .val (.double (own_rc (4613937818241073152 : UInt64) v1206)), .second, .val (.double (own_rc (4613937818241073152 : UInt64) r2)), .second, .val (.int (1 : Int32))] [(.int v1206)]))
          refine OEnds.st (X1253.ldcInt hx hown (mvT hZ (hw _ (List.mem_of_getElem? (i := 5) rfl))) (g := (mkF m 312 #[.val (.int p1), .val (.int p2), .val (.int p3), .val (.int p4), .val (.int p5), .val (.int p6), .val (.int (3 : Int32)), .val (.int v1200), .val (.int v1201), .val (.int v1202), .val (.int v1202), .val (.int v1204), .val (.int v1206), .val (.int r2), .val (.ref b_1208), .val (.ref b1212), .val (.ref b1228), .val (.double (own_rc (4613937818241073152 : UInt64) v1206)), .second, .val (.double (own_rc (4613937818241073152 : UInt64) v1206)), .second, .val (.double (own_rc (4613937818241073152 : UInt64) r2)), .second, .val (.int (1 : Int32))] [(.int v1206)])) rfl (hb hby at_312)) ?_
          show OEnds p.tables e below G (T1253.setTop (mkF m 314 #[.val (.int p1), .val (.int p2), .val (.int p3), .val (.int p4), .val (.int p5), .val (.int p6), .val (.int (3 : Int32)), .val (.int v1200), .val (.int v1201), .val (.int v1202), .val (.int v1202), .val (.int v1204), .val (.int v1206), .val (.int r2), .val (.ref b_1208), .val (.ref b1212), .val (.ref b1228), .val (.double (own_rc (4613937818241073152 : UInt64) v1206)), .second, .val (.double (own_rc (4613937818241073152 : UInt64) v1206)), .second, .val (.double (own_rc (4613937818241073152 : UInt64) r2)), .second, .val (.int (1 : Int32))] [(.int (2147483647 : Int32)), (.int v1206)]))
          have hc314_1260 : v1206 < (2147483647 : Int32) := own_ltM hm
          refine OEnds.st (fun _ k => XS.icmpNo X1253.here hx rfl (hb hby at_314) rfl (tlt hc314_1260).2.1 k) ?_
          show OEnds p.tables e below G (T1253.setTop (mkF m 317 #[.val (.int p1), .val (.int p2), .val (.int p3), .val (.int p4), .val (.int p5), .val (.int p6), .val (.int (3 : Int32)), .val (.int v1200), .val (.int v1201), .val (.int v1202), .val (.int v1202), .val (.int v1204), .val (.int v1206), .val (.int r2), .val (.ref b_1208), .val (.ref b1212), .val (.ref b1228), .val (.double (own_rc (4613937818241073152 : UInt64) v1206)), .second, .val (.double (own_rc (4613937818241073152 : UInt64) v1206)), .second, .val (.double (own_rc (4613937818241073152 : UInt64) r2)), .second, .val (.int (1 : Int32))] []))
          refine OEnds.st (fun _ k => XS.iload X1253.here hx rfl (hb hby at_317) rfl k) ?_
          show OEnds p.tables e below G (T1253.setTop (mkF m 319 #[.val (.int p1), .val (.int p2), .val (.int p3), .val (.int p4), .val (.int p5), .val (.int p6), .val (.int (3 : Int32)), .val (.int v1200), .val (.int v1201), .val (.int v1202), .val (.int v1202), .val (.int v1204), .val (.int v1206), .val (.int r2), .val (.ref b_1208), .val (.ref b1212), .val (.ref b1228), .val (.double (own_rc (4613937818241073152 : UInt64) v1206)), .second, .val (.double (own_rc (4613937818241073152 : UInt64) v1206)), .second, .val (.double (own_rc (4613937818241073152 : UInt64) r2)), .second, .val (.int (1 : Int32))] [(.int (3 : Int32))]))
          refine OEnds.st (fun _ k => XS.ifNo X1253.here hx rfl (hb hby at_319) rfl ((if0 _ _).trans (tlt (by decide : (0 : Int32) < (3 : Int32))).2.2.2) k) ?_
          show OEnds p.tables e below G (T1253.setTop (mkF m 322 #[.val (.int p1), .val (.int p2), .val (.int p3), .val (.int p4), .val (.int p5), .val (.int p6), .val (.int (3 : Int32)), .val (.int v1200), .val (.int v1201), .val (.int v1202), .val (.int v1202), .val (.int v1204), .val (.int v1206), .val (.int r2), .val (.ref b_1208), .val (.ref b1212), .val (.ref b1228), .val (.double (own_rc (4613937818241073152 : UInt64) v1206)), .second, .val (.double (own_rc (4613937818241073152 : UInt64) v1206)), .second, .val (.double (own_rc (4613937818241073152 : UInt64) r2)), .second, .val (.int (1 : Int32))] []))
          refine OEnds.st (fun _ k => XS.iload X1253.here hx rfl (hb hby at_322) rfl k) ?_
          show OEnds p.tables e below G (T1253.setTop (mkF m 324 #[.val (.int p1), .val (.int p2), .val (.int p3), .val (.int p4), .val (.int p5), .val (.int p6), .val (.int (3 : Int32)), .val (.int v1200), .val (.int v1201), .val (.int v1202), .val (.int v1202), .val (.int v1204), .val (.int v1206), .val (.int r2), .val (.ref b_1208), .val (.ref b1212), .val (.ref b1228), .val (.double (own_rc (4613937818241073152 : UInt64) v1206)), .second, .val (.double (own_rc (4613937818241073152 : UInt64) v1206)), .second, .val (.double (own_rc (4613937818241073152 : UInt64) r2)), .second, .val (.int (1 : Int32))] [(.int (1 : Int32))]))
          refine OEnds.st (fun _ k => XS.ifNo X1253.here hx rfl (hb hby at_324) rfl ((if0 _ _).trans (feq (by decide : ¬ ((1 : Int32) = (0 : Int32)))).1) k) ?_
          show OEnds p.tables e below G (T1253.setTop (mkF m 327 #[.val (.int p1), .val (.int p2), .val (.int p3), .val (.int p4), .val (.int p5), .val (.int p6), .val (.int (3 : Int32)), .val (.int v1200), .val (.int v1201), .val (.int v1202), .val (.int v1202), .val (.int v1204), .val (.int v1206), .val (.int r2), .val (.ref b_1208), .val (.ref b1212), .val (.ref b1228), .val (.double (own_rc (4613937818241073152 : UInt64) v1206)), .second, .val (.double (own_rc (4613937818241073152 : UInt64) v1206)), .second, .val (.double (own_rc (4613937818241073152 : UInt64) r2)), .second, .val (.int (1 : Int32))] []))
          refine OEnds.st (fun _ k => XS.dload X1253.here hx rfl (hb hby at_327) rfl k) ?_
          show OEnds p.tables e below G (T1253.setTop (mkF m 329 #[.val (.int p1), .val (.int p2), .val (.int p3), .val (.int p4), .val (.int p5), .val (.int p6), .val (.int (3 : Int32)), .val (.int v1200), .val (.int v1201), .val (.int v1202), .val (.int v1202), .val (.int v1204), .val (.int v1206), .val (.int r2), .val (.ref b_1208), .val (.ref b1212), .val (.ref b1228), .val (.double (own_rc (4613937818241073152 : UInt64) v1206)), .second, .val (.double (own_rc (4613937818241073152 : UInt64) v1206)), .second, .val (.double (own_rc (4613937818241073152 : UInt64) r2)), .second, .val (.int (1 : Int32))] [(.double (own_rc (4613937818241073152 : UInt64) r2))]))
          refine OEnds.st (fun _ k => XS.dload X1253.here hx rfl (hb hby at_329) rfl k) ?_
          show OEnds p.tables e below G (T1253.setTop (mkF m 331 #[.val (.int p1), .val (.int p2), .val (.int p3), .val (.int p4), .val (.int p5), .val (.int p6), .val (.int (3 : Int32)), .val (.int v1200), .val (.int v1201), .val (.int v1202), .val (.int v1202), .val (.int v1204), .val (.int v1206), .val (.int r2), .val (.ref b_1208), .val (.ref b1212), .val (.ref b1228), .val (.double (own_rc (4613937818241073152 : UInt64) v1206)), .second, .val (.double (own_rc (4613937818241073152 : UInt64) v1206)), .second, .val (.double (own_rc (4613937818241073152 : UInt64) r2)), .second, .val (.int (1 : Int32))] [(.double (own_rc (4613937818241073152 : UInt64) v1206)), (.double (own_rc (4613937818241073152 : UInt64) r2))]))
          refine OEnds.st (fun _ k => XS.dcmpS X1253.here hx rfl (hb hby at_331) rfl rfl k) ?_
          show OEnds p.tables e below G (T1253.setTop (mkF m 332 #[.val (.int p1), .val (.int p2), .val (.int p3), .val (.int p4), .val (.int p5), .val (.int p6), .val (.int (3 : Int32)), .val (.int v1200), .val (.int v1201), .val (.int v1202), .val (.int v1202), .val (.int v1204), .val (.int v1206), .val (.int r2), .val (.ref b_1208), .val (.ref b1212), .val (.ref b1228), .val (.double (own_rc (4613937818241073152 : UInt64) v1206)), .second, .val (.double (own_rc (4613937818241073152 : UInt64) v1206)), .second, .val (.double (own_rc (4613937818241073152 : UInt64) r2)), .second, .val (.int (1 : Int32))] [(.int (cmpValue (FP.dcmp (own_rc (4613937818241073152 : UInt64) r2) (own_rc (4613937818241073152 : UInt64) v1206)) .g))]))
          have hc332_1261 : (cmpValue (FP.dcmp (own_rc (4613937818241073152 : UInt64) r2) (own_rc (4613937818241073152 : UInt64) v1206)) .g) < (0 : Int32) := (own_clt hP2 hP1 .g).mpr (own_S own_B3 (by decide) (by decide) hrel hi2 hP1 hP2)
          refine OEnds.st (fun _ k => XS.ifNo X1253.here hx rfl (hb hby at_332) rfl ((if0 _ _).trans (tlt hc332_1261).2.1) k) ?_
          show OEnds p.tables e below G (T1253.setTop (mkF m 335 #[.val (.int p1), .val (.int p2), .val (.int p3), .val (.int p4), .val (.int p5), .val (.int p6), .val (.int (3 : Int32)), .val (.int v1200), .val (.int v1201), .val (.int v1202), .val (.int v1202), .val (.int v1204), .val (.int v1206), .val (.int r2), .val (.ref b_1208), .val (.ref b1212), .val (.ref b1228), .val (.double (own_rc (4613937818241073152 : UInt64) v1206)), .second, .val (.double (own_rc (4613937818241073152 : UInt64) v1206)), .second, .val (.double (own_rc (4613937818241073152 : UInt64) r2)), .second, .val (.int (1 : Int32))] []))
          refine OEnds.st (fun _ k => XS.iconst X1253.here hx rfl (hb hby at_335) k) ?_
          show OEnds p.tables e below G (T1253.setTop (mkF m 336 #[.val (.int p1), .val (.int p2), .val (.int p3), .val (.int p4), .val (.int p5), .val (.int p6), .val (.int (3 : Int32)), .val (.int v1200), .val (.int v1201), .val (.int v1202), .val (.int v1202), .val (.int v1204), .val (.int v1206), .val (.int r2), .val (.ref b_1208), .val (.ref b1212), .val (.ref b1228), .val (.double (own_rc (4613937818241073152 : UInt64) v1206)), .second, .val (.double (own_rc (4613937818241073152 : UInt64) v1206)), .second, .val (.double (own_rc (4613937818241073152 : UInt64) r2)), .second, .val (.int (1 : Int32))] [(.int (1 : Int32))]))
          refine OEnds.st (fun _ k => XS.goto X1253.here hx rfl (pc0 := 336) (pc' := 340) rfl (hb hby at_336) (by decide) (by decide) k) ?_
          show OEnds p.tables e below G (T1253.setTop (mkF m 340 #[.val (.int p1), .val (.int p2), .val (.int p3), .val (.int p4), .val (.int p5), .val (.int p6), .val (.int (3 : Int32)), .val (.int v1200), .val (.int v1201), .val (.int v1202), .val (.int v1202), .val (.int v1204), .val (.int v1206), .val (.int r2), .val (.ref b_1208), .val (.ref b1212), .val (.ref b1228), .val (.double (own_rc (4613937818241073152 : UInt64) v1206)), .second, .val (.double (own_rc (4613937818241073152 : UInt64) v1206)), .second, .val (.double (own_rc (4613937818241073152 : UInt64) r2)), .second, .val (.int (1 : Int32))] [(.int (1 : Int32))]))
          refine OEnds.st (fun _ k => XS.istore X1253.here hx rfl (hb hby at_340) rfl (l' := #[.val (.int p1), .val (.int p2), .val (.int p3), .val (.int p4), .val (.int p5), .val (.int p6), .val (.int (3 : Int32)), .val (.int v1200), .val (.int v1201), .val (.int v1202), .val (.int v1202), .val (.int v1204), .val (.int v1206), .val (.int r2), .val (.ref b_1208), .val (.ref b1212), .val (.ref b1228), .val (.double (own_rc (4613937818241073152 : UInt64) v1206)), .second, .val (.double (own_rc (4613937818241073152 : UInt64) v1206)), .second, .val (.double (own_rc (4613937818241073152 : UInt64) r2)), .second, .val (.int (1 : Int32))]) rfl k) ?_
          show OEnds p.tables e below G (T1253.setTop (mkF m 342 #[.val (.int p1), .val (.int p2), .val (.int p3), .val (.int p4), .val (.int p5), .val (.int p6), .val (.int (3 : Int32)), .val (.int v1200), .val (.int v1201), .val (.int v1202), .val (.int v1202), .val (.int v1204), .val (.int v1206), .val (.int r2), .val (.ref b_1208), .val (.ref b1212), .val (.ref b1228), .val (.double (own_rc (4613937818241073152 : UInt64) v1206)), .second, .val (.double (own_rc (4613937818241073152 : UInt64) v1206)), .second, .val (.double (own_rc (4613937818241073152 : UInt64) r2)), .second, .val (.int (1 : Int32))] []))
          refine OEnds.st (fun _ k => XS.goto X1253.here hx rfl (pc0 := 342) (pc' := 371) rfl (hb hby at_342) (by decide) (by decide) k) ?_
          show OEnds p.tables e below G (T1253.setTop (mkF m 371 #[.val (.int p1), .val (.int p2), .val (.int p3), .val (.int p4), .val (.int p5), .val (.int p6), .val (.int (3 : Int32)), .val (.int v1200), .val (.int v1201), .val (.int v1202), .val (.int v1202), .val (.int v1204), .val (.int v1206), .val (.int r2), .val (.ref b_1208), .val (.ref b1212), .val (.ref b1228), .val (.double (own_rc (4613937818241073152 : UInt64) v1206)), .second, .val (.double (own_rc (4613937818241073152 : UInt64) v1206)), .second, .val (.double (own_rc (4613937818241073152 : UInt64) r2)), .second, .val (.int (1 : Int32))] []))
          refine OEnds.st (fun _ k => XS.iload X1253.here hx rfl (hb hby at_371) rfl k) ?_
          show OEnds p.tables e below G (T1253.setTop (mkF m 373 #[.val (.int p1), .val (.int p2), .val (.int p3), .val (.int p4), .val (.int p5), .val (.int p6), .val (.int (3 : Int32)), .val (.int v1200), .val (.int v1201), .val (.int v1202), .val (.int v1202), .val (.int v1204), .val (.int v1206), .val (.int r2), .val (.ref b_1208), .val (.ref b1212), .val (.ref b1228), .val (.double (own_rc (4613937818241073152 : UInt64) v1206)), .second, .val (.double (own_rc (4613937818241073152 : UInt64) v1206)), .second, .val (.double (own_rc (4613937818241073152 : UInt64) r2)), .second, .val (.int (1 : Int32))] [(.int (1 : Int32))]))
          rw [← hG]
          refine OEnds.retZ X1253 hx hlk Bd.returns rfl (hb hby at_373) (by decide) (by decide) ?_
          rw [e1253]
          exact ⟨rfl, N1253⟩
      by_cases hE1262 : (3 : Int32) = v1206
      ·
        show OEnds p.tables e below G (T1253.setTop (mkF m 271 #[.val (.int p1), .val (.int p2), .val (.int p3), .val (.int p4), .val (.int p5), .val (.int p6), .val (.int (3 : Int32)), .val (.int v1200), .val (.int v1201), .val (.int v1202), .val (.int v1202), .val (.int v1204), .val (.int v1206), .val (.int r2), .val (.ref b_1208), .val (.ref b1212), .val (.ref b1228), .val (.double (own_rc (4613937818241073152 : UInt64) v1206)), .second, .val (.double (own_rc (4613937818241073152 : UInt64) v1206)), .second, .val (.double (own_rc (4613937818241073152 : UInt64) r2)), .second, .val (.int (1 : Int32))] []))
        refine OEnds.st (fun _ k => XS.dload X1253.here hx rfl (hb hby at_271) rfl k) ?_
        show OEnds p.tables e below G (T1253.setTop (mkF m 273 #[.val (.int p1), .val (.int p2), .val (.int p3), .val (.int p4), .val (.int p5), .val (.int p6), .val (.int (3 : Int32)), .val (.int v1200), .val (.int v1201), .val (.int v1202), .val (.int v1202), .val (.int v1204), .val (.int v1206), .val (.int r2), .val (.ref b_1208), .val (.ref b1212), .val (.ref b1228), .val (.double (own_rc (4613937818241073152 : UInt64) v1206)), .second, .val (.double (own_rc (4613937818241073152 : UInt64) v1206)), .second, .val (.double (own_rc (4613937818241073152 : UInt64) r2)), .second, .val (.int (1 : Int32))] [(.double (own_rc (4613937818241073152 : UInt64) v1206))]))
        refine OEnds.st (fun _ k => XS.dconst1 X1253.here hx rfl (hb hby at_273) (v := (4607182418800017408 : UInt64)) rfl k) ?_
        show OEnds p.tables e below G (T1253.setTop (mkF m 274 #[.val (.int p1), .val (.int p2), .val (.int p3), .val (.int p4), .val (.int p5), .val (.int p6), .val (.int (3 : Int32)), .val (.int v1200), .val (.int v1201), .val (.int v1202), .val (.int v1202), .val (.int v1204), .val (.int v1206), .val (.int r2), .val (.ref b_1208), .val (.ref b1212), .val (.ref b1228), .val (.double (own_rc (4613937818241073152 : UInt64) v1206)), .second, .val (.double (own_rc (4613937818241073152 : UInt64) v1206)), .second, .val (.double (own_rc (4613937818241073152 : UInt64) r2)), .second, .val (.int (1 : Int32))] [(.double (4607182418800017408 : UInt64)), (.double (own_rc (4613937818241073152 : UInt64) v1206))]))
        refine OEnds.st (fun _ k => XS.dcmpS X1253.here hx rfl (hb hby at_274) rfl rfl k) ?_
        show OEnds p.tables e below G (T1253.setTop (mkF m 275 #[.val (.int p1), .val (.int p2), .val (.int p3), .val (.int p4), .val (.int p5), .val (.int p6), .val (.int (3 : Int32)), .val (.int v1200), .val (.int v1201), .val (.int v1202), .val (.int v1202), .val (.int v1204), .val (.int v1206), .val (.int r2), .val (.ref b_1208), .val (.ref b1212), .val (.ref b1228), .val (.double (own_rc (4613937818241073152 : UInt64) v1206)), .second, .val (.double (own_rc (4613937818241073152 : UInt64) v1206)), .second, .val (.double (own_rc (4613937818241073152 : UInt64) r2)), .second, .val (.int (1 : Int32))] [(.int (cmpValue (FP.dcmp (own_rc (4613937818241073152 : UInt64) v1206) (4607182418800017408 : UInt64)) .l))]))
        have hc275_1263 : (cmpValue (FP.dcmp (own_rc (4613937818241073152 : UInt64) v1206) (4607182418800017408 : UInt64)) .l) = (0 : Int32) := (own_ceq hP1 own_B1 .l).mpr (hM3.mpr ⟨by decide, by
            have kn : (3 : Int32).toInt = 3 := by decide
            rw [hE1262] at kn
            omega⟩)
        refine OEnds.st (fun _ k => XS.ifNo X1253.here hx rfl (hb hby at_275) rfl ((if0 _ _).trans (teq hc275_1263).2) k) ?_
        show OEnds p.tables e below G (T1253.setTop (mkF m 278 #[.val (.int p1), .val (.int p2), .val (.int p3), .val (.int p4), .val (.int p5), .val (.int p6), .val (.int (3 : Int32)), .val (.int v1200), .val (.int v1201), .val (.int v1202), .val (.int v1202), .val (.int v1204), .val (.int v1206), .val (.int r2), .val (.ref b_1208), .val (.ref b1212), .val (.ref b1228), .val (.double (own_rc (4613937818241073152 : UInt64) v1206)), .second, .val (.double (own_rc (4613937818241073152 : UInt64) v1206)), .second, .val (.double (own_rc (4613937818241073152 : UInt64) r2)), .second, .val (.int (1 : Int32))] []))
        refine OEnds.st (fun _ k => XS.iconst X1253.here hx rfl (hb hby at_278) k) ?_
        show OEnds p.tables e below G (T1253.setTop (mkF m 279 #[.val (.int p1), .val (.int p2), .val (.int p3), .val (.int p4), .val (.int p5), .val (.int p6), .val (.int (3 : Int32)), .val (.int v1200), .val (.int v1201), .val (.int v1202), .val (.int v1202), .val (.int v1204), .val (.int v1206), .val (.int r2), .val (.ref b_1208), .val (.ref b1212), .val (.ref b1228), .val (.double (own_rc (4613937818241073152 : UInt64) v1206)), .second, .val (.double (own_rc (4613937818241073152 : UInt64) v1206)), .second, .val (.double (own_rc (4613937818241073152 : UInt64) r2)), .second, .val (.int (1 : Int32))] [(.int (1 : Int32))]))
        refine OEnds.st (fun _ k => XS.goto X1253.here hx rfl (pc0 := 279) (pc' := 283) rfl (hb hby at_279) (by decide) (by decide) k) ?_
        show OEnds p.tables e below G (T1253.setTop (mkF m 283 #[.val (.int p1), .val (.int p2), .val (.int p3), .val (.int p4), .val (.int p5), .val (.int p6), .val (.int (3 : Int32)), .val (.int v1200), .val (.int v1201), .val (.int v1202), .val (.int v1202), .val (.int v1204), .val (.int v1206), .val (.int r2), .val (.ref b_1208), .val (.ref b1212), .val (.ref b1228), .val (.double (own_rc (4613937818241073152 : UInt64) v1206)), .second, .val (.double (own_rc (4613937818241073152 : UInt64) v1206)), .second, .val (.double (own_rc (4613937818241073152 : UInt64) r2)), .second, .val (.int (1 : Int32))] [(.int (1 : Int32))]))
        refine OEnds.st (fun _ k => XS.iload X1253.here hx rfl (hb hby at_283) rfl k) ?_
        show OEnds p.tables e below G (T1253.setTop (mkF m 285 #[.val (.int p1), .val (.int p2), .val (.int p3), .val (.int p4), .val (.int p5), .val (.int p6), .val (.int (3 : Int32)), .val (.int v1200), .val (.int v1201), .val (.int v1202), .val (.int v1202), .val (.int v1204), .val (.int v1206), .val (.int r2), .val (.ref b_1208), .val (.ref b1212), .val (.ref b1228), .val (.double (own_rc (4613937818241073152 : UInt64) v1206)), .second, .val (.double (own_rc (4613937818241073152 : UInt64) v1206)), .second, .val (.double (own_rc (4613937818241073152 : UInt64) r2)), .second, .val (.int (1 : Int32))] [(.int v1206), (.int (1 : Int32))]))
        refine OEnds.st (fun _ k => XS.ifNo X1253.here hx rfl (hb hby at_285) rfl ((if0 _ _).trans (feq hr0).1) k) ?_
        show OEnds p.tables e below G (T1253.setTop (mkF m 288 #[.val (.int p1), .val (.int p2), .val (.int p3), .val (.int p4), .val (.int p5), .val (.int p6), .val (.int (3 : Int32)), .val (.int v1200), .val (.int v1201), .val (.int v1202), .val (.int v1202), .val (.int v1204), .val (.int v1206), .val (.int r2), .val (.ref b_1208), .val (.ref b1212), .val (.ref b1228), .val (.double (own_rc (4613937818241073152 : UInt64) v1206)), .second, .val (.double (own_rc (4613937818241073152 : UInt64) v1206)), .second, .val (.double (own_rc (4613937818241073152 : UInt64) r2)), .second, .val (.int (1 : Int32))] [(.int (1 : Int32))]))
        refine OEnds.st (fun _ k => XS.iload X1253.here hx rfl (hb hby at_288) rfl k) ?_
        show OEnds p.tables e below G (T1253.setTop (mkF m 290 #[.val (.int p1), .val (.int p2), .val (.int p3), .val (.int p4), .val (.int p5), .val (.int p6), .val (.int (3 : Int32)), .val (.int v1200), .val (.int v1201), .val (.int v1202), .val (.int v1202), .val (.int v1204), .val (.int v1206), .val (.int r2), .val (.ref b_1208), .val (.ref b1212), .val (.ref b1228), .val (.double (own_rc (4613937818241073152 : UInt64) v1206)), .second, .val (.double (own_rc (4613937818241073152 : UInt64) v1206)), .second, .val (.double (own_rc (4613937818241073152 : UInt64) r2)), .second, .val (.int (1 : Int32))] [(.int (3 : Int32)), (.int (1 : Int32))]))
        refine OEnds.st (fun _ k => XS.iload X1253.here hx rfl (hb hby at_290) rfl k) ?_
        show OEnds p.tables e below G (T1253.setTop (mkF m 292 #[.val (.int p1), .val (.int p2), .val (.int p3), .val (.int p4), .val (.int p5), .val (.int p6), .val (.int (3 : Int32)), .val (.int v1200), .val (.int v1201), .val (.int v1202), .val (.int v1202), .val (.int v1204), .val (.int v1206), .val (.int r2), .val (.ref b_1208), .val (.ref b1212), .val (.ref b1228), .val (.double (own_rc (4613937818241073152 : UInt64) v1206)), .second, .val (.double (own_rc (4613937818241073152 : UInt64) v1206)), .second, .val (.double (own_rc (4613937818241073152 : UInt64) r2)), .second, .val (.int (1 : Int32))] [(.int v1206), (.int (3 : Int32)), (.int (1 : Int32))]))
        refine OEnds.st (fun _ k => XS.icmpNo X1253.here hx rfl (hb hby at_292) rfl (teq hE1262).2 k) ?_
        show OEnds p.tables e below G (T1253.setTop (mkF m 295 #[.val (.int p1), .val (.int p2), .val (.int p3), .val (.int p4), .val (.int p5), .val (.int p6), .val (.int (3 : Int32)), .val (.int v1200), .val (.int v1201), .val (.int v1202), .val (.int v1202), .val (.int v1204), .val (.int v1206), .val (.int r2), .val (.ref b_1208), .val (.ref b1212), .val (.ref b1228), .val (.double (own_rc (4613937818241073152 : UInt64) v1206)), .second, .val (.double (own_rc (4613937818241073152 : UInt64) v1206)), .second, .val (.double (own_rc (4613937818241073152 : UInt64) r2)), .second, .val (.int (1 : Int32))] [(.int (1 : Int32))]))
        refine OEnds.st (fun _ k => XS.iconst X1253.here hx rfl (hb hby at_295) k) ?_
        show OEnds p.tables e below G (T1253.setTop (mkF m 296 #[.val (.int p1), .val (.int p2), .val (.int p3), .val (.int p4), .val (.int p5), .val (.int p6), .val (.int (3 : Int32)), .val (.int v1200), .val (.int v1201), .val (.int v1202), .val (.int v1202), .val (.int v1204), .val (.int v1206), .val (.int r2), .val (.ref b_1208), .val (.ref b1212), .val (.ref b1228), .val (.double (own_rc (4613937818241073152 : UInt64) v1206)), .second, .val (.double (own_rc (4613937818241073152 : UInt64) v1206)), .second, .val (.double (own_rc (4613937818241073152 : UInt64) r2)), .second, .val (.int (1 : Int32))] [(.int (1 : Int32)), (.int (1 : Int32))]))
        refine OEnds.st (fun _ k => XS.goto X1253.here hx rfl (pc0 := 296) (pc' := 300) rfl (hb hby at_296) (by decide) (by decide) k) ?_
        show OEnds p.tables e below G (T1253.setTop (mkF m 300 #[.val (.int p1), .val (.int p2), .val (.int p3), .val (.int p4), .val (.int p5), .val (.int p6), .val (.int (3 : Int32)), .val (.int v1200), .val (.int v1201), .val (.int v1202), .val (.int v1202), .val (.int v1204), .val (.int v1206), .val (.int r2), .val (.ref b_1208), .val (.ref b1212), .val (.ref b1228), .val (.double (own_rc (4613937818241073152 : UInt64) v1206)), .second, .val (.double (own_rc (4613937818241073152 : UInt64) v1206)), .second, .val (.double (own_rc (4613937818241073152 : UInt64) r2)), .second, .val (.int (1 : Int32))] [(.int (1 : Int32)), (.int (1 : Int32))]))
        refine OEnds.st (fun _ k => XS.icmpNo X1253.here hx rfl (hb hby at_300) rfl (teq (by decide : (1 : Int32) = (1 : Int32))).2 k) ?_
        show OEnds p.tables e below G (T1253.setTop (mkF m 303 #[.val (.int p1), .val (.int p2), .val (.int p3), .val (.int p4), .val (.int p5), .val (.int p6), .val (.int (3 : Int32)), .val (.int v1200), .val (.int v1201), .val (.int v1202), .val (.int v1202), .val (.int v1204), .val (.int v1206), .val (.int r2), .val (.ref b_1208), .val (.ref b1212), .val (.ref b1228), .val (.double (own_rc (4613937818241073152 : UInt64) v1206)), .second, .val (.double (own_rc (4613937818241073152 : UInt64) v1206)), .second, .val (.double (own_rc (4613937818241073152 : UInt64) r2)), .second, .val (.int (1 : Int32))] []))
        refine OEnds.st (fun _ k => XS.iconst X1253.here hx rfl (hb hby at_303) k) ?_
        show OEnds p.tables e below G (T1253.setTop (mkF m 304 #[.val (.int p1), .val (.int p2), .val (.int p3), .val (.int p4), .val (.int p5), .val (.int p6), .val (.int (3 : Int32)), .val (.int v1200), .val (.int v1201), .val (.int v1202), .val (.int v1202), .val (.int v1204), .val (.int v1206), .val (.int r2), .val (.ref b_1208), .val (.ref b1212), .val (.ref b1228), .val (.double (own_rc (4613937818241073152 : UInt64) v1206)), .second, .val (.double (own_rc (4613937818241073152 : UInt64) v1206)), .second, .val (.double (own_rc (4613937818241073152 : UInt64) r2)), .second, .val (.int (1 : Int32))] [(.int (1 : Int32))]))
        refine OEnds.st (fun _ k => XS.goto X1253.here hx rfl (pc0 := 304) (pc' := 308) rfl (hb hby at_304) (by decide) (by decide) k) ?_
        exact rest308_1258  
      ·
        show OEnds p.tables e below G (T1253.setTop (mkF m 271 #[.val (.int p1), .val (.int p2), .val (.int p3), .val (.int p4), .val (.int p5), .val (.int p6), .val (.int (3 : Int32)), .val (.int v1200), .val (.int v1201), .val (.int v1202), .val (.int v1202), .val (.int v1204), .val (.int v1206), .val (.int r2), .val (.ref b_1208), .val (.ref b1212), .val (.ref b1228), .val (.double (own_rc (4613937818241073152 : UInt64) v1206)), .second, .val (.double (own_rc (4613937818241073152 : UInt64) v1206)), .second, .val (.double (own_rc (4613937818241073152 : UInt64) r2)), .second, .val (.int (1 : Int32))] []))
        refine OEnds.st (fun _ k => XS.dload X1253.here hx rfl (hb hby at_271) rfl k) ?_
        show OEnds p.tables e below G (T1253.setTop (mkF m 273 #[.val (.int p1), .val (.int p2), .val (.int p3), .val (.int p4), .val (.int p5), .val (.int p6), .val (.int (3 : Int32)), .val (.int v1200), .val (.int v1201), .val (.int v1202), .val (.int v1202), .val (.int v1204), .val (.int v1206), .val (.int r2), .val (.ref b_1208), .val (.ref b1212), .val (.ref b1228), .val (.double (own_rc (4613937818241073152 : UInt64) v1206)), .second, .val (.double (own_rc (4613937818241073152 : UInt64) v1206)), .second, .val (.double (own_rc (4613937818241073152 : UInt64) r2)), .second, .val (.int (1 : Int32))] [(.double (own_rc (4613937818241073152 : UInt64) v1206))]))
        refine OEnds.st (fun _ k => XS.dconst1 X1253.here hx rfl (hb hby at_273) (v := (4607182418800017408 : UInt64)) rfl k) ?_
        show OEnds p.tables e below G (T1253.setTop (mkF m 274 #[.val (.int p1), .val (.int p2), .val (.int p3), .val (.int p4), .val (.int p5), .val (.int p6), .val (.int (3 : Int32)), .val (.int v1200), .val (.int v1201), .val (.int v1202), .val (.int v1202), .val (.int v1204), .val (.int v1206), .val (.int r2), .val (.ref b_1208), .val (.ref b1212), .val (.ref b1228), .val (.double (own_rc (4613937818241073152 : UInt64) v1206)), .second, .val (.double (own_rc (4613937818241073152 : UInt64) v1206)), .second, .val (.double (own_rc (4613937818241073152 : UInt64) r2)), .second, .val (.int (1 : Int32))] [(.double (4607182418800017408 : UInt64)), (.double (own_rc (4613937818241073152 : UInt64) v1206))]))
        refine OEnds.st (fun _ k => XS.dcmpS X1253.here hx rfl (hb hby at_274) rfl rfl k) ?_
        show OEnds p.tables e below G (T1253.setTop (mkF m 275 #[.val (.int p1), .val (.int p2), .val (.int p3), .val (.int p4), .val (.int p5), .val (.int p6), .val (.int (3 : Int32)), .val (.int v1200), .val (.int v1201), .val (.int v1202), .val (.int v1202), .val (.int v1204), .val (.int v1206), .val (.int r2), .val (.ref b_1208), .val (.ref b1212), .val (.ref b1228), .val (.double (own_rc (4613937818241073152 : UInt64) v1206)), .second, .val (.double (own_rc (4613937818241073152 : UInt64) v1206)), .second, .val (.double (own_rc (4613937818241073152 : UInt64) r2)), .second, .val (.int (1 : Int32))] [(.int (cmpValue (FP.dcmp (own_rc (4613937818241073152 : UInt64) v1206) (4607182418800017408 : UInt64)) .l))]))
        have hc275_1264 : ¬ ((cmpValue (FP.dcmp (own_rc (4613937818241073152 : UInt64) v1206) (4607182418800017408 : UInt64)) .l) = (0 : Int32)) := fun q => hE1262 (Int32.toInt_inj.mp (by
            have kn : (3 : Int32).toInt = 3 := by decide
            have q2 := (hM3.mp ((own_ceq hP1 own_B1 .l).mp q)).2
            omega))
        refine OEnds.st (fun _ k => XS.ifYes X1253.here hx rfl (pc0 := 275) (pc' := 282) rfl (hb hby at_275) rfl ((if0 _ _).trans (feq hc275_1264).2) (by decide) (by decide) k) ?_
        show OEnds p.tables e below G (T1253.setTop (mkF m 282 #[.val (.int p1), .val (.int p2), .val (.int p3), .val (.int p4), .val (.int p5), .val (.int p6), .val (.int (3 : Int32)), .val (.int v1200), .val (.int v1201), .val (.int v1202), .val (.int v1202), .val (.int v1204), .val (.int v1206), .val (.int r2), .val (.ref b_1208), .val (.ref b1212), .val (.ref b1228), .val (.double (own_rc (4613937818241073152 : UInt64) v1206)), .second, .val (.double (own_rc (4613937818241073152 : UInt64) v1206)), .second, .val (.double (own_rc (4613937818241073152 : UInt64) r2)), .second, .val (.int (1 : Int32))] []))
        refine OEnds.st (fun _ k => XS.iconst X1253.here hx rfl (hb hby at_282) k) ?_
        show OEnds p.tables e below G (T1253.setTop (mkF m 283 #[.val (.int p1), .val (.int p2), .val (.int p3), .val (.int p4), .val (.int p5), .val (.int p6), .val (.int (3 : Int32)), .val (.int v1200), .val (.int v1201), .val (.int v1202), .val (.int v1202), .val (.int v1204), .val (.int v1206), .val (.int r2), .val (.ref b_1208), .val (.ref b1212), .val (.ref b1228), .val (.double (own_rc (4613937818241073152 : UInt64) v1206)), .second, .val (.double (own_rc (4613937818241073152 : UInt64) v1206)), .second, .val (.double (own_rc (4613937818241073152 : UInt64) r2)), .second, .val (.int (1 : Int32))] [(.int (0 : Int32))]))
        refine OEnds.st (fun _ k => XS.iload X1253.here hx rfl (hb hby at_283) rfl k) ?_
        show OEnds p.tables e below G (T1253.setTop (mkF m 285 #[.val (.int p1), .val (.int p2), .val (.int p3), .val (.int p4), .val (.int p5), .val (.int p6), .val (.int (3 : Int32)), .val (.int v1200), .val (.int v1201), .val (.int v1202), .val (.int v1202), .val (.int v1204), .val (.int v1206), .val (.int r2), .val (.ref b_1208), .val (.ref b1212), .val (.ref b1228), .val (.double (own_rc (4613937818241073152 : UInt64) v1206)), .second, .val (.double (own_rc (4613937818241073152 : UInt64) v1206)), .second, .val (.double (own_rc (4613937818241073152 : UInt64) r2)), .second, .val (.int (1 : Int32))] [(.int v1206), (.int (0 : Int32))]))
        refine OEnds.st (fun _ k => XS.ifNo X1253.here hx rfl (hb hby at_285) rfl ((if0 _ _).trans (feq hr0).1) k) ?_
        show OEnds p.tables e below G (T1253.setTop (mkF m 288 #[.val (.int p1), .val (.int p2), .val (.int p3), .val (.int p4), .val (.int p5), .val (.int p6), .val (.int (3 : Int32)), .val (.int v1200), .val (.int v1201), .val (.int v1202), .val (.int v1202), .val (.int v1204), .val (.int v1206), .val (.int r2), .val (.ref b_1208), .val (.ref b1212), .val (.ref b1228), .val (.double (own_rc (4613937818241073152 : UInt64) v1206)), .second, .val (.double (own_rc (4613937818241073152 : UInt64) v1206)), .second, .val (.double (own_rc (4613937818241073152 : UInt64) r2)), .second, .val (.int (1 : Int32))] [(.int (0 : Int32))]))
        refine OEnds.st (fun _ k => XS.iload X1253.here hx rfl (hb hby at_288) rfl k) ?_
        show OEnds p.tables e below G (T1253.setTop (mkF m 290 #[.val (.int p1), .val (.int p2), .val (.int p3), .val (.int p4), .val (.int p5), .val (.int p6), .val (.int (3 : Int32)), .val (.int v1200), .val (.int v1201), .val (.int v1202), .val (.int v1202), .val (.int v1204), .val (.int v1206), .val (.int r2), .val (.ref b_1208), .val (.ref b1212), .val (.ref b1228), .val (.double (own_rc (4613937818241073152 : UInt64) v1206)), .second, .val (.double (own_rc (4613937818241073152 : UInt64) v1206)), .second, .val (.double (own_rc (4613937818241073152 : UInt64) r2)), .second, .val (.int (1 : Int32))] [(.int (3 : Int32)), (.int (0 : Int32))]))
        refine OEnds.st (fun _ k => XS.iload X1253.here hx rfl (hb hby at_290) rfl k) ?_
        show OEnds p.tables e below G (T1253.setTop (mkF m 292 #[.val (.int p1), .val (.int p2), .val (.int p3), .val (.int p4), .val (.int p5), .val (.int p6), .val (.int (3 : Int32)), .val (.int v1200), .val (.int v1201), .val (.int v1202), .val (.int v1202), .val (.int v1204), .val (.int v1206), .val (.int r2), .val (.ref b_1208), .val (.ref b1212), .val (.ref b1228), .val (.double (own_rc (4613937818241073152 : UInt64) v1206)), .second, .val (.double (own_rc (4613937818241073152 : UInt64) v1206)), .second, .val (.double (own_rc (4613937818241073152 : UInt64) r2)), .second, .val (.int (1 : Int32))] [(.int v1206), (.int (3 : Int32)), (.int (0 : Int32))]))
        refine OEnds.st (fun _ k => XS.icmpYes X1253.here hx rfl (pc0 := 292) (pc' := 299) rfl (hb hby at_292) rfl (feq hE1262).2 (by decide) (by decide) k) ?_
        show OEnds p.tables e below G (T1253.setTop (mkF m 299 #[.val (.int p1), .val (.int p2), .val (.int p3), .val (.int p4), .val (.int p5), .val (.int p6), .val (.int (3 : Int32)), .val (.int v1200), .val (.int v1201), .val (.int v1202), .val (.int v1202), .val (.int v1204), .val (.int v1206), .val (.int r2), .val (.ref b_1208), .val (.ref b1212), .val (.ref b1228), .val (.double (own_rc (4613937818241073152 : UInt64) v1206)), .second, .val (.double (own_rc (4613937818241073152 : UInt64) v1206)), .second, .val (.double (own_rc (4613937818241073152 : UInt64) r2)), .second, .val (.int (1 : Int32))] [(.int (0 : Int32))]))
        refine OEnds.st (fun _ k => XS.iconst X1253.here hx rfl (hb hby at_299) k) ?_
        show OEnds p.tables e below G (T1253.setTop (mkF m 300 #[.val (.int p1), .val (.int p2), .val (.int p3), .val (.int p4), .val (.int p5), .val (.int p6), .val (.int (3 : Int32)), .val (.int v1200), .val (.int v1201), .val (.int v1202), .val (.int v1202), .val (.int v1204), .val (.int v1206), .val (.int r2), .val (.ref b_1208), .val (.ref b1212), .val (.ref b1228), .val (.double (own_rc (4613937818241073152 : UInt64) v1206)), .second, .val (.double (own_rc (4613937818241073152 : UInt64) v1206)), .second, .val (.double (own_rc (4613937818241073152 : UInt64) r2)), .second, .val (.int (1 : Int32))] [(.int (0 : Int32)), (.int (0 : Int32))]))
        refine OEnds.st (fun _ k => XS.icmpNo X1253.here hx rfl (hb hby at_300) rfl (teq (by decide : (0 : Int32) = (0 : Int32))).2 k) ?_
        show OEnds p.tables e below G (T1253.setTop (mkF m 303 #[.val (.int p1), .val (.int p2), .val (.int p3), .val (.int p4), .val (.int p5), .val (.int p6), .val (.int (3 : Int32)), .val (.int v1200), .val (.int v1201), .val (.int v1202), .val (.int v1202), .val (.int v1204), .val (.int v1206), .val (.int r2), .val (.ref b_1208), .val (.ref b1212), .val (.ref b1228), .val (.double (own_rc (4613937818241073152 : UInt64) v1206)), .second, .val (.double (own_rc (4613937818241073152 : UInt64) v1206)), .second, .val (.double (own_rc (4613937818241073152 : UInt64) r2)), .second, .val (.int (1 : Int32))] []))
        refine OEnds.st (fun _ k => XS.iconst X1253.here hx rfl (hb hby at_303) k) ?_
        show OEnds p.tables e below G (T1253.setTop (mkF m 304 #[.val (.int p1), .val (.int p2), .val (.int p3), .val (.int p4), .val (.int p5), .val (.int p6), .val (.int (3 : Int32)), .val (.int v1200), .val (.int v1201), .val (.int v1202), .val (.int v1202), .val (.int v1204), .val (.int v1206), .val (.int r2), .val (.ref b_1208), .val (.ref b1212), .val (.ref b1228), .val (.double (own_rc (4613937818241073152 : UInt64) v1206)), .second, .val (.double (own_rc (4613937818241073152 : UInt64) v1206)), .second, .val (.double (own_rc (4613937818241073152 : UInt64) r2)), .second, .val (.int (1 : Int32))] [(.int (1 : Int32))]))
        refine OEnds.st (fun _ k => XS.goto X1253.here hx rfl (pc0 := 304) (pc' := 308) rfl (hb hby at_304) (by decide) (by decide) k) ?_
        exact rest308_1258  
    show OEnds p.tables e below G (T1205.setTop (mkF m 99 #[.val (.int p1), .val (.int p2), .val (.int p3), .val (.int p4), .val (.int p5), .val (.int p6), .val (.int (3 : Int32)), .val (.int v1200), .val (.int v1201), .val (.int v1202), .val (.int v1202), .val (.int v1204), .val (.int v1206), .unset, .unset, .unset, .unset, .unset, .unset, .unset, .unset, .unset, .unset, .unset] []))
    refine OEnds.st (fun _ k => XS.iload X1205.here hx rfl (hb hby at_99) rfl k) ?_
    show OEnds p.tables e below G (T1205.setTop (mkF m 101 #[.val (.int p1), .val (.int p2), .val (.int p3), .val (.int p4), .val (.int p5), .val (.int p6), .val (.int (3 : Int32)), .val (.int v1200), .val (.int v1201), .val (.int v1202), .val (.int v1202), .val (.int v1204), .val (.int v1206), .unset, .unset, .unset, .unset, .unset, .unset, .unset, .unset, .unset, .unset, .unset] [(.int v1206)]))
    refine OEnds.st (X1205.ldcInt hx hown (mvT hZ (hw _ (List.mem_of_getElem? (i := 5) rfl))) (g := (mkF m 101 #[.val (.int p1), .val (.int p2), .val (.int p3), .val (.int p4), .val (.int p5), .val (.int p6), .val (.int (3 : Int32)), .val (.int v1200), .val (.int v1201), .val (.int v1202), .val (.int v1202), .val (.int v1204), .val (.int v1206), .unset, .unset, .unset, .unset, .unset, .unset, .unset, .unset, .unset, .unset, .unset] [(.int v1206)])) rfl (hb hby at_101)) ?_
    show OEnds p.tables e below G (T1205.setTop (mkF m 103 #[.val (.int p1), .val (.int p2), .val (.int p3), .val (.int p4), .val (.int p5), .val (.int p6), .val (.int (3 : Int32)), .val (.int v1200), .val (.int v1201), .val (.int v1202), .val (.int v1202), .val (.int v1204), .val (.int v1206), .unset, .unset, .unset, .unset, .unset, .unset, .unset, .unset, .unset, .unset, .unset] [(.int (2147483647 : Int32)), (.int v1206)]))
    by_cases hc103_1265 : v1206 = (2147483647 : Int32)
    · -- pc 103: yes
      refine OEnds.st (fun _ k => XS.icmpNo X1205.here hx rfl (hb hby at_103) rfl (teq hc103_1265).2 k) ?_
      show OEnds p.tables e below G (T1205.setTop (mkF m 106 #[.val (.int p1), .val (.int p2), .val (.int p3), .val (.int p4), .val (.int p5), .val (.int p6), .val (.int (3 : Int32)), .val (.int v1200), .val (.int v1201), .val (.int v1202), .val (.int v1202), .val (.int v1204), .val (.int v1206), .unset, .unset, .unset, .unset, .unset, .unset, .unset, .unset, .unset, .unset, .unset] []))
      refine OEnds.st (fun _ k => XS.iload X1205.here hx rfl (hb hby at_106) rfl k) ?_
      show OEnds p.tables e below G (T1205.setTop (mkF m 108 #[.val (.int p1), .val (.int p2), .val (.int p3), .val (.int p4), .val (.int p5), .val (.int p6), .val (.int (3 : Int32)), .val (.int v1200), .val (.int v1201), .val (.int v1202), .val (.int v1202), .val (.int v1204), .val (.int v1206), .unset, .unset, .unset, .unset, .unset, .unset, .unset, .unset, .unset, .unset, .unset] [(.int v1206)]))
      refine OEnds.st (fun _ k => XS.goto X1205.here hx rfl (pc0 := 108) (pc' := 115) rfl (hb hby at_108) (by decide) (by decide) k) ?_
      exact rest115_1207 v1206 (Or.inl hc103_1265)
    · -- pc 103: no
      refine OEnds.st (fun _ k => XS.icmpYes X1205.here hx rfl (pc0 := 103) (pc' := 111) rfl (hb hby at_103) rfl (feq hc103_1265).2 (by decide) (by decide) k) ?_
      show OEnds p.tables e below G (T1205.setTop (mkF m 111 #[.val (.int p1), .val (.int p2), .val (.int p3), .val (.int p4), .val (.int p5), .val (.int p6), .val (.int (3 : Int32)), .val (.int v1200), .val (.int v1201), .val (.int v1202), .val (.int v1202), .val (.int v1204), .val (.int v1206), .unset, .unset, .unset, .unset, .unset, .unset, .unset, .unset, .unset, .unset, .unset] []))
      refine OEnds.st (fun _ k => XS.iload X1205.here hx rfl (hb hby at_111) rfl k) ?_
      show OEnds p.tables e below G (T1205.setTop (mkF m 113 #[.val (.int p1), .val (.int p2), .val (.int p3), .val (.int p4), .val (.int p5), .val (.int p6), .val (.int (3 : Int32)), .val (.int v1200), .val (.int v1201), .val (.int v1202), .val (.int v1202), .val (.int v1204), .val (.int v1206), .unset, .unset, .unset, .unset, .unset, .unset, .unset, .unset, .unset, .unset, .unset] [(.int v1206)]))
      refine OEnds.st (fun _ k => XS.iconst X1205.here hx rfl (hb hby at_113) k) ?_
      show OEnds p.tables e below G (T1205.setTop (mkF m 114 #[.val (.int p1), .val (.int p2), .val (.int p3), .val (.int p4), .val (.int p5), .val (.int p6), .val (.int (3 : Int32)), .val (.int v1200), .val (.int v1201), .val (.int v1202), .val (.int v1202), .val (.int v1204), .val (.int v1206), .unset, .unset, .unset, .unset, .unset, .unset, .unset, .unset, .unset, .unset, .unset] [(.int (1 : Int32)), (.int v1206)]))
      refine OEnds.st (fun _ k => XS.iadd X1205.here hx rfl (hb hby at_114) rfl k) ?_
      exact rest115_1207 (v1206 + (1 : Int32)) (Or.inr ⟨hc103_1265, own_inc hc103_1265 rfl⟩)
set_option maxRecDepth 65536 in
set_option maxHeartbeats 40000000 in
theorem comes_1 {Post : Tables → Env → Array Value → State → Outcome → State → Prop} (hpost : ∀ tb e args s v u, (limb_1_1.after args s (.returned v) u = true ∧ limb_1_2.after args s (.returned v) u = true ∧ True) → FrameEnd s (.returned v) u (Jvm.fieldLocs frame_1_writes args s ++ Jvm.arrayLocs frame_1_arrays args s ++ Jvm.staticLocs frame_1_statics s) 16 128 → Post tb e args s (.returned v) u) :
    ArmFor flags0 classFile x code maxLocals ret World_1 tables_1 room_1 Calls_1 rest_1 Pre_1 Post := by
  intro l hfl _ _ p e ha hc hk s m args below hf hA hF happ hP
  obtain ⟨hcalls, hrest, hpre⟩ := hP
  obtain ⟨-, -, -, hnamed, -, -, -, hat⟩ := (Spec.applies_iff hf).mp happ
  obtain ⟨hg, hn⟩ := and_e (Cond.before_iff.mp (show (Jvm.Cond.and given_1 narrow_1).before args s = true from hpre))
  obtain ⟨gc, gr0⟩ := and_e hg
  obtain ⟨ga0, gr1⟩ := and_e gr0
  obtain ⟨ga1, gr2⟩ := and_e gr1
  obtain ⟨ga2, gr3⟩ := and_e gr2
  obtain ⟨ga3, gr4⟩ := and_e gr3
  obtain ⟨ga4, gr5⟩ := and_e gr4
  obtain ⟨w0, w1, w2, w3, w4, w5, rfl⟩ : ∃ w0 w1 w2 w3 w4 w5 : Value, args = #[w0, w1, w2, w3, w4, w5] := by
    have hs : args.size = 6 := by simpa [Cond.value, given_1] using gc
    obtain ⟨L⟩ := args
    match L, hs with
    | [w0, w1, w2, w3, w4, w5], _ => exact ⟨w0, w1, w2, w3, w4, w5, rfl⟩
  have hw := fun d (hd : d ∈ tables_1) => atoms_spec (ws := Jvm.Cond.code x code maxLocals ret :: tables_1) hat d (List.mem_cons_of_mem _ hd)
  have hfit : Fit s := fun {y c} hc i hi => by
    obtain ⟨ha, rfl⟩ := Array.getElem?_eq_some_iff.mp hc
    have q := List.all_eq_true.mp ((Array.all_eq_true_iff_forall_mem.mp hF) _ (Array.getElem_mem ha)) i (List.mem_range.mpr hi)
    simpa [Array.getElem?_eq_getElem hi] using q
  obtain ⟨i0, ei0⟩ := is_v ga0
  obtain rfl : w0 = (.int i0) := Option.some.inj ei0
  obtain ⟨i1, ei1⟩ := is_v ga1
  obtain rfl : w1 = (.int i1) := Option.some.inj ei1
  obtain ⟨i2, ei2⟩ := is_v ga2
  obtain rfl : w2 = (.int i2) := Option.some.inj ei2
  obtain ⟨i3, ei3⟩ := is_v ga3
  obtain rfl : w3 = (.int i3) := Option.some.inj ei3
  obtain ⟨i4, ei4⟩ := is_v ga4
  obtain rfl : w4 = (.int i4) := Option.some.inj ei4
  obtain ⟨i5, ei5⟩ := is_v gr5
  obtain rfl : w5 = (.int i5) := Option.some.inj ei5
  obtain ⟨n, o, h1, h2, h3, _, L, rfl, ⟨rfl, N⟩, hq⟩ := rm0 l s _ hw tables_1 i0 i1 i2 i3 i4 i5  s.heap s.heap.size (Nat.le_refl _)  p e ha hc hk s m _ below hf ((Spec.applies_iff_loose hf).mp happ).1 ⟨rfl, State.Warmed39.refl s, rfl⟩ trivial
  refine ⟨n, _, h1, h2, h3, hpost _ _ _ _ _ _ ⟨Cond.after_iff.mpr rfl, Cond.after_iff.mpr (eq_i res_at (Term.int_eval (1)) rfl), trivial⟩ ⟨hq.1, hq.2.1, (hq.2.2.sift fun y hy => Or.inr (N y hy)).mono (by decide) (by decide)⟩⟩
theorem main_1_1 : Claimed_1_1 := comes_1 fun _ _ _ _ _ _ h hF => ⟨h.1, hF⟩
theorem main_1_2 : Claimed_1_2 := comes_1 fun _ _ _ _ _ _ h hF => ⟨h.2.1, hF⟩
end Jvm.Pilot.@@N@@
namespace Jvm.Pilot.@@N@@
open Jvm Jvm.ClassFile Sem Op Lib Jvm.Free Jvm.Stand Jvm.Pilot.@@N@@.Jvm.D
/-! MADE BY PROGRAM (witnessworld.py) out of the Statement's table words and the real class files: 10 classes; the members and pool entries that the words name. The judged class is class 1, her method 2. -/
namespace start1
open Jvm.ClassFile
def u (s : String) : CpInfo := .utf8 (stringToUtf16 s)
/-- a pool by its gaps: so many unusable entries, then the entry; so many at the end -/
def gap : Nat → List CpInfo → List CpInfo
  | 0, r => r
  | n + 1, r => .unusable :: gap n r
def poolList (es : List (Nat × CpInfo)) (last : Nat) : List CpInfo := es.foldr (fun e r => gap e.1 (e.2 :: r)) (gap last [])
def pool (es : List (Nat × CpInfo)) (last : Nat) : Array CpInfo := ⟨poolList es last⟩
def fileOf (pool : Array CpInfo) (this : Nat) (attrs : Array Attribute := #[]) (ms : Array MethodInfo := #[]) (fl : Nat := 33) (sup : Nat := 0) (ifs : Array Nat := #[]) (fds : Array FieldInfo := #[]) : ClassFile where
  minorVersion := 0
  majorVersion := 65
  constantPool := pool
  accessFlags := fl
  thisClass := this
  superClass := sup
  interfaces := ifs
  fields := fds
  methods := ms
  attributes := attrs
def plain (name : String) (sup : Option ClassId) : Class where
  name := name
  kind := .ordinary
  loader := none
  accessFlags := 33
  super := sup
  interfaces := #[]
  cf := none
  fields := #[]
  methods := #[]
  instanceTypes := #[]
  staticTypes := #[]
  resolved := #[]
  callSites := []
  init := .initialized
  statics := none
  mirror := none

def pool0 : Array CpInfo := pool [(5, u "<init>"), (0, u "()V"), (1, .class_ 10), (1, u "java/lang/Object")] 113

def k0c0 : Code := { maxStack := 0, maxLocals := 1, code := object_method_1_code, exceptionTable := #[], attributes := #[] }
def k0m0 : Method := { name := "<init>", desc := "()V", sig := { parameters := [], returnType := none }, accessFlags := 1, code := some k0c0 }
/-- java/lang/Object -/
def k0 : Class := { plain "java/lang/Object" none with
  accessFlags := 33
  interfaces := #[]
  cf := some (fileOf pool0 8 #[] #[{ accessFlags := 1, nameIndex := 5, descriptorIndex := 6, attributes := #[] }] 33 0 #[] #[])
  fields := #[]
  methods := #[k0m0]
  instanceTypes := #[]
  staticTypes := #[]
  resolved := Array.replicate 124 none
  statics := none }

def pool1 : Array CpInfo := pool [(2, .class_ 4), (1, u "java/lang/Object"), (0, u "<init>"), (0, u "()V"), (0, .integer 65535), (0, .methodref 9 10), (0, .class_ 11), (0, .nameAndType 12 13), (0, u "java/lang/Math"), (0, u "max"), (0, u "(II)I"), (0, .integer 2147483647), (2, .methodref 18 19), (0, .class_ 20), (0, .nameAndType 21 22), (0, u "com/example/words_to_weights/wordstoweights/evaluation/JudgedRankingSetRecallPinLaw"), (0, u "ranks"), (0, u "(IIII)[I"), (0, .class_ 24), (0, u "com/example/words_to_weights/wordstoweights/evaluation/JudgedRanking"), (0, .methodref 23 26), (0, .nameAndType 5 27), (0, u "(II[I)V"), (0, .methodref 23 29), (0, .nameAndType 30 31), (0, u "setRecall"), (0, u "()D"), (0, .methodref 23 33), (0, .nameAndType 34 35), (0, u "recallAt"), (0, u "(I)D"), (3, u "law"), (0, u "(IIIIII)Z")] 4

def k1m0 : Method := { name := "<init>", desc := "()V", sig := { parameters := [], returnType := none }, accessFlags := 1, code := none }
def k1c1 : Code := { maxStack := 4, maxLocals := 4, code := method_2_code, exceptionTable := #[], attributes := #[] }
def k1m1 : Method := { name := "ranks", desc := "(IIII)[I", sig := { parameters := [.int, .int, .int, .int], returnType := some (.array .int) }, accessFlags := 10, code := some k1c1 }
def k1c2 : Code := { maxStack := 5, maxLocals := 24, code := code, exceptionTable := #[], attributes := #[] }
def k1m2 : Method := { name := "law", desc := "(IIIIII)Z", sig := { parameters := [.int, .int, .int, .int, .int, .int], returnType := some .boolean }, accessFlags := 9, code := some k1c2 }
/-- com/example/words_to_weights/wordstoweights/evaluation/JudgedRankingSetRecallPinLaw -/
def k1 : Class := { plain "com/example/words_to_weights/wordstoweights/evaluation/JudgedRankingSetRecallPinLaw" (some 0) with
  accessFlags := 49
  interfaces := #[]
  cf := some (fileOf pool1 18 #[] #[{ accessFlags := 1, nameIndex := 5, descriptorIndex := 6, attributes := #[] }, { accessFlags := 10, nameIndex := 21, descriptorIndex := 22, attributes := #[] }, { accessFlags := 9, nameIndex := 39, descriptorIndex := 40, attributes := #[] }] 49 2 #[] #[])
  fields := #[]
  methods := #[k1m0, k1m1, k1m2]
  instanceTypes := #[]
  staticTypes := #[]
  resolved := Array.replicate 45 none
  statics := none }

def pool2 : Array CpInfo := pool [(1, .class_ 2), (0, u "java/lang/Math"), (1, .class_ 6), (1, u "java/lang/Object"), (0, u "<init>"), (0, u "()V"), (89, .class_ 100), (1, u "java/lang/Math$RandomNumberGeneratorHolder"), (71, u "negativeZeroFloatBits"), (0, u "J"), (2, u "negativeZeroDoubleBits"), (21, u "max"), (46, u "$assertionsDisabled"), (0, u "Z"), (88, u "(II)I"), (2, u "twoToTheDoubleScaleDown"), (0, u "D"), (4, u "twoToTheDoubleScaleUp"), (9, u "E"), (3, u "PI"), (2, u "TAU"), (2, u "DEGREES_TO_RADIANS"), (0, u "RADIANS_TO_DEGREES")] 94

def k2m0 : Method := { name := "<init>", desc := "()V", sig := { parameters := [], returnType := none }, accessFlags := 2, code := none }
def k2c1 : Code := { maxStack := 2, maxLocals := 2, code := jdk_29_method_65_code, exceptionTable := #[], attributes := #[] }
def k2m1 : Method := { name := "max", desc := "(II)I", sig := { parameters := [.int, .int], returnType := some .int }, accessFlags := 9, code := some k2c1 }
/-- java/lang/Math -/
def k2 : Class := { plain "java/lang/Math" (some 0) with
  accessFlags := 49
  interfaces := #[]
  cf := some (fileOf pool2 1 #[.nestMembers #[98]] #[{ accessFlags := 2, nameIndex := 7, descriptorIndex := 8, attributes := #[] }, { accessFlags := 9, nameIndex := 198, descriptorIndex := 335, attributes := #[] }] 49 4 #[] #[{ accessFlags := 25, nameIndex := 354, descriptorIndex := 339, attributes := #[] }, { accessFlags := 25, nameIndex := 358, descriptorIndex := 339, attributes := #[] }, { accessFlags := 25, nameIndex := 361, descriptorIndex := 339, attributes := #[] }, { accessFlags := 26, nameIndex := 364, descriptorIndex := 339, attributes := #[] }, { accessFlags := 26, nameIndex := 365, descriptorIndex := 339, attributes := #[] }, { accessFlags := 26, nameIndex := 172, descriptorIndex := 173, attributes := #[] }, { accessFlags := 26, nameIndex := 176, descriptorIndex := 173, attributes := #[] }, { accessFlags := 8, nameIndex := 344, descriptorIndex := 339, attributes := #[] }, { accessFlags := 8, nameIndex := 338, descriptorIndex := 339, attributes := #[] }, { accessFlags := 4120, nameIndex := 245, descriptorIndex := 246, attributes := #[] }])
  fields := #[{ name := "E", type := .double, accessFlags := 25, slot := 0, constantValue := 0 }, { name := "PI", type := .double, accessFlags := 25, slot := 1, constantValue := 0 }, { name := "TAU", type := .double, accessFlags := 25, slot := 2, constantValue := 0 }, { name := "DEGREES_TO_RADIANS", type := .double, accessFlags := 26, slot := 3, constantValue := 0 }, { name := "RADIANS_TO_DEGREES", type := .double, accessFlags := 26, slot := 4, constantValue := 0 }, { name := "negativeZeroFloatBits", type := .long, accessFlags := 26, slot := 5, constantValue := 0 }, { name := "negativeZeroDoubleBits", type := .long, accessFlags := 26, slot := 6, constantValue := 0 }, { name := "twoToTheDoubleScaleUp", type := .double, accessFlags := 8, slot := 7, constantValue := 0 }, { name := "twoToTheDoubleScaleDown", type := .double, accessFlags := 8, slot := 8, constantValue := 0 }, { name := "$assertionsDisabled", type := .boolean, accessFlags := 4120, slot := 9, constantValue := 0 }]
  methods := #[k2m0, k2m1]
  instanceTypes := #[]
  staticTypes := #[.double, .double, .double, .double, .double, .long, .long, .double, .double, .boolean]
  resolved := Array.replicate 460 none
  statics := none }

def pool3 : Array CpInfo := pool [(1, .methodref 2 3), (0, .class_ 4), (0, .nameAndType 5 6), (0, u "java/lang/Object"), (0, u "<init>"), (0, u "()V"), (0, .fieldref 8 9), (0, .class_ 10), (0, .nameAndType 11 12), (0, u "com/example/words_to_weights/wordstoweights/evaluation/JudgedRanking"), (0, u "retrieved"), (0, u "I"), (0, .fieldref 8 14), (0, .nameAndType 15 12), (0, u "relevant"), (0, .fieldref 8 17), (0, .nameAndType 18 19), (0, u "relevantRanks"), (0, u "[I"), (2, .methodref 8 23), (0, .nameAndType 24 25), (0, u "relevantWithin"), (0, u "(I)I"), (14, u "(I)D"), (9, u "()D"), (2, u "setRecall"), (2, u "RECALL_LEVELS"), (2, u "(II[I)V"), (10, u "recallAt")] 3

def k3c0 : Code := { maxStack := 2, maxLocals := 4, code := prog_30_method_1_code, exceptionTable := #[], attributes := #[] }
def k3m0 : Method := { name := "<init>", desc := "(II[I)V", sig := { parameters := [.int, .int, (.array .int)], returnType := none }, accessFlags := 0, code := some k3c0 }
def k3c1 : Code := { maxStack := 4, maxLocals := 2, code := prog_30_method_12_code, exceptionTable := #[], attributes := #[] }
def k3m1 : Method := { name := "recallAt", desc := "(I)D", sig := { parameters := [.int], returnType := some .double }, accessFlags := 0, code := some k3c1 }
def k3c2 : Code := { maxStack := 4, maxLocals := 1, code := prog_30_method_14_code, exceptionTable := #[], attributes := #[] }
def k3m2 : Method := { name := "setRecall", desc := "()D", sig := { parameters := [], returnType := some .double }, accessFlags := 0, code := some k3c2 }
def k3c3 : Code := { maxStack := 2, maxLocals := 3, code := prog_30_method_16_code, exceptionTable := #[], attributes := #[] }
def k3m3 : Method := { name := "relevantWithin", desc := "(I)I", sig := { parameters := [.int], returnType := some .int }, accessFlags := 2, code := some k3c3 }
/-- com/example/words_to_weights/wordstoweights/evaluation/JudgedRanking -/
def k3 : Class := { plain "com/example/words_to_weights/wordstoweights/evaluation/JudgedRanking" (some 0) with
  accessFlags := 48
  interfaces := #[]
  cf := some (fileOf pool3 8 #[] #[{ accessFlags := 0, nameIndex := 5, descriptorIndex := 59, attributes := #[] }, { accessFlags := 0, nameIndex := 70, descriptorIndex := 40, attributes := #[] }, { accessFlags := 0, nameIndex := 53, descriptorIndex := 50, attributes := #[] }, { accessFlags := 2, nameIndex := 24, descriptorIndex := 25, attributes := #[] }] 48 2 #[] #[{ accessFlags := 24, nameIndex := 56, descriptorIndex := 12, attributes := #[] }, { accessFlags := 18, nameIndex := 11, descriptorIndex := 12, attributes := #[] }, { accessFlags := 18, nameIndex := 15, descriptorIndex := 12, attributes := #[] }, { accessFlags := 18, nameIndex := 18, descriptorIndex := 19, attributes := #[] }])
  fields := #[{ name := "RECALL_LEVELS", type := .int, accessFlags := 24, slot := 0, constantValue := 0 }, { name := "retrieved", type := .int, accessFlags := 18, slot := 0, constantValue := 0 }, { name := "relevant", type := .int, accessFlags := 18, slot := 1, constantValue := 0 }, { name := "relevantRanks", type := (.array .int), accessFlags := 18, slot := 2, constantValue := 0 }]
  methods := #[k3m0, k3m1, k3m2, k3m3]
  instanceTypes := #[.int, .int, (.array .int)]
  staticTypes := #[.int]
  resolved := Array.replicate 74 none
  statics := none }

def pool4 : Array CpInfo := pool [(1, u "java/lang/Cloneable"), (0, .class_ 1), (0, u "java/lang/Object"), (0, .class_ 3)] 3

/-- java/lang/Cloneable -/
def k4 : Class := { plain "java/lang/Cloneable" (some 0) with
  accessFlags := 1537
  interfaces := #[]
  cf := some (fileOf pool4 2 #[] #[] 1537 4 #[] #[])
  fields := #[]
  methods := #[]
  instanceTypes := #[]
  staticTypes := #[]
  resolved := Array.replicate 8 none
  statics := none }

def pool5 : Array CpInfo := pool [(1, u "java/io/Serializable"), (0, .class_ 1), (0, u "java/lang/Object"), (0, .class_ 3)] 3

/-- java/io/Serializable -/
def k5 : Class := { plain "java/io/Serializable" (some 0) with
  accessFlags := 1537
  interfaces := #[]
  cf := some (fileOf pool5 2 #[] #[] 1537 4 #[] #[])
  fields := #[]
  methods := #[]
  instanceTypes := #[]
  staticTypes := #[]
  resolved := Array.replicate 8 none
  statics := none }

/-- the primitive byte -/
def k6 : Class := { plain "byte" none with kind := .primitive 'B', accessFlags := 0x411 }
/-- [B -/
def k7 : Class := { plain "[B" (some 0) with kind := .array 6 .byte, interfaces := #[4, 5], accessFlags := 1041 }

/-- the primitive int -/
def k8 : Class := { plain "int" none with kind := .primitive 'I', accessFlags := 0x411 }
/-- [I -/
def k9 : Class := { plain "[I" (some 0) with kind := .array 8 .int, interfaces := #[4, 5], accessFlags := 1041 }

def heap : Heap := #[]
def classes : Array Class := #[k0, k1, k2, k3, k4, k5, k6, k7, k8, k9]
def interned : List (Array UInt16 × Addr) := []
def slotsUsed : Nat := 0
def theMethod : MethodId := ⟨1, 2⟩
def args0 : Array Value := #[.int 3, .int 6, .int 7, .int 8, .int 9, .int 10]
def aboutOver (below : List Frame) : State where
  vm := { classes := classes, interned := interned.toArray }
  heap := heap
  slotsUsed := slotsUsed
  threads := #[{ frames := .invoking theMethod args0 :: below }]
def below0 : List Frame := [.native { method := ⟨0, 0⟩, args := #[] }]
def about1 : State := aboutOver below0
def p0 : Program := .bare "" "" ""
def e0 : Env := launch0.env 0 0 0
theorem w_frames : about1.frames = Frame.invoking theMethod args0 :: below0 := rfl
set_option maxRecDepth 65536 in
theorem w_args : argsFit about1.vm theMethod args0 = true := by decide +kernel
set_option maxRecDepth 65536 in
theorem w_heap : heapFits about1 = true := by decide +kernel
set_option maxRecDepth 65536 in
theorem w_runnable : about1.curStatus? = some .runnable := by decide +kernel
set_option maxRecDepth 65536 in
theorem w_alone : about1.alone = true := by decide +kernel
set_option maxRecDepth 65536 in
theorem w_named : about1.methodNamed? x = some theMethod := by decide +kernel
set_option maxRecDepth 65536 in
theorem w_hears : about1.hears theMethod below0 = true := by decide +kernel
set_option maxRecDepth 65536 in
theorem w_ripe : about1.ripe theMethod args0 below0 = true := by decide +kernel
theorem w_running : about1.status = .running := rfl
set_option maxRecDepth 65536 in
theorem w_room : about1.hasRoom e0.platform room_1 = true :=
  launch0.hasRoom_least _ room_1 (by decide +kernel) (by decide +kernel) (by decide +kernel) (by decide +kernel) (by decide +kernel) (by decide +kernel)
theorem allAtoms_all (ts : List Jvm.Cond) (a : Array Jvm.Value) (st : Jvm.State) : (allAtoms ts).before a st = ts.all (fun c => c.before a st) := by
  induction ts with
  | nil => rfl
  | cons c t ih =>
    show (Jvm.Cond.and c (allAtoms t)).before a st = _
    rw [Jvm.Cond.before_and, ih, List.all_cons]
def words1 : List Jvm.Cond := Jvm.Cond.code x code maxLocals ret :: tables_1
/-- a 'code' word, met by the world's own term for the bytes: nothing is compared byte by byte -/
theorem code_word {y : MethodName} {bytes : ByteArray} {mx : Nat} {rt : Option FieldType} {a : Array Value} {s : State} {m : MethodId} {meth : Method} {c : Code} (h1 : s.methodNamed? y = some m) (h2 : s.vm.method? m = some meth) (h3 : meth.code = some c) (h4 : c.code = bytes)
    (h5 : (c.maxLocals == mx && c.exceptionTable.isEmpty && decide (c.maxStack ≤ mostOperands) && decide (meth.sig.returnType = rt) && !meth.locks && decide (parseMethodDescriptor y.desc = some meth.sig)) = true) : (Jvm.Cond.code y bytes mx rt).before a s = true := by
  simp only [Bool.and_eq_true, beq_iff_eq, Bool.not_eq_true', decide_eq_true_eq] at h5
  obtain ⟨⟨⟨⟨⟨g1, g2⟩, g3⟩, g4⟩, g5⟩, g6⟩ := h5
  simp [Cond.before, Cond.holds, Cond.value, h1, h2, h3, h4, g1, g2, g3, g4, g5, g6]
def isCode : Jvm.Cond → Bool
  | .code _ _ _ _ => true
  | _ => false
theorem all_split {L : List Jvm.Cond} {P : Jvm.Cond → Bool} (h1 : L.all (fun c => isCode c || P c) = true) (h2 : ∀ c ∈ L.filter isCode, P c = true) : L.all P = true := by
  refine List.all_eq_true.mpr fun c hc => ?_
  have h := List.all_eq_true.mp h1 c hc
  rcases Bool.eq_false_or_eq_true (isCode c) with hi | hi
  · exact h2 c (List.mem_filter.mpr ⟨hc, hi⟩)
  · simpa [hi] using h
set_option maxRecDepth 65536 in
theorem w_c0 : (Jvm.Cond.code x code maxLocals ret).before args0 about1 = true := code_word (m := ⟨1, 2⟩) (meth := k1m2) (c := k1c2) (by decide +kernel) rfl rfl rfl (by decide +kernel)
set_option maxRecDepth 65536 in
theorem w_c1 : (Jvm.Cond.code ({ cls := "java/lang/Math", name := "max", desc := "(II)I" } : Jvm.MethodName) jdk_29_method_65_code (2 : Nat) (Option.some Jvm.ClassFile.FieldType.int)).before args0 about1 = true := code_word (m := ⟨2, 1⟩) (meth := k2m1) (c := k2c1) (by decide +kernel) rfl rfl rfl (by decide +kernel)
set_option maxRecDepth 65536 in
theorem w_c2 : (Jvm.Cond.code ({ cls := "com/example/words_to_weights/wordstoweights/evaluation/JudgedRankingSetRecallPinLaw", name := "ranks", desc := "(IIII)[I" } : Jvm.MethodName) method_2_code (4 : Nat) (Option.some (Jvm.ClassFile.FieldType.array Jvm.ClassFile.FieldType.int))).before args0 about1 = true := code_word (m := ⟨1, 1⟩) (meth := k1m1) (c := k1c1) (by decide +kernel) rfl rfl rfl (by decide +kernel)
set_option maxRecDepth 65536 in
theorem w_c3 : (Jvm.Cond.code ({ cls := "com/example/words_to_weights/wordstoweights/evaluation/JudgedRanking", name := "<init>", desc := "(II[I)V" } : Jvm.MethodName) prog_30_method_1_code (4 : Nat) (Option.none : Option Jvm.ClassFile.FieldType)).before args0 about1 = true := code_word (m := ⟨3, 0⟩) (meth := k3m0) (c := k3c0) (by decide +kernel) rfl rfl rfl (by decide +kernel)
set_option maxRecDepth 65536 in
theorem w_c4 : (Jvm.Cond.code ({ cls := "java/lang/Object", name := "<init>", desc := "()V" } : Jvm.MethodName) object_method_1_code (1 : Nat) (Option.none : Option Jvm.ClassFile.FieldType)).before args0 about1 = true := code_word (m := ⟨0, 0⟩) (meth := k0m0) (c := k0c0) (by decide +kernel) rfl rfl rfl (by decide +kernel)
set_option maxRecDepth 65536 in
theorem w_c5 : (Jvm.Cond.code ({ cls := "com/example/words_to_weights/wordstoweights/evaluation/JudgedRanking", name := "setRecall", desc := "()D" } : Jvm.MethodName) prog_30_method_14_code (1 : Nat) (Option.some Jvm.ClassFile.FieldType.double)).before args0 about1 = true := code_word (m := ⟨3, 2⟩) (meth := k3m2) (c := k3c2) (by decide +kernel) rfl rfl rfl (by decide +kernel)
set_option maxRecDepth 65536 in
theorem w_c6 : (Jvm.Cond.code ({ cls := "com/example/words_to_weights/wordstoweights/evaluation/JudgedRanking", name := "recallAt", desc := "(I)D" } : Jvm.MethodName) prog_30_method_12_code (2 : Nat) (Option.some Jvm.ClassFile.FieldType.double)).before args0 about1 = true := code_word (m := ⟨3, 1⟩) (meth := k3m1) (c := k3c1) (by decide +kernel) rfl rfl rfl (by decide +kernel)
set_option maxRecDepth 65536 in
theorem w_c7 : (Jvm.Cond.code ({ cls := "com/example/words_to_weights/wordstoweights/evaluation/JudgedRanking", name := "relevantWithin", desc := "(I)I" } : Jvm.MethodName) prog_30_method_16_code (3 : Nat) (Option.some Jvm.ClassFile.FieldType.int)).before args0 about1 = true := code_word (m := ⟨3, 3⟩) (meth := k3m3) (c := k3c3) (by decide +kernel) rfl rfl rfl (by decide +kernel)
def codes1 : List Jvm.Cond := [Jvm.Cond.code x code maxLocals ret, Jvm.Cond.code ({ cls := "java/lang/Math", name := "max", desc := "(II)I" } : Jvm.MethodName) jdk_29_method_65_code (2 : Nat) (Option.some Jvm.ClassFile.FieldType.int), Jvm.Cond.code ({ cls := "com/example/words_to_weights/wordstoweights/evaluation/JudgedRankingSetRecallPinLaw", name := "ranks", desc := "(IIII)[I" } : Jvm.MethodName) method_2_code (4 : Nat) (Option.some (Jvm.ClassFile.FieldType.array Jvm.ClassFile.FieldType.int)), Jvm.Cond.code ({ cls := "com/example/words_to_weights/wordstoweights/evaluation/JudgedRanking", name := "<init>", desc := "(II[I)V" } : Jvm.MethodName) prog_30_method_1_code (4 : Nat) (Option.none : Option Jvm.ClassFile.FieldType), Jvm.Cond.code ({ cls := "java/lang/Object", name := "<init>", desc := "()V" } : Jvm.MethodName) object_method_1_code (1 : Nat) (Option.none : Option Jvm.ClassFile.FieldType), Jvm.Cond.code ({ cls := "com/example/words_to_weights/wordstoweights/evaluation/JudgedRanking", name := "setRecall", desc := "()D" } : Jvm.MethodName) prog_30_method_14_code (1 : Nat) (Option.some Jvm.ClassFile.FieldType.double), Jvm.Cond.code ({ cls := "com/example/words_to_weights/wordstoweights/evaluation/JudgedRanking", name := "recallAt", desc := "(I)D" } : Jvm.MethodName) prog_30_method_12_code (2 : Nat) (Option.some Jvm.ClassFile.FieldType.double), Jvm.Cond.code ({ cls := "com/example/words_to_weights/wordstoweights/evaluation/JudgedRanking", name := "relevantWithin", desc := "(I)I" } : Jvm.MethodName) prog_30_method_16_code (3 : Nat) (Option.some Jvm.ClassFile.FieldType.int)]
set_option maxRecDepth 65536 in
theorem codes_eq : words1.filter isCode = codes1 := rfl
theorem w_codes : ∀ c ∈ words1.filter isCode, c.before args0 about1 = true := by
  rw [codes_eq]
  intro c hc
  simp only [codes1, List.mem_cons, List.not_mem_nil, or_false] at hc
  rcases hc with rfl | rfl | rfl | rfl | rfl | rfl | rfl | rfl
  · exact w_c0
  · exact w_c1
  · exact w_c2
  · exact w_c3
  · exact w_c4
  · exact w_c5
  · exact w_c6
  · exact w_c7
set_option maxRecDepth 65536 in
theorem w_t1 : (words1.take 24).all (fun c => isCode c || c.before args0 about1) = true := by decide +kernel
set_option maxRecDepth 65536 in
theorem w_t2 : (words1.drop 24).all (fun c => isCode c || c.before args0 about1) = true := by decide +kernel
theorem w_tables : (allAtoms (Jvm.Cond.code x code maxLocals ret :: tables_1)).before args0 about1 = true := by
  rw [allAtoms_all]
  show words1.all (fun c => c.before args0 about1) = true
  refine all_split ?_ w_codes
  rw [← List.take_append_drop 24 words1, List.all_append, w_t1, w_t2]
  rfl
set_option maxRecDepth 65536 in
theorem w_case : (Jvm.Cond.and given_1 narrow_1).before args0 about1 = true := by decide +kernel
theorem w_applies : (headSpec (Jvm.Cond.code x code maxLocals ret :: tables_1) room_1).applies x e0.platform about1 = true :=
  (Spec.applies_iff w_frames).mpr ⟨w_running, w_runnable, w_alone, w_named, w_hears, w_ripe, w_room, w_tables⟩
theorem atStart : AtStart classFile x code maxLocals ret World_1 tables_1 room_1 Calls_1 rest_1 Pre_1 launch0 p0 e0 about1 theMethod args0 below0 :=
  ⟨lists_1, trivial, launch0.admits_env _ _ _, launch0.least_env, fairChoices_fair.cas, fairChoices_fair.clock, w_frames, w_args, w_heap, w_applies, trivial, trivial, w_case⟩
end start1
theorem witness_1 : WitnessClaimed_1 := ⟨start1.p0, start1.e0, start1.about1, start1.theMethod, start1.args0, start1.below0, start1.atStart⟩
end Jvm.Pilot.@@N@@
