import JvmDerived
import JvmDerived.Pilot.@@N@@Statement
import JvmDerived.Pilot.@@N@@Code
set_option linter.unusedVariables false
set_option linter.unusedSimpArgs false
@@BLOCK:NumsL.lean.txt@@
namespace Jvm.Pilot.@@N@@
open Jvm Jvm.ClassFile Sem Op Lib Jvm.Free Jvm.Stand Jvm.LawKit Jvm.RoadKit Bundle Jvm.Pilot.@@N@@.Jvm.D
section OwnKit
variable {p : Program} {l : Launch} {e : Env} {R : Room} {s : State} {m : MethodId} {args : Array Value} {below : List Frame} {meth : Method} {c : Code} {T : State} {locs : List Loc} {cells slots : Nat}
/-- from the state a the run comes to a state of which P holds -/
def Gen (p : Program) (e : Env) (below : List Frame) (P : State → Prop) (a : State) : Prop := ∃ s₂, Steps p.tables e below a s₂ ∧ P s₂
theorem Gen.on {P : State → Prop} {a b : State} (k : Gen p e below P b) (h : ∀ t, Steps p.tables e below b t → Steps p.tables e below a t) : Gen p e below P a := by
  obtain ⟨s2, h1, h2⟩ := k
  exact ⟨s2, h _ h1, h2⟩
/-- the body has returned, and Q holds of what it returns, leaves and has written -/
def OwnP (below : List Frame) (s : State) (Q : Option Value → Heap → List Loc → Prop) (C S : Nat) (s₂ : State) : Prop := ∃ o, s₂.status = .running ∧ Ended s₂ below o ∧ ∃ v L, o = .returned v ∧ Q v s₂.heap L ∧ FrameEnd s o s₂ L C S
def Own (p : Program) (e : Env) (below : List Frame) (s : State) (Q : Option Value → Heap → List Loc → Prop) (C S : Nat) (a : State) : Prop := Gen p e below (OwnP below s Q C S) a
variable {Q : Option Value → Heap → List Loc → Prop} {C S : Nat}
theorem own_start {a : State} (k : Own p e below s Q C S a) : ∃ s₂ o, Steps p.tables e below a s₂ ∧ s₂.status = .running ∧ Ended s₂ below o ∧ ∃ v L, o = .returned v ∧ Q v s₂.heap L ∧ FrameEnd s o s₂ L C S := by
  obtain ⟨s2, h1, o, h2⟩ := k
  exact ⟨s2, o, h1, h2⟩
/-- the walk stands in a frame F, the heap being H, with what X had written -/
def own_at (X : Stand p l e R s m args below meth c T locs cells slots) (H : Heap) (F : JFrame) (s₂ : State) : Prop := ∃ T', Stand p l e R s m args below meth c T' locs cells slots ∧ T'.heap = H ∧ s₂ = T'.setTop F
theorem own_ret (X : Stand p l e R s m args below meth c T locs cells slots) {g : JFrame} {v : Option Value} (hv : meth.sig.returnType = none → v = none) (hlocks : meth.locks = false) (hc : cells ≤ C) (hs : slots ≤ S) (hq : Q v T.heap locs)
    (st : ∀ fs, (∀ (f : JFrame) (acts : List Action), f.method = m → f.locked = none → f.entered = [] → (doReturn e (T.setTop f) acts v).1 = T.setFrames fs) → Steps p.tables e below (T.setTop g) (T.setFrames fs)) : Own p e below s Q C S (T.setTop g) := by
  obtain ⟨fs, hr, hrun, hended, hW, hsame⟩ := X.leave (v := v) hv hlocks
  exact ⟨_, st fs hr, _, hrun, hended, _, _, rfl, hq, ⟨_, rfl⟩, hW, hsame.mono hc hs⟩
theorem own_retI (X : Stand p l e R s m args below meth c T locs cells slots) (hx : p.tables.exec = Jvm.exec) {pc : Nat} {Ls : Array Slot} {z : Int32} {rest : List Value} (hret : meth.sig.returnType = some .int) (hd : decode c.code pc = .ok (.ireturn, 1)) (hc : cells ≤ C) (hs : slots ≤ S) (hq : Q (some (.int z)) T.heap locs) (hlocks : meth.locks = false := by first | assumption | exact BodyLoose.notSynchronized (by assumption)) : Own p e below s Q C S (T.setTop (mkF m pc Ls (.int z :: rest))) :=
  own_ret X (fun h => by rw [hret] at h; cases h) hlocks hc hs hq fun fs hr => retOut X hx hret rfl (Or.inl ⟨rfl, Or.inl rfl, z, rfl⟩) hd hr
theorem own_retN (X : Stand p l e R s m args below meth c T locs cells slots) (hx : p.tables.exec = Jvm.exec) {pc : Nat} {Ls : Array Slot} {z : Int32} {t : FieldType} {rest : List Value} (hret : meth.sig.returnType = some t) (ht : t = .boolean ∨ t = .byte ∨ t = .char ∨ t = .short) (hz : nar t z = z) (hd : decode c.code pc = .ok (.ireturn, 1)) (hc : cells ≤ C) (hs : slots ≤ S) (hq : Q (some (.int z)) T.heap locs) (hlocks : meth.locks = false := by first | assumption | exact BodyLoose.notSynchronized (by assumption)) : Own p e below s Q C S (T.setTop (mkF m pc Ls (.int z :: rest))) :=
  own_ret X (fun h => by rw [hret] at h; cases h) hlocks hc hs hq fun fs hr => retN X hx hret ht hd (by rw [hz]; exact hr)
theorem own_retJ (X : Stand p l e R s m args below meth c T locs cells slots) (hx : p.tables.exec = Jvm.exec) {pc : Nat} {Ls : Array Slot} {z : Int64} {rest : List Value} (hret : meth.sig.returnType = some .long) (hd : decode c.code pc = .ok (.lreturn, 1)) (hc : cells ≤ C) (hs : slots ≤ S) (hq : Q (some (.long z)) T.heap locs) (hlocks : meth.locks = false := by first | assumption | exact BodyLoose.notSynchronized (by assumption)) : Own p e below s Q C S (T.setTop (mkF m pc Ls (.long z :: rest))) :=
  own_ret X (fun h => by rw [hret] at h; cases h) hlocks hc hs hq fun fs hr => retOut X hx hret rfl (Or.inr (Or.inl ⟨rfl, rfl, z, rfl⟩)) hd hr
theorem own_retA (X : Stand p l e R s m args below meth c T locs cells slots) (hx : p.tables.exec = Jvm.exec) {pc : Nat} {Ls : Array Slot} {w : Value} {t : FieldType} {rest : List Value} (hret : meth.sig.returnType = some t) (ht : t.isReference = true) (hw : w.isRef = true) (hd : decode c.code pc = .ok (.areturn, 1)) (hc : cells ≤ C) (hs : slots ≤ S) (hq : Q (some w) T.heap locs) (hlocks : meth.locks = false := by first | assumption | exact BodyLoose.notSynchronized (by assumption)) : Own p e below s Q C S (T.setTop (mkF m pc Ls (w :: rest))) :=
  own_ret X (fun h => by rw [hret] at h; cases h) hlocks hc hs hq fun fs hr => retOut X hx hret (by cases t <;> cases w <;> simp [FieldType.isReference, Value.isRef] at ht hw <;> rfl) (Or.inr (Or.inr (Or.inr (Or.inr ⟨rfl, ht, hw⟩)))) hd hr
theorem own_ret0 (X : Stand p l e R s m args below meth c T locs cells slots) (hx : p.tables.exec = Jvm.exec) {pc : Nat} {Ls : Array Slot} (hret : meth.sig.returnType = none) (hd : decode c.code pc = .ok (.return_, 1)) (hc : cells ≤ C) (hs : slots ≤ S) (hq : Q none T.heap locs) (hlocks : meth.locks = false := by first | assumption | exact BodyLoose.notSynchronized (by assumption)) : Own p e below s Q C S (T.setTop (mkF m pc Ls [])) :=
  own_ret X (fun _ => rfl) hlocks hc hs hq fun fs hr => X.returnOut hx hret hd hr
theorem own_lt1 {a b : Int64} (h : a < b) : ifCond.holds .lt (lcmpW a b) = true ∧ ifCond.holds .ge (lcmpW a b) = false := by
  have h1 : ¬ a > b := fun q => by rw [gt_iff_lt, Int64.lt_iff_toInt_lt] at q; rw [Int64.lt_iff_toInt_lt] at h; omega
  have h2 : ¬ a = b := fun q => by subst q; exact h1 h
  rw [lcmpW, if_neg h1, if_neg h2]; exact ⟨rfl, rfl⟩
theorem own_lt0 {a b : Int64} (h : ¬ a < b) : ifCond.holds .lt (lcmpW a b) = false ∧ ifCond.holds .ge (lcmpW a b) = true := by
  rw [lcmpW]
  by_cases h1 : a > b
  · rw [if_pos h1]; exact ⟨rfl, rfl⟩
  · have h2 : a = b := by rw [gt_iff_lt, Int64.lt_iff_toInt_lt] at h1; rw [Int64.lt_iff_toInt_lt] at h; exact Int64.toInt_inj.mp (by omega)
    rw [if_neg h1, if_pos h2]; exact ⟨rfl, rfl⟩
theorem own_gt1 {a b : Int64} (h : b < a) : ifCond.holds .gt (lcmpW a b) = true ∧ ifCond.holds .le (lcmpW a b) = false := by
  rw [lcmpW, if_pos h]; exact ⟨rfl, rfl⟩
theorem own_gt0 {a b : Int64} (h : ¬ b < a) : ifCond.holds .gt (lcmpW a b) = false ∧ ifCond.holds .le (lcmpW a b) = true := by
  rw [lcmpW, if_neg h]
  by_cases h1 : a = b
  · rw [if_pos h1]; exact ⟨rfl, rfl⟩
  · rw [if_neg h1]; exact ⟨rfl, rfl⟩
theorem own_eq1 {a b : Int64} (h : a = b) : ifCond.holds .eq (lcmpW a b) = true ∧ ifCond.holds .ne (lcmpW a b) = false := by
  have h1 : ¬ a > b := fun q => by subst h; rw [gt_iff_lt, Int64.lt_iff_toInt_lt] at q; omega
  rw [lcmpW, if_neg h1, if_pos h]; exact ⟨rfl, rfl⟩
theorem own_eq0 {a b : Int64} (h : ¬ a = b) : ifCond.holds .eq (lcmpW a b) = false ∧ ifCond.holds .ne (lcmpW a b) = true := by
  rw [lcmpW]
  by_cases h1 : a > b
  · rw [if_pos h1]; exact ⟨rfl, rfl⟩
  · rw [if_neg h1, if_neg h]; exact ⟨rfl, rfl⟩
theorem own_sta_keep {Z : State} {h h' : Heap} {C n d : String} {w : Value} (F : Sta Z h C n d w) (K : Keep h h' []) : Sta Z h' C n d w := by
  obtain ⟨cf, i, k, f, st, cell, h1, h2, h3, h4, h5, h6⟩ := F
  exact ⟨cf, i, k, f, st, cell, h1, h2, h3, h4, K.2.1 st cell h5 nin0, h6⟩
theorem own_arr_keep {Z : State} {h h' : Heap} {a : Addr} {cl : Cell} {ty : FieldType} {ws : List Addr} (A : Arr Z h a cl ty) (K : Keep h h' ws) (q : a ∉ ws) : Arr Z h' a cl ty := ⟨K.2.1 a cl A.1 q, A.2⟩
end OwnKit

theorem d1_0 : decode jdk_29_method_70_code 0 = .ok (.lload_n 0, 1) := by decide +kernel
theorem d1_1 : decode jdk_29_method_70_code 1 = .ok (.lload_n 2, 1) := by decide +kernel
theorem d1_2 : decode jdk_29_method_70_code 2 = .ok (.lcmp, 1) := by decide +kernel
theorem d1_3 : decode jdk_29_method_70_code 3 = .ok (.ifCond .gt 7, 3) := by decide +kernel
theorem d1_6 : decode jdk_29_method_70_code 6 = .ok (.lload_n 0, 1) := by decide +kernel
theorem d1_7 : decode jdk_29_method_70_code 7 = .ok (.goto 4, 3) := by decide +kernel
theorem d1_10 : decode jdk_29_method_70_code 10 = .ok (.lload_n 2, 1) := by decide +kernel
theorem d1_11 : decode jdk_29_method_70_code 11 = .ok (.lreturn, 1) := by decide +kernel
-- Math
theorem ef_1 (m : MethodId) (x0 : Int64) (x1 : Int64) : entryFrame m #[(.long x0), (.long x1)] 4 = mkF m 0 #[.val (.long x0), .second, .val (.long x1), .second] [] := by first | (simp [entryFrame, mkF, argsToLocals, Value.category]; done) | rfl
def f1 (q1 : Int64) (q2 : Int64) : Int64 := (if q2 < q1 then q2 else q1)
def Q1 (q1 : Int64) (q2 : Int64) (h0 : Heap) (n0 : Nat) (v : Option Value) (h : Heap) (L : List Loc) : Prop := v = some (.long (f1 q1 q2)) ∧ Fr n0 L ∧ h = h0
set_option maxRecDepth 65536 in
set_option maxHeartbeats 40000000 in
theorem rm1 (l : Launch) (Z : State) (a0 : Array Value) (hw : ∀ d ∈ tables_1, d.before a0 Z = true) (ws : List Jvm.Cond) (q1 : Int64) (q2 : Int64) (h0 : Heap) (n0 : Nat) (Z0 : n0 ≤ h0.size)  :
    MetFree l (⟨"java/lang/Math", "min", "(JJ)J"⟩ : MethodName) (head1 (Jvm.Cond.code (⟨"java/lang/Math", "min", "(JJ)J"⟩ : MethodName) jdk_29_method_70_code 4 (some .long) :: ws) ({ frames := 0, cells := 0, slots := 0, locals := 0 } : Room)) (fun a U => a = #[(.long q1), (.long q2)] ∧ Z.Warmed39 U.vm ∧ U.heap = h0) (fun _ _ _ _ _ => True) (fun _ U o U' => ∃ v L, o = .returned v ∧ Q1 q1 q2 h0 n0 v U'.heap L ∧ FrameEnd U o U' L ({ frames := 0, cells := 0, slots := 0, locals := 0 } : Room).cells ({ frames := 0, cells := 0, slots := 0, locals := 0 } : Room).slots) := by
  refine MetFree.of_bodySF (Jvm.Free.JP.mathPlain rfl (by decide +kernel)) hisR ?_
  intro p e s m args below meth c s₁ Bd hml0 hP hK
  obtain ⟨rfl, hZ, hh⟩ := hP
  have hx := Bd.exec
  have hby := Bd.bytes
  have hml : c.maxLocals = 4 := hml0
  have hown : s.vm.findClass "java/lang/Math" = some m.cls := findClass_of_methodNamed Bd.named
  have hnm := (name_of_methodNamed Bd.named Bd.method).1
  have X0 : Stand p l e ({ frames := 0, cells := 0, slots := 0, locals := 0 } : Room) s m #[(.long q1), (.long q2)] below meth c s₁ [] 0 0 := Stand.of_body Bd
  have e0 : s₁.heap = h0 := by rw [← hh, Bd.state]; rfl
  have N0 := Fr.nil n0
  refine own_start (Q := Q1 q1 q2 h0 n0) (C := ({ frames := 0, cells := 0, slots := 0, locals := 0 } : Room).cells) (S := ({ frames := 0, cells := 0, slots := 0, locals := 0 } : Room).slots) ?_
  rw [ef_1 m q1 q2]
  have hq : ∀ v hh L, v = some (.long (f1 q1 q2)) → Fr n0 L → hh = h0 → Q1 q1 q2 h0 n0 v hh L := fun v hh L q1 q2 q3 => ⟨q1, q2, q3⟩
  refine Gen.on (b := s₁.setTop (mkF m 1 #[.val (.long q1), .second, .val (.long q2), .second] [(.long q1)])) ?_ (fun t k => XS.lloadN X0.here hx rfl (hb hby d1_0) rfl k)
  refine Gen.on (b := s₁.setTop (mkF m 2 #[.val (.long q1), .second, .val (.long q2), .second] [(.long q2), (.long q1)])) ?_ (fun t k => XS.lloadN X0.here hx rfl (hb hby d1_1) rfl k)
  refine Gen.on (b := s₁.setTop (mkF m 3 #[.val (.long q1), .second, .val (.long q2), .second] [(.int (lcmpW q1 q2))])) ?_ (fun t k => XS.lcmp X0.here hx rfl (hb hby d1_2) rfl k)
  by_cases c3_1 : q2 < q1
  · refine Gen.on (b := s₁.setTop (mkF m 10 #[.val (.long q1), .second, .val (.long q2), .second] [])) ?_ (fun t k => XS.ifYes X0.here hx rfl (pc0 := 3) (pc' := 10) rfl (hb hby d1_3) rfl (own_gt1 c3_1).1 (by decide) (by decide) k)
    refine Gen.on (b := s₁.setTop (mkF m 11 #[.val (.long q1), .second, .val (.long q2), .second] [(.long q2)])) ?_ (fun t k => XS.lloadN X0.here hx rfl (hb hby d1_10) rfl k)
    refine own_retJ X0 hx Bd.returns (hb hby d1_11) (by decide) (by decide) ?_
    exact hq _ _ _ (by simp only [f1, if_pos c3_1]) N0 e0
  · refine Gen.on (b := s₁.setTop (mkF m 6 #[.val (.long q1), .second, .val (.long q2), .second] [])) ?_ (fun t k => XS.ifNo X0.here hx rfl (hb hby d1_3) rfl (own_gt0 c3_1).1 k)
    refine Gen.on (b := s₁.setTop (mkF m 7 #[.val (.long q1), .second, .val (.long q2), .second] [(.long q1)])) ?_ (fun t k => XS.lloadN X0.here hx rfl (hb hby d1_6) rfl k)
    refine Gen.on (b := s₁.setTop (mkF m 11 #[.val (.long q1), .second, .val (.long q2), .second] [(.long q1)])) ?_ (fun t k => XS.goto X0.here hx rfl (pc0 := 7) (pc' := 11) rfl (hb hby d1_7) (by decide) (by decide) k)
    refine own_retJ X0 hx Bd.returns (hb hby d1_11) (by decide) (by decide) ?_
    exact hq _ _ _ (by simp only [f1, if_neg c3_1]) N0 e0
theorem d2_0 : decode jdk_29_method_66_code 0 = .ok (.lload_n 0, 1) := by decide +kernel
theorem d2_1 : decode jdk_29_method_66_code 1 = .ok (.lload_n 2, 1) := by decide +kernel
theorem d2_2 : decode jdk_29_method_66_code 2 = .ok (.lcmp, 1) := by decide +kernel
theorem d2_3 : decode jdk_29_method_66_code 3 = .ok (.ifCond .lt 7, 3) := by decide +kernel
theorem d2_6 : decode jdk_29_method_66_code 6 = .ok (.lload_n 0, 1) := by decide +kernel
theorem d2_7 : decode jdk_29_method_66_code 7 = .ok (.goto 4, 3) := by decide +kernel
theorem d2_10 : decode jdk_29_method_66_code 10 = .ok (.lload_n 2, 1) := by decide +kernel
theorem d2_11 : decode jdk_29_method_66_code 11 = .ok (.lreturn, 1) := by decide +kernel
-- Math
theorem ef_2 (m : MethodId) (x0 : Int64) (x1 : Int64) : entryFrame m #[(.long x0), (.long x1)] 4 = mkF m 0 #[.val (.long x0), .second, .val (.long x1), .second] [] := by first | (simp [entryFrame, mkF, argsToLocals, Value.category]; done) | rfl
def f2 (q1 : Int64) (q2 : Int64) : Int64 := (if q1 < q2 then q2 else q1)
def Q2 (q1 : Int64) (q2 : Int64) (h0 : Heap) (n0 : Nat) (v : Option Value) (h : Heap) (L : List Loc) : Prop := v = some (.long (f2 q1 q2)) ∧ Fr n0 L ∧ h = h0
set_option maxRecDepth 65536 in
set_option maxHeartbeats 40000000 in
theorem rm2 (l : Launch) (Z : State) (a0 : Array Value) (hw : ∀ d ∈ tables_1, d.before a0 Z = true) (ws : List Jvm.Cond) (q1 : Int64) (q2 : Int64) (h0 : Heap) (n0 : Nat) (Z0 : n0 ≤ h0.size)  :
    MetFree l (⟨"java/lang/Math", "max", "(JJ)J"⟩ : MethodName) (head1 (Jvm.Cond.code (⟨"java/lang/Math", "max", "(JJ)J"⟩ : MethodName) jdk_29_method_66_code 4 (some .long) :: ws) ({ frames := 0, cells := 0, slots := 0, locals := 0 } : Room)) (fun a U => a = #[(.long q1), (.long q2)] ∧ Z.Warmed39 U.vm ∧ U.heap = h0) (fun _ _ _ _ _ => True) (fun _ U o U' => ∃ v L, o = .returned v ∧ Q2 q1 q2 h0 n0 v U'.heap L ∧ FrameEnd U o U' L ({ frames := 0, cells := 0, slots := 0, locals := 0 } : Room).cells ({ frames := 0, cells := 0, slots := 0, locals := 0 } : Room).slots) := by
  refine MetFree.of_bodySF (Jvm.Free.JP.mathPlain rfl (by decide +kernel)) hisR ?_
  intro p e s m args below meth c s₁ Bd hml0 hP hK
  obtain ⟨rfl, hZ, hh⟩ := hP
  have hx := Bd.exec
  have hby := Bd.bytes
  have hml : c.maxLocals = 4 := hml0
  have hown : s.vm.findClass "java/lang/Math" = some m.cls := findClass_of_methodNamed Bd.named
  have hnm := (name_of_methodNamed Bd.named Bd.method).1
  have X0 : Stand p l e ({ frames := 0, cells := 0, slots := 0, locals := 0 } : Room) s m #[(.long q1), (.long q2)] below meth c s₁ [] 0 0 := Stand.of_body Bd
  have e0 : s₁.heap = h0 := by rw [← hh, Bd.state]; rfl
  have N0 := Fr.nil n0
  refine own_start (Q := Q2 q1 q2 h0 n0) (C := ({ frames := 0, cells := 0, slots := 0, locals := 0 } : Room).cells) (S := ({ frames := 0, cells := 0, slots := 0, locals := 0 } : Room).slots) ?_
  rw [ef_2 m q1 q2]
  have hq : ∀ v hh L, v = some (.long (f2 q1 q2)) → Fr n0 L → hh = h0 → Q2 q1 q2 h0 n0 v hh L := fun v hh L q1 q2 q3 => ⟨q1, q2, q3⟩
  refine Gen.on (b := s₁.setTop (mkF m 1 #[.val (.long q1), .second, .val (.long q2), .second] [(.long q1)])) ?_ (fun t k => XS.lloadN X0.here hx rfl (hb hby d2_0) rfl k)
  refine Gen.on (b := s₁.setTop (mkF m 2 #[.val (.long q1), .second, .val (.long q2), .second] [(.long q2), (.long q1)])) ?_ (fun t k => XS.lloadN X0.here hx rfl (hb hby d2_1) rfl k)
  refine Gen.on (b := s₁.setTop (mkF m 3 #[.val (.long q1), .second, .val (.long q2), .second] [(.int (lcmpW q1 q2))])) ?_ (fun t k => XS.lcmp X0.here hx rfl (hb hby d2_2) rfl k)
  by_cases c3_1 : q1 < q2
  · refine Gen.on (b := s₁.setTop (mkF m 10 #[.val (.long q1), .second, .val (.long q2), .second] [])) ?_ (fun t k => XS.ifYes X0.here hx rfl (pc0 := 3) (pc' := 10) rfl (hb hby d2_3) rfl (own_lt1 c3_1).1 (by decide) (by decide) k)
    refine Gen.on (b := s₁.setTop (mkF m 11 #[.val (.long q1), .second, .val (.long q2), .second] [(.long q2)])) ?_ (fun t k => XS.lloadN X0.here hx rfl (hb hby d2_10) rfl k)
    refine own_retJ X0 hx Bd.returns (hb hby d2_11) (by decide) (by decide) ?_
    exact hq _ _ _ (by simp only [f2, if_pos c3_1]) N0 e0
  · refine Gen.on (b := s₁.setTop (mkF m 6 #[.val (.long q1), .second, .val (.long q2), .second] [])) ?_ (fun t k => XS.ifNo X0.here hx rfl (hb hby d2_3) rfl (own_lt0 c3_1).1 k)
    refine Gen.on (b := s₁.setTop (mkF m 7 #[.val (.long q1), .second, .val (.long q2), .second] [(.long q1)])) ?_ (fun t k => XS.lloadN X0.here hx rfl (hb hby d2_6) rfl k)
    refine Gen.on (b := s₁.setTop (mkF m 11 #[.val (.long q1), .second, .val (.long q2), .second] [(.long q1)])) ?_ (fun t k => XS.goto X0.here hx rfl (pc0 := 7) (pc' := 11) rfl (hb hby d2_7) (by decide) (by decide) k)
    refine own_retJ X0 hx Bd.returns (hb hby d2_11) (by decide) (by decide) ?_
    exact hq _ _ _ (by simp only [f2, if_neg c3_1]) N0 e0

theorem d4_0 : decode jdk_30_method_1_code 0 = .ok (.aload_n 0, 1) := by decide +kernel
theorem d4_1 : decode jdk_30_method_1_code 1 = .ok (.invokespecial 1, 3) := by decide +kernel
theorem d4_4 : decode jdk_30_method_1_code 4 = .ok (.return_, 1) := by decide +kernel
theorem pn_4 : plainName "java/lang/Record" = true := by first | (simp [plainName, overriddenIn]; done) | decide +kernel
theorem ef_4 (m : MethodId) (x0 : Addr) : entryFrame m #[(.ref x0)] 1 = mkF m 0 #[.val (.ref x0)] [] := by first | (simp [entryFrame, mkF, argsToLocals, Value.category]; done) | rfl
def Q4 (Z : State) (a1 : Addr) (h0 : Heap) (n0 : Nat) (v : Option Value) (h : Heap) (L : List Loc) : Prop := v = none ∧ Fr n0 L ∧ h = h0
set_option maxRecDepth 65536 in
set_option maxHeartbeats 40000000 in
theorem rm4 (l : Launch) (Z : State) (a0 : Array Value) (hw : ∀ d ∈ tables_1, d.before a0 Z = true) (ws : List Jvm.Cond) (a1 : Addr) (h0 : Heap) (n0 : Nat) (Z0 : n0 ≤ h0.size)  :
    MetFree l (⟨"java/lang/Record", "<init>", "()V"⟩ : MethodName) (head1 (Jvm.Cond.code (⟨"java/lang/Record", "<init>", "()V"⟩ : MethodName) jdk_30_method_1_code 1 none :: ws) ({ frames := 1, cells := 0, slots := 0, locals := 12 } : Room)) (fun a U => a = #[(.ref a1)] ∧ Z.Warmed39 U.vm ∧ U.heap = h0) (fun _ _ _ _ _ => True) (fun _ U o U' => ∃ v L, o = .returned v ∧ Q4 Z a1 h0 n0 v U'.heap L ∧ FrameEnd U o U' L ({ frames := 1, cells := 0, slots := 0, locals := 12 } : Room).cells ({ frames := 1, cells := 0, slots := 0, locals := 12 } : Room).slots) := by
  refine MetFree.of_bodySF (plainFor_of_name pn_4) hisR ?_
  intro p e s m args below meth c s₁ Bd hml0 hP hK
  obtain ⟨rfl, hZ, hh⟩ := hP
  have hx := Bd.exec
  have hby := Bd.bytes
  have hml : c.maxLocals = 1 := hml0
  have hown : s.vm.findClass "java/lang/Record" = some m.cls := findClass_of_methodNamed Bd.named
  have hnm := (name_of_methodNamed Bd.named Bd.method).1
  have X0 : Stand p l e ({ frames := 1, cells := 0, slots := 0, locals := 12 } : Room) s m #[(.ref a1)] below meth c s₁ [] 0 0 := Stand.of_body Bd
  have e0 : s₁.heap = h0 := by rw [← hh, Bd.state]; rfl
  have N0 := Fr.nil n0
  refine own_start (Q := Q4 Z a1 h0 n0) (C := ({ frames := 1, cells := 0, slots := 0, locals := 12 } : Room).cells) (S := ({ frames := 1, cells := 0, slots := 0, locals := 12 } : Room).slots) ?_
  rw [ef_4 m a1]
  refine Gen.on (b := s₁.setTop (mkF m 1 #[.val (.ref a1)] [(.ref a1)])) ?_ (fun t k => XS.aloadN X0.here hx rfl (hb hby d4_0) rfl rfl k)
  obtain ⟨T1, X1, e1, st1⟩ := initO X0 hx hZ hown (hw _ (List.mem_of_getElem? (i := 19) rfl)) (hw _ (List.mem_of_getElem? (i := 20) rfl)) (hw _ (List.mem_of_getElem? (i := 21) rfl)) e0 (g := (mkF m 1 #[.val (.ref a1)] [(.ref a1)])) rfl (by rw [hml]; rfl) rfl (hb hby d4_1) (by decide) (W := 0) (by show 2 * 0 + _ ≤ _; exact Nat.le_of_eq rfl) (by decide)
  refine Gen.on (b := T1.setTop (mkF m 4 #[.val (.ref a1)] [])) ?_ (fun t k => st1 t k)
  refine own_ret0 X1 hx Bd.returns (hb hby d4_4) (by decide) (by decide) ?_
  exact ⟨rfl, N0, e1⟩

theorem d3_0 : decode prog_11_method_1_code 0 = .ok (.aload_n 0, 1) := by decide +kernel
theorem d3_1 : decode prog_11_method_1_code 1 = .ok (.invokespecial 1, 3) := by decide +kernel
theorem d3_4 : decode prog_11_method_1_code 4 = .ok (.aload_n 0, 1) := by decide +kernel
theorem d3_5 : decode prog_11_method_1_code 5 = .ok (.lload_n 1, 1) := by decide +kernel
theorem d3_6 : decode prog_11_method_1_code 6 = .ok (.putfield 7, 3) := by decide +kernel
theorem d3_9 : decode prog_11_method_1_code 9 = .ok (.aload_n 0, 1) := by decide +kernel
theorem d3_10 : decode prog_11_method_1_code 10 = .ok (.lload_n 3, 1) := by decide +kernel
theorem d3_11 : decode prog_11_method_1_code 11 = .ok (.putfield 13, 3) := by decide +kernel
theorem d3_14 : decode prog_11_method_1_code 14 = .ok (.return_, 1) := by decide +kernel
theorem pn_3 : plainName "com/example/bandwarden/bandwarden/server/ByteRange" = true := by first | (simp [plainName, overriddenIn]; done) | decide +kernel
theorem pd_3_0 : parseMethodDescriptor "()V" = some ⟨[], none⟩ := by decide +kernel
theorem ef_3 (m : MethodId) (x0 : Addr) (x1 : Int64) (x2 : Int64) : entryFrame m #[(.ref x0), (.long x1), (.long x2)] 5 = mkF m 0 #[.val (.ref x0), .val (.long x1), .second, .val (.long x2), .second] [] := by first | (simp [entryFrame, mkF, argsToLocals, Value.category]; done) | rfl
def Q3 (Z : State) (a1 : Addr) (q2 : Int64) (q3 : Int64) (u1 : Value) (u2 : Value) (h0 : Heap) (n0 : Nat) (v : Option Value) (h : Heap) (L : List Loc) : Prop := v = none ∧ Fr n0 L ∧ Keep h0 h [a1] ∧ Exa Z h a1 "com/example/bandwarden/bandwarden/server/ByteRange" ∧ Fld Z h a1 "com/example/bandwarden/bandwarden/server/ByteRange" "first" "J" (.long q2) ∧ Fld Z h a1 "com/example/bandwarden/bandwarden/server/ByteRange" "last" "J" (.long q3)
set_option maxRecDepth 65536 in
set_option maxHeartbeats 40000000 in
theorem rm3 (l : Launch) (Z : State) (a0 : Array Value) (hw : ∀ d ∈ tables_1, d.before a0 Z = true) (ws : List Jvm.Cond) (a1 : Addr) (q2 : Int64) (q3 : Int64) (u1 : Value) (u2 : Value) (h0 : Heap) (n0 : Nat) (Z0 : n0 ≤ h0.size) (P0 : Exa Z h0 a1 "com/example/bandwarden/bandwarden/server/ByteRange") (P1 : Fld Z h0 a1 "com/example/bandwarden/bandwarden/server/ByteRange" "first" "J" u1) (P2 : Fld Z h0 a1 "com/example/bandwarden/bandwarden/server/ByteRange" "last" "J" u2) (g_a1 : n0 ≤ a1) :
    MetFree l (⟨"com/example/bandwarden/bandwarden/server/ByteRange", "<init>", "(JJ)V"⟩ : MethodName) (head1 (Jvm.Cond.code (⟨"com/example/bandwarden/bandwarden/server/ByteRange", "<init>", "(JJ)V"⟩ : MethodName) prog_11_method_1_code 5 none :: ws) ({ frames := 2, cells := 0, slots := 0, locals := 24 } : Room)) (fun a U => a = #[(.ref a1), (.long q2), (.long q3)] ∧ Z.Warmed39 U.vm ∧ U.heap = h0) (fun _ _ _ _ _ => True) (fun _ U o U' => ∃ v L, o = .returned v ∧ Q3 Z a1 q2 q3 u1 u2 h0 n0 v U'.heap L ∧ FrameEnd U o U' L ({ frames := 2, cells := 0, slots := 0, locals := 24 } : Room).cells ({ frames := 2, cells := 0, slots := 0, locals := 24 } : Room).slots) := by
  refine MetFree.of_bodySF (plainFor_of_name pn_3) hisR ?_
  intro p e s m args below meth c s₁ Bd hml0 hP hK
  obtain ⟨rfl, hZ, hh⟩ := hP
  have hx := Bd.exec
  have hby := Bd.bytes
  have hml : c.maxLocals = 5 := hml0
  have hown : s.vm.findClass "com/example/bandwarden/bandwarden/server/ByteRange" = some m.cls := findClass_of_methodNamed Bd.named
  have hnm := (name_of_methodNamed Bd.named Bd.method).1
  have X0 : Stand p l e ({ frames := 2, cells := 0, slots := 0, locals := 24 } : Room) s m #[(.ref a1), (.long q2), (.long q3)] below meth c s₁ [] 0 0 := Stand.of_body Bd
  have e0 : s₁.heap = h0 := by rw [← hh, Bd.state]; rfl
  have N0 := Fr.nil n0
  refine own_start (Q := Q3 Z a1 q2 q3 u1 u2 h0 n0) (C := ({ frames := 2, cells := 0, slots := 0, locals := 24 } : Room).cells) (S := ({ frames := 2, cells := 0, slots := 0, locals := 24 } : Room).slots) ?_
  rw [ef_3 m a1 q2 q3]
  have K0 : Keep h0 h0 [a1] := Keep.refl h0 [a1]
  refine Gen.on (b := s₁.setTop (mkF m 1 #[.val (.ref a1), .val (.long q2), .second, .val (.long q3), .second] [(.ref a1)])) ?_ (fun t k => XS.aloadN X0.here hx rfl (hb hby d3_0) rfl rfl k)
  obtain ⟨_, _, ⟨T1, L1, k1, n1⟩, -, X1, ⟨Lc1, hQ1, l1, y1, z1⟩, st1⟩ := X0.specialBack hx (y := (⟨"java/lang/Record", "<init>", "()V"⟩ : MethodName)) rfl hown (mvT hZ (hw _ (List.mem_of_getElem? (i := 14) rfl))) (mvT hZ (hw _ (List.mem_of_getElem? (i := 15) rfl))) (mvT hZ (hw _ (List.mem_of_getElem? (i := 18) rfl))) (by decide) (backOf (W := 0) (rm4 l Z a0 hw [] a1  h0 n0 Z0 ) hZ (hw _ (List.mem_of_getElem? (i := 18) rfl)) (hw _ (List.mem_of_getElem? (i := 17) rfl)) (by decide) (by decide)) (g := (mkF m 1 #[.val (.ref a1), .val (.long q2), .second, .val (.long q3), .second] [(.ref a1)])) rfl (by rw [hml]; rfl) (Steps.refl _) (a := a1) (argsL := []) (rest := []) (lenOf pd_3_0 rfl) rfl (by show 2 * 0 + _ ≤ _; exact Nat.le_of_eq rfl) (hb hby d3_1) (fun _ _ => ⟨rfl, e0, (by decide : 0 + 0 ≤ _), (by decide : 0 + 0 ≤ _)⟩)
  dsimp only [Pt.U, Pt.locs, Pt.cells, Pt.slots] at X1 l1 y1 z1 st1 hQ1
  subst l1 y1 z1
  obtain ⟨rfl, N1q, e1⟩ := hQ1
  have N1 := Fr.app N0 N1q
  refine Gen.on (b := T1.setTop (mkF m 4 #[.val (.ref a1), .val (.long q2), .second, .val (.long q3), .second] [])) ?_ (fun t k => st1.trans k)
  refine Gen.on (b := T1.setTop (mkF m 5 #[.val (.ref a1), .val (.long q2), .second, .val (.long q3), .second] [(.ref a1)])) ?_ (fun t k => XS.aloadN X1.here hx rfl (hb hby d3_4) rfl rfl k)
  refine Gen.on (b := T1.setTop (mkF m 6 #[.val (.ref a1), .val (.long q2), .second, .val (.long q3), .second] [(.long q2), (.ref a1)])) ?_ (fun t k => XS.lloadN X1.here hx rfl (hb hby d3_5) rfl k)
  obtain ⟨T2, h2, X2, e2, W2, st2⟩ := putF X1 hx hZ hown (host := "") (Or.inl (hw _ (List.mem_of_getElem? (i := 22) rfl))) Via.refl e1 P1 P0 (Or.inr ⟨(hw _ (List.mem_of_getElem? (i := 23) rfl)), rfl, hnm⟩) (hw _ (List.mem_of_getElem? (i := 9) rfl)) (ty := .long) (by decide) rfl rfl (g := (mkF m 6 #[.val (.ref a1), .val (.long q2), .second, .val (.long q3), .second] [(.long q2), (.ref a1)])) rfl rfl (hb hby d3_6)
  have Fw2 := P1.same W2
  have Z2 : n0 ≤ h2.size := Nat.le_trans Z0 (Keep.of_wr W2).1
  have K2 : Keep h0 h2 [a1] := K0.wr W2 (Or.inl (List.mem_of_getElem? (i := 0) rfl))
  have N2 := Fr.snoc X2 N1 g_a1
  refine Gen.on (b := T2.setTop (mkF m 9 #[.val (.ref a1), .val (.long q2), .second, .val (.long q3), .second] [])) ?_ (fun t k => st2 t k)
  refine Gen.on (b := T2.setTop (mkF m 10 #[.val (.ref a1), .val (.long q2), .second, .val (.long q3), .second] [(.ref a1)])) ?_ (fun t k => XS.aloadN X2.here hx rfl (hb hby d3_9) rfl rfl k)
  refine Gen.on (b := T2.setTop (mkF m 11 #[.val (.ref a1), .val (.long q2), .second, .val (.long q3), .second] [(.long q3), (.ref a1)])) ?_ (fun t k => XS.lloadN X2.here hx rfl (hb hby d3_10) rfl k)
  have fa3 := (P2.other W2 (Or.inr (slot_ne (Or.inr (hw _ (List.mem_of_getElem? (i := 25) rfl))) (Or.inr (hw _ (List.mem_of_getElem? (i := 23) rfl))) (by decide) (t := .long) (t' := .long) (by decide) (by decide))))
  have fa4 := (P0.wr W2)
  obtain ⟨T5, h5, X5, e5, W5, st5⟩ := putF X2 hx hZ hown (host := "") (Or.inl (hw _ (List.mem_of_getElem? (i := 24) rfl))) Via.refl e2 fa3 fa4 (Or.inr ⟨(hw _ (List.mem_of_getElem? (i := 25) rfl)), rfl, hnm⟩) (hw _ (List.mem_of_getElem? (i := 9) rfl)) (ty := .long) (by decide) rfl rfl (g := (mkF m 11 #[.val (.ref a1), .val (.long q2), .second, .val (.long q3), .second] [(.long q3), (.ref a1)])) rfl rfl (hb hby d3_11)
  have Fw5 := fa3.same W5
  have Z5 : n0 ≤ h5.size := Nat.le_trans Z2 (Keep.of_wr W5).1
  have K5 : Keep h0 h5 [a1] := K2.wr W5 (Or.inl (List.mem_of_getElem? (i := 0) rfl))
  have N5 := Fr.snoc X5 N2 g_a1
  refine Gen.on (b := T5.setTop (mkF m 14 #[.val (.ref a1), .val (.long q2), .second, .val (.long q3), .second] [])) ?_ (fun t k => st5 t k)
  refine own_ret0 X5 hx Bd.returns (hb hby d3_14) (by decide) (by decide) ?_
  have fa6 := (fa4.wr W5)
  have fa7 := (Fw2.other W5 (Or.inr (slot_ne (Or.inr (hw _ (List.mem_of_getElem? (i := 23) rfl))) (Or.inr (hw _ (List.mem_of_getElem? (i := 25) rfl))) (by decide) (t := .long) (t' := .long) (by decide) (by decide))))
  show Q3 Z a1 q2 q3 u1 u2 h0 n0 _ T5.heap _
  rw [e5]
  exact ⟨rfl, N5, K5, fa6, fa7, Fw5⟩

theorem d6_0 : decode prog_11_method_3_code 0 = .ok (.aload_n 0, 1) := by decide +kernel
theorem d6_1 : decode prog_11_method_3_code 1 = .ok (.getfield 13, 3) := by decide +kernel
theorem d6_4 : decode prog_11_method_3_code 4 = .ok (.aload_n 0, 1) := by decide +kernel
theorem d6_5 : decode prog_11_method_3_code 5 = .ok (.getfield 7, 3) := by decide +kernel
theorem d6_8 : decode prog_11_method_3_code 8 = .ok (.lsub, 1) := by decide +kernel
theorem d6_9 : decode prog_11_method_3_code 9 = .ok (.lconst 1, 1) := by decide +kernel
theorem d6_10 : decode prog_11_method_3_code 10 = .ok (.ladd, 1) := by decide +kernel
theorem d6_11 : decode prog_11_method_3_code 11 = .ok (.lreturn, 1) := by decide +kernel
theorem pn_6 : plainName "com/example/bandwarden/bandwarden/server/ByteRange" = true := by first | (simp [plainName, overriddenIn]; done) | decide +kernel
theorem ef_6 (m : MethodId) (x0 : Addr) : entryFrame m #[(.ref x0)] 1 = mkF m 0 #[.val (.ref x0)] [] := by first | (simp [entryFrame, mkF, argsToLocals, Value.category]; done) | rfl
def Q6 (Z : State) (a1 : Addr) (w1 : Int64) (w2 : Int64) (h0 : Heap) (n0 : Nat) (v : Option Value) (h : Heap) (L : List Loc) : Prop := v = some (.long ((w2 - w1) + (1 : Int64))) ∧ Fr n0 L ∧ h = h0
set_option maxRecDepth 65536 in
set_option maxHeartbeats 40000000 in
theorem rm6 (l : Launch) (Z : State) (a0 : Array Value) (hw : ∀ d ∈ tables_1, d.before a0 Z = true) (ws : List Jvm.Cond) (a1 : Addr) (w1 : Int64) (w2 : Int64) (h0 : Heap) (n0 : Nat) (Z0 : n0 ≤ h0.size) (P0 : Fld Z h0 a1 "com/example/bandwarden/bandwarden/server/ByteRange" "first" "J" (.long w1)) (P1 : Fld Z h0 a1 "com/example/bandwarden/bandwarden/server/ByteRange" "last" "J" (.long w2)) :
    MetFree l (⟨"com/example/bandwarden/bandwarden/server/ByteRange", "length", "()J"⟩ : MethodName) (head1 (Jvm.Cond.code (⟨"com/example/bandwarden/bandwarden/server/ByteRange", "length", "()J"⟩ : MethodName) prog_11_method_3_code 1 (some .long) :: ws) ({ frames := 0, cells := 0, slots := 0, locals := 0 } : Room)) (fun a U => a = #[(.ref a1)] ∧ Z.Warmed39 U.vm ∧ U.heap = h0) (fun _ _ _ _ _ => True) (fun _ U o U' => ∃ v L, o = .returned v ∧ Q6 Z a1 w1 w2 h0 n0 v U'.heap L ∧ FrameEnd U o U' L ({ frames := 0, cells := 0, slots := 0, locals := 0 } : Room).cells ({ frames := 0, cells := 0, slots := 0, locals := 0 } : Room).slots) := by
  refine MetFree.of_bodySF (plainFor_of_name pn_6) hisR ?_
  intro p e s m args below meth c s₁ Bd hml0 hP hK
  obtain ⟨rfl, hZ, hh⟩ := hP
  have hx := Bd.exec
  have hby := Bd.bytes
  have hml : c.maxLocals = 1 := hml0
  have hown : s.vm.findClass "com/example/bandwarden/bandwarden/server/ByteRange" = some m.cls := findClass_of_methodNamed Bd.named
  have hnm := (name_of_methodNamed Bd.named Bd.method).1
  have X0 : Stand p l e ({ frames := 0, cells := 0, slots := 0, locals := 0 } : Room) s m #[(.ref a1)] below meth c s₁ [] 0 0 := Stand.of_body Bd
  have e0 : s₁.heap = h0 := by rw [← hh, Bd.state]; rfl
  have N0 := Fr.nil n0
  refine own_start (Q := Q6 Z a1 w1 w2 h0 n0) (C := ({ frames := 0, cells := 0, slots := 0, locals := 0 } : Room).cells) (S := ({ frames := 0, cells := 0, slots := 0, locals := 0 } : Room).slots) ?_
  rw [ef_6 m a1]
  refine Gen.on (b := s₁.setTop (mkF m 1 #[.val (.ref a1)] [(.ref a1)])) ?_ (fun t k => XS.aloadN X0.here hx rfl (hb hby d6_0) rfl rfl k)
  obtain ⟨T1, X1, e1, st1⟩ := getF X0 hx hZ hown (host := "") (Or.inl (hw _ (List.mem_of_getElem? (i := 24) rfl))) Via.refl e0 P1 (g := (mkF m 1 #[.val (.ref a1)] [(.ref a1)])) rfl rfl (hb hby d6_1)
  refine Gen.on (b := T1.setTop (mkF m 4 #[.val (.ref a1)] [(.long w2)])) ?_ (fun t k => st1 t k)
  refine Gen.on (b := T1.setTop (mkF m 5 #[.val (.ref a1)] [(.ref a1), (.long w2)])) ?_ (fun t k => XS.aloadN X1.here hx rfl (hb hby d6_4) rfl rfl k)
  obtain ⟨T2, X2, e2, st2⟩ := getF X1 hx hZ hown (host := "") (Or.inl (hw _ (List.mem_of_getElem? (i := 22) rfl))) Via.refl e1 P0 (g := (mkF m 5 #[.val (.ref a1)] [(.ref a1), (.long w2)])) rfl rfl (hb hby d6_5)
  refine Gen.on (b := T2.setTop (mkF m 8 #[.val (.ref a1)] [(.long w1), (.long w2)])) ?_ (fun t k => st2 t k)
  refine Gen.on (b := T2.setTop (mkF m 9 #[.val (.ref a1)] [(.long (w2 - w1))])) ?_ (fun t k => XS.lsub X2.here hx rfl (hb hby d6_8) rfl k)
  refine Gen.on (b := T2.setTop (mkF m 10 #[.val (.ref a1)] [(.long (1 : Int64)), (.long (w2 - w1))])) ?_ (fun t k => XS.lconst X2.here hx rfl (hb hby d6_9) k)
  refine Gen.on (b := T2.setTop (mkF m 11 #[.val (.ref a1)] [(.long ((w2 - w1) + (1 : Int64)))])) ?_ (fun t k => XS.ladd X2.here hx rfl (hb hby d6_10) rfl k)
  refine own_retJ X2 hx Bd.returns (hb hby d6_11) (by decide) (by decide) ?_
  exact ⟨rfl, N0, e2⟩

def own_x (q : Int64) : Int64 := (q &&& (9223372036854775807 : Int64)) - ((q &&& (9223372036854775807 : Int64)) / (9223372036854775807 : Int64)) * (9223372036854775807 : Int64)
def own_f (a b : Int64) : Int64 := f1 (own_x a) (own_x b)
def own_l (a b : Int64) : Int64 := f2 (own_x a) (own_x b)
theorem own_lit : ((9223372036854775807 : Int64)).toInt = 9223372036854775807 := by decide +kernel
theorem own_1 : (1 : Int64).toInt = 1 := by decide +kernel
theorem own_0 : (0 : Int64).toInt = 0 := by decide +kernel
theorem own_mask (x : Int64) : (x &&& (9223372036854775807 : Int64)).toInt = x.toInt % 2 ^ 63 := Jvm.Kit.i64_mask x 9223372036854775807 (k := 63) (by decide) (by decide)
theorem own_xb (q : Int64) : 0 ≤ (own_x q).toInt ∧ (own_x q).toInt < 9223372036854775807 := by
  have h : 0 ≤ (q &&& (9223372036854775807 : Int64)).toInt := by rw [own_mask]; omega
  unfold own_x
  rw [Jvm.Kit.i64_rem_nonneg h, own_lit]
  omega
theorem own_fl (a b : Int64) : 0 ≤ (own_f a b).toInt ∧ (own_f a b).toInt ≤ (own_l a b).toInt ∧ (own_l a b).toInt < 9223372036854775807 := by
  have ha := own_xb a
  have hb := own_xb b
  unfold own_f own_l f1 f2
  simp only [Int64.lt_iff_toInt_lt]
  repeat' split
  all_goals omega
theorem own_w (a b : Int64) : ((own_l a b - own_f a b) + (1 : Int64)).toInt = (own_l a b).toInt - (own_f a b).toInt + 1 := by
  have h := own_fl a b
  have e : (own_l a b - own_f a b).toInt = (own_l a b).toInt - (own_f a b).toInt := Jvm.Kit.i64_sub (by omega) (by omega)
  rw [Jvm.Kit.i64_add (by rw [e, own_1]; omega) (by rw [e, own_1]; omega), e, own_1]
theorem own_c72 (x : Int64) : ((x - x) + (1 : Int64)) = (1 : Int64) := by rw [Int64.sub_self, Int64.zero_add]
theorem own_c79 (a b : Int64) : ¬ ((own_l a b - own_f a b) + (1 : Int64)) < (1 : Int64) := by
  have h := own_fl a b
  rw [Int64.lt_iff_toInt_lt, own_w, own_1]; omega
theorem own_c89 (a b : Int64) : ¬ (own_l a b + (1 : Int64)) < ((own_l a b - own_f a b) + (1 : Int64)) := by
  have h := own_fl a b
  have e : (own_l a b + (1 : Int64)).toInt = (own_l a b).toInt + 1 := by rw [Jvm.Kit.i64_add (by rw [own_1]; omega) (by rw [own_1]; omega), own_1]
  rw [Int64.lt_iff_toInt_lt, own_w, e]; omega
theorem own_nz (a b : Int64) (h : own_f a b < own_l a b) : ¬ (own_l a b - own_f a b) = (0 : Int64) := by
  have g := own_fl a b
  have e : (own_l a b - own_f a b).toInt = (own_l a b).toInt - (own_f a b).toInt := Jvm.Kit.i64_sub (by omega) (by omega)
  rw [Int64.lt_iff_toInt_lt] at h
  rw [← Int64.toInt_inj, e, own_0]; omega
theorem own_c171 (m f l : Int64) : (((m - f) + (1 : Int64)) + ((l - (m + (1 : Int64))) + (1 : Int64))) = ((l - f) + (1 : Int64)) := by grind

theorem pn_0 : plainName "com/example/bandwarden/bandwarden/server/ByteRangeLengthPinLaw" = true := by first | (simp [plainName, overriddenIn]; done) | decide +kernel
theorem pd_0_0 : parseMethodDescriptor "(JJ)J" = some ⟨[.long, .long], some .long⟩ := by decide +kernel
theorem pd_0_1 : parseMethodDescriptor "(JJ)V" = some ⟨[.long, .long], none⟩ := by decide +kernel
theorem pd_0_2 : parseMethodDescriptor "()J" = some ⟨[], some .long⟩ := by decide +kernel
theorem ef_0 (m : MethodId) (x0 : Int64) (x1 : Int64) (x2 : Int64) : entryFrame m #[(.long x0), (.long x1), (.long x2)] maxLocals = mkF m 0 #[.val (.long x0), .second, .val (.long x1), .second, .val (.long x2), .second, .unset, .unset, .unset, .unset, .unset, .unset, .unset, .unset, .unset, .unset, .unset, .unset, .unset, .unset, .unset, .unset, .unset] [] := by first | (simp [entryFrame, mkF, argsToLocals, Value.category, maxLocals]; done) | rfl
def Q0 (n0 : Nat) (v : Option Value) (h : Heap) (L : List Loc) : Prop := v = some (.int 1) ∧ Fr n0 L
set_option maxRecDepth 65536 in
set_option maxHeartbeats 40000000 in
theorem rm0 (l : Launch) (Z : State) (a0 : Array Value) (hw : ∀ d ∈ tables_1, d.before a0 Z = true) (ws : List Jvm.Cond) (q1 : Int64) (q2 : Int64) (q3 : Int64) (h0 : Heap) (n0 : Nat) (Z0 : n0 ≤ h0.size)  :
    MetFree l x (head1 (Jvm.Cond.code x code maxLocals ret :: ws) room_1) (fun a U => a = #[(.long q1), (.long q2), (.long q3)] ∧ Z.Warmed39 U.vm ∧ U.heap = h0) (fun _ _ _ _ _ => True) (fun _ U o U' => ∃ v L, o = .returned v ∧ Q0 n0 v U'.heap L ∧ FrameEnd U o U' L room_1.cells room_1.slots) := by
  refine MetFree.of_bodySF (plainFor_of_name pn_0) hisR ?_
  intro p e s m args below meth c s₁ Bd hml0 hP hK
  obtain ⟨rfl, hZ, hh⟩ := hP
  have hx := Bd.exec
  have hby := Bd.bytes
  have hml : c.maxLocals = 23 := hml0
  have hown : s.vm.findClass "com/example/bandwarden/bandwarden/server/ByteRangeLengthPinLaw" = some m.cls := findClass_of_methodNamed Bd.named
  have hnm := (name_of_methodNamed Bd.named Bd.method).1
  have X0 : Stand p l e room_1 s m #[(.long q1), (.long q2), (.long q3)] below meth c s₁ [] 0 0 := Stand.of_body Bd
  have e0 : s₁.heap = h0 := by rw [← hh, Bd.state]; rfl
  have N0 := Fr.nil n0
  refine own_start (Q := Q0 n0) (C := room_1.cells) (S := room_1.slots) ?_
  rw [ef_0 m q1 q2 q3]
  refine Gen.on (b := s₁.setTop (mkF m 1 #[.val (.long q1), .second, .val (.long q2), .second, .val (.long q3), .second, .unset, .unset, .unset, .unset, .unset, .unset, .unset, .unset, .unset, .unset, .unset, .unset, .unset, .unset, .unset, .unset, .unset] [(.long q1)])) ?_ (fun t k => XS.lloadN X0.here hx rfl (hb hby at_0) rfl k)
  refine Gen.on (b := s₁.setTop (mkF m 4 #[.val (.long q1), .second, .val (.long q2), .second, .val (.long q3), .second, .unset, .unset, .unset, .unset, .unset, .unset, .unset, .unset, .unset, .unset, .unset, .unset, .unset, .unset, .unset, .unset, .unset] [(.long (9223372036854775807 : Int64)), (.long q1)])) ?_ (fun t k => X0.ldc2Long hx hown (mvT hZ (hw _ (List.mem_of_getElem? (i := 0) rfl))) (g := (mkF m 1 #[.val (.long q1), .second, .val (.long q2), .second, .val (.long q3), .second, .unset, .unset, .unset, .unset, .unset, .unset, .unset, .unset, .unset, .unset, .unset, .unset, .unset, .unset, .unset, .unset, .unset] [(.long q1)])) rfl (hb hby at_1) t k)
  refine Gen.on (b := s₁.setTop (mkF m 5 #[.val (.long q1), .second, .val (.long q2), .second, .val (.long q3), .second, .unset, .unset, .unset, .unset, .unset, .unset, .unset, .unset, .unset, .unset, .unset, .unset, .unset, .unset, .unset, .unset, .unset] [(.long (q1 &&& (9223372036854775807 : Int64)))])) ?_ (fun t k => XS.land X0.here hx rfl (hb hby at_4) rfl k)
  refine Gen.on (b := s₁.setTop (mkF m 8 #[.val (.long q1), .second, .val (.long q2), .second, .val (.long q3), .second, .unset, .unset, .unset, .unset, .unset, .unset, .unset, .unset, .unset, .unset, .unset, .unset, .unset, .unset, .unset, .unset, .unset] [(.long (9223372036854775807 : Int64)), (.long (q1 &&& (9223372036854775807 : Int64)))])) ?_ (fun t k => X0.ldc2Long hx hown (mvT hZ (hw _ (List.mem_of_getElem? (i := 0) rfl))) (g := (mkF m 5 #[.val (.long q1), .second, .val (.long q2), .second, .val (.long q3), .second, .unset, .unset, .unset, .unset, .unset, .unset, .unset, .unset, .unset, .unset, .unset, .unset, .unset, .unset, .unset, .unset, .unset] [(.long (q1 &&& (9223372036854775807 : Int64)))])) rfl (hb hby at_5) t k)
  refine Gen.on (b := s₁.setTop (mkF m 9 #[.val (.long q1), .second, .val (.long q2), .second, .val (.long q3), .second, .unset, .unset, .unset, .unset, .unset, .unset, .unset, .unset, .unset, .unset, .unset, .unset, .unset, .unset, .unset, .unset, .unset] [(.long ((q1 &&& (9223372036854775807 : Int64)) - ((q1 &&& (9223372036854775807 : Int64)) / (9223372036854775807 : Int64)) * (9223372036854775807 : Int64)))])) ?_ (fun t k => XS.lrem X0.here hx rfl (hb hby at_8) rfl (by decide) k)
  refine Gen.on (b := s₁.setTop (mkF m 11 #[.val (.long q1), .second, .val (.long q2), .second, .val (.long q3), .second, .val (.long ((q1 &&& (9223372036854775807 : Int64)) - ((q1 &&& (9223372036854775807 : Int64)) / (9223372036854775807 : Int64)) * (9223372036854775807 : Int64))), .second, .unset, .unset, .unset, .unset, .unset, .unset, .unset, .unset, .unset, .unset, .unset, .unset, .unset, .unset, .unset] [])) ?_ (fun t k => XS.lstore X0.here hx rfl (hb hby at_9) rfl (l' := #[.val (.long q1), .second, .val (.long q2), .second, .val (.long q3), .second, .val (.long ((q1 &&& (9223372036854775807 : Int64)) - ((q1 &&& (9223372036854775807 : Int64)) / (9223372036854775807 : Int64)) * (9223372036854775807 : Int64))), .second, .unset, .unset, .unset, .unset, .unset, .unset, .unset, .unset, .unset, .unset, .unset, .unset, .unset, .unset, .unset]) rfl k)
  refine Gen.on (b := s₁.setTop (mkF m 12 #[.val (.long q1), .second, .val (.long q2), .second, .val (.long q3), .second, .val (.long (own_x q1)), .second, .unset, .unset, .unset, .unset, .unset, .unset, .unset, .unset, .unset, .unset, .unset, .unset, .unset, .unset, .unset] [(.long q2)])) ?_ (fun t k => XS.lloadN X0.here hx rfl (hb hby at_11) rfl k)
  refine Gen.on (b := s₁.setTop (mkF m 15 #[.val (.long q1), .second, .val (.long q2), .second, .val (.long q3), .second, .val (.long (own_x q1)), .second, .unset, .unset, .unset, .unset, .unset, .unset, .unset, .unset, .unset, .unset, .unset, .unset, .unset, .unset, .unset] [(.long (9223372036854775807 : Int64)), (.long q2)])) ?_ (fun t k => X0.ldc2Long hx hown (mvT hZ (hw _ (List.mem_of_getElem? (i := 0) rfl))) (g := (mkF m 12 #[.val (.long q1), .second, .val (.long q2), .second, .val (.long q3), .second, .val (.long (own_x q1)), .second, .unset, .unset, .unset, .unset, .unset, .unset, .unset, .unset, .unset, .unset, .unset, .unset, .unset, .unset, .unset] [(.long q2)])) rfl (hb hby at_12) t k)
  refine Gen.on (b := s₁.setTop (mkF m 16 #[.val (.long q1), .second, .val (.long q2), .second, .val (.long q3), .second, .val (.long (own_x q1)), .second, .unset, .unset, .unset, .unset, .unset, .unset, .unset, .unset, .unset, .unset, .unset, .unset, .unset, .unset, .unset] [(.long (q2 &&& (9223372036854775807 : Int64)))])) ?_ (fun t k => XS.land X0.here hx rfl (hb hby at_15) rfl k)
  refine Gen.on (b := s₁.setTop (mkF m 19 #[.val (.long q1), .second, .val (.long q2), .second, .val (.long q3), .second, .val (.long (own_x q1)), .second, .unset, .unset, .unset, .unset, .unset, .unset, .unset, .unset, .unset, .unset, .unset, .unset, .unset, .unset, .unset] [(.long (9223372036854775807 : Int64)), (.long (q2 &&& (9223372036854775807 : Int64)))])) ?_ (fun t k => X0.ldc2Long hx hown (mvT hZ (hw _ (List.mem_of_getElem? (i := 0) rfl))) (g := (mkF m 16 #[.val (.long q1), .second, .val (.long q2), .second, .val (.long q3), .second, .val (.long (own_x q1)), .second, .unset, .unset, .unset, .unset, .unset, .unset, .unset, .unset, .unset, .unset, .unset, .unset, .unset, .unset, .unset] [(.long (q2 &&& (9223372036854775807 : Int64)))])) rfl (hb hby at_16) t k)
  refine Gen.on (b := s₁.setTop (mkF m 20 #[.val (.long q1), .second, .val (.long q2), .second, .val (.long q3), .second, .val (.long (own_x q1)), .second, .unset, .unset, .unset, .unset, .unset, .unset, .unset, .unset, .unset, .unset, .unset, .unset, .unset, .unset, .unset] [(.long ((q2 &&& (9223372036854775807 : Int64)) - ((q2 &&& (9223372036854775807 : Int64)) / (9223372036854775807 : Int64)) * (9223372036854775807 : Int64)))])) ?_ (fun t k => XS.lrem X0.here hx rfl (hb hby at_19) rfl (by decide) k)
  refine Gen.on (b := s₁.setTop (mkF m 22 #[.val (.long q1), .second, .val (.long q2), .second, .val (.long q3), .second, .val (.long (own_x q1)), .second, .val (.long ((q2 &&& (9223372036854775807 : Int64)) - ((q2 &&& (9223372036854775807 : Int64)) / (9223372036854775807 : Int64)) * (9223372036854775807 : Int64))), .second, .unset, .unset, .unset, .unset, .unset, .unset, .unset, .unset, .unset, .unset, .unset, .unset, .unset] [])) ?_ (fun t k => XS.lstore X0.here hx rfl (hb hby at_20) rfl (l' := #[.val (.long q1), .second, .val (.long q2), .second, .val (.long q3), .second, .val (.long (own_x q1)), .second, .val (.long ((q2 &&& (9223372036854775807 : Int64)) - ((q2 &&& (9223372036854775807 : Int64)) / (9223372036854775807 : Int64)) * (9223372036854775807 : Int64))), .second, .unset, .unset, .unset, .unset, .unset, .unset, .unset, .unset, .unset, .unset, .unset, .unset, .unset]) rfl k)
  refine Gen.on (b := s₁.setTop (mkF m 24 #[.val (.long q1), .second, .val (.long q2), .second, .val (.long q3), .second, .val (.long (own_x q1)), .second, .val (.long (own_x q2)), .second, .unset, .unset, .unset, .unset, .unset, .unset, .unset, .unset, .unset, .unset, .unset, .unset, .unset] [(.long (own_x q1))])) ?_ (fun t k => XS.lload X0.here hx rfl (hb hby at_22) rfl k)
  refine Gen.on (b := s₁.setTop (mkF m 26 #[.val (.long q1), .second, .val (.long q2), .second, .val (.long q3), .second, .val (.long (own_x q1)), .second, .val (.long (own_x q2)), .second, .unset, .unset, .unset, .unset, .unset, .unset, .unset, .unset, .unset, .unset, .unset, .unset, .unset] [(.long (own_x q2)), (.long (own_x q1))])) ?_ (fun t k => XS.lload X0.here hx rfl (hb hby at_24) rfl k)
  obtain ⟨_, _, ⟨T1, L1, k1, n1⟩, -, X1, ⟨Lc1, hQ1, l1, y1, z1⟩, st1⟩ := Jvm.LawKit.callS X0 hx (y := (⟨"java/lang/Math", "min", "(JJ)J"⟩ : MethodName)) hown (mvT hZ (hw _ (List.mem_of_getElem? (i := 1) rfl))) (mvT hZ (hw _ (List.mem_of_getElem? (i := 2) rfl))) (mvT hZ (hw _ (List.mem_of_getElem? (i := 3) rfl))) (mvT hZ (hw _ (List.mem_of_getElem? (i := 4) rfl))) (by decide) (backOf (W := 0) (rm1 l Z a0 hw [] (own_x q1) (own_x q2)  h0 n0 Z0 ) hZ (hw _ (List.mem_of_getElem? (i := 4) rfl)) (hw _ (List.mem_of_getElem? (i := 3) rfl)) (by decide) (by decide)) (g := (mkF m 26 #[.val (.long q1), .second, .val (.long q2), .second, .val (.long q3), .second, .val (.long (own_x q1)), .second, .val (.long (own_x q2)), .second, .unset, .unset, .unset, .unset, .unset, .unset, .unset, .unset, .unset, .unset, .unset, .unset, .unset] [(.long (own_x q2)), (.long (own_x q1))])) rfl (by rw [hml]; rfl) (argsL := [(.long (own_x q1)), (.long (own_x q2))]) (rest := []) (lenOf pd_0_0 rfl) rfl (by show 2 * 0 + _ ≤ _; exact Nat.le_of_eq rfl) (hb hby at_26) (fun _ _ => ⟨rfl, e0, (by decide : 0 + 0 ≤ _), (by decide : 0 + 0 ≤ _)⟩)
  dsimp only [Pt.U, Pt.locs, Pt.cells, Pt.slots] at X1 l1 y1 z1 st1 hQ1
  subst l1 y1 z1
  obtain ⟨rfl, N1q, e1⟩ := hQ1
  have N1 := Fr.app N0 N1q
  refine Gen.on (b := T1.setTop (mkF m 29 #[.val (.long q1), .second, .val (.long q2), .second, .val (.long q3), .second, .val (.long (own_x q1)), .second, .val (.long (own_x q2)), .second, .unset, .unset, .unset, .unset, .unset, .unset, .unset, .unset, .unset, .unset, .unset, .unset, .unset] [(.long (f1 (own_x q1) (own_x q2)))])) ?_ (fun t k => st1 t k)
  refine Gen.on (b := T1.setTop (mkF m 31 #[.val (.long q1), .second, .val (.long q2), .second, .val (.long q3), .second, .val (.long (own_x q1)), .second, .val (.long (own_x q2)), .second, .val (.long (f1 (own_x q1) (own_x q2))), .second, .unset, .unset, .unset, .unset, .unset, .unset, .unset, .unset, .unset, .unset, .unset] [])) ?_ (fun t k => XS.lstore X1.here hx rfl (hb hby at_29) rfl (l' := #[.val (.long q1), .second, .val (.long q2), .second, .val (.long q3), .second, .val (.long (own_x q1)), .second, .val (.long (own_x q2)), .second, .val (.long (f1 (own_x q1) (own_x q2))), .second, .unset, .unset, .unset, .unset, .unset, .unset, .unset, .unset, .unset, .unset, .unset]) rfl k)
  refine Gen.on (b := T1.setTop (mkF m 33 #[.val (.long q1), .second, .val (.long q2), .second, .val (.long q3), .second, .val (.long (own_x q1)), .second, .val (.long (own_x q2)), .second, .val (.long (own_f q1 q2)), .second, .unset, .unset, .unset, .unset, .unset, .unset, .unset, .unset, .unset, .unset, .unset] [(.long (own_x q1))])) ?_ (fun t k => XS.lload X1.here hx rfl (hb hby at_31) rfl k)
  refine Gen.on (b := T1.setTop (mkF m 35 #[.val (.long q1), .second, .val (.long q2), .second, .val (.long q3), .second, .val (.long (own_x q1)), .second, .val (.long (own_x q2)), .second, .val (.long (own_f q1 q2)), .second, .unset, .unset, .unset, .unset, .unset, .unset, .unset, .unset, .unset, .unset, .unset] [(.long (own_x q2)), (.long (own_x q1))])) ?_ (fun t k => XS.lload X1.here hx rfl (hb hby at_33) rfl k)
  obtain ⟨_, _, ⟨T2, L2, k2, n2⟩, -, X2, ⟨Lc2, hQ2, l2, y2, z2⟩, st2⟩ := Jvm.LawKit.callS X1 hx (y := (⟨"java/lang/Math", "max", "(JJ)J"⟩ : MethodName)) hown (mvT hZ (hw _ (List.mem_of_getElem? (i := 5) rfl))) (mvT hZ (hw _ (List.mem_of_getElem? (i := 6) rfl))) (mvT hZ (hw _ (List.mem_of_getElem? (i := 3) rfl))) (mvT hZ (hw _ (List.mem_of_getElem? (i := 7) rfl))) (by decide) (backOf (W := 0) (rm2 l Z a0 hw [] (own_x q1) (own_x q2)  h0 n0 Z0 ) hZ (hw _ (List.mem_of_getElem? (i := 7) rfl)) (hw _ (List.mem_of_getElem? (i := 3) rfl)) (by decide) (by decide)) (g := (mkF m 35 #[.val (.long q1), .second, .val (.long q2), .second, .val (.long q3), .second, .val (.long (own_x q1)), .second, .val (.long (own_x q2)), .second, .val (.long (own_f q1 q2)), .second, .unset, .unset, .unset, .unset, .unset, .unset, .unset, .unset, .unset, .unset, .unset] [(.long (own_x q2)), (.long (own_x q1))])) rfl (by rw [hml]; rfl) (argsL := [(.long (own_x q1)), (.long (own_x q2))]) (rest := []) (lenOf pd_0_0 rfl) rfl (by show 2 * 0 + _ ≤ _; exact Nat.le_of_eq rfl) (hb hby at_35) (fun _ _ => ⟨rfl, e1, (by decide : 0 + 0 ≤ _), (by decide : 0 + 0 ≤ _)⟩)
  dsimp only [Pt.U, Pt.locs, Pt.cells, Pt.slots] at X2 l2 y2 z2 st2 hQ2
  subst l2 y2 z2
  obtain ⟨rfl, N2q, e2⟩ := hQ2
  have N2 := Fr.app N1 N2q
  refine Gen.on (b := T2.setTop (mkF m 38 #[.val (.long q1), .second, .val (.long q2), .second, .val (.long q3), .second, .val (.long (own_x q1)), .second, .val (.long (own_x q2)), .second, .val (.long (own_f q1 q2)), .second, .unset, .unset, .unset, .unset, .unset, .unset, .unset, .unset, .unset, .unset, .unset] [(.long (f2 (own_x q1) (own_x q2)))])) ?_ (fun t k => st2 t k)
  refine Gen.on (b := T2.setTop (mkF m 40 #[.val (.long q1), .second, .val (.long q2), .second, .val (.long q3), .second, .val (.long (own_x q1)), .second, .val (.long (own_x q2)), .second, .val (.long (own_f q1 q2)), .second, .val (.long (f2 (own_x q1) (own_x q2))), .second, .unset, .unset, .unset, .unset, .unset, .unset, .unset, .unset, .unset] [])) ?_ (fun t k => XS.lstore X2.here hx rfl (hb hby at_38) rfl (l' := #[.val (.long q1), .second, .val (.long q2), .second, .val (.long q3), .second, .val (.long (own_x q1)), .second, .val (.long (own_x q2)), .second, .val (.long (own_f q1 q2)), .second, .val (.long (f2 (own_x q1) (own_x q2))), .second, .unset, .unset, .unset, .unset, .unset, .unset, .unset, .unset, .unset]) rfl k)
  obtain ⟨b3, g3⟩ : ∃ z, z = h0.size := ⟨_, rfl⟩
  have g_b3 : n0 ≤ b3 := Nat.le_trans Z0 (Nat.le_of_eq g3.symm)
  obtain ⟨T3, h3, X3, e3, E3, A3, D3, -, st3⟩ := newO X2 hx hZ hown (hw _ (List.mem_of_getElem? (i := 8) rfl)) (hw _ (List.mem_of_getElem? (i := 9) rfl)) (hw _ (List.mem_of_getElem? (i := 10) rfl)) e2 (g := (mkF m 40 #[.val (.long q1), .second, .val (.long q2), .second, .val (.long q3), .second, .val (.long (own_x q1)), .second, .val (.long (own_x q2)), .second, .val (.long (own_f q1 q2)), .second, .val (.long (own_l q1 q2)), .second, .unset, .unset, .unset, .unset, .unset, .unset, .unset, .unset, .unset] [])) rfl (hb hby at_40) (by decide) (by decide)
  rw [← g3] at A3 D3 st3
  have Z3 : n0 ≤ h3.size := Nat.le_trans Z0 E3.1
  have F3_first : Fld Z h3 b3 "com/example/bandwarden/bandwarden/server/ByteRange" "first" "J" (.long (0 : Int64)) := D3 (Or.inr (hw _ (List.mem_of_getElem? (i := 23) rfl))) (ty := .long) (by decide)
  have F3_last : Fld Z h3 b3 "com/example/bandwarden/bandwarden/server/ByteRange" "last" "J" (.long (0 : Int64)) := D3 (Or.inr (hw _ (List.mem_of_getElem? (i := 25) rfl))) (ty := .long) (by decide)
  refine Gen.on (b := T3.setTop (mkF m 43 #[.val (.long q1), .second, .val (.long q2), .second, .val (.long q3), .second, .val (.long (own_x q1)), .second, .val (.long (own_x q2)), .second, .val (.long (own_f q1 q2)), .second, .val (.long (own_l q1 q2)), .second, .unset, .unset, .unset, .unset, .unset, .unset, .unset, .unset, .unset] [(.ref b3)])) ?_ (fun t k => st3 t k)
  refine Gen.on (b := T3.setTop (mkF m 44 #[.val (.long q1), .second, .val (.long q2), .second, .val (.long q3), .second, .val (.long (own_x q1)), .second, .val (.long (own_x q2)), .second, .val (.long (own_f q1 q2)), .second, .val (.long (own_l q1 q2)), .second, .unset, .unset, .unset, .unset, .unset, .unset, .unset, .unset, .unset] [(.ref b3), (.ref b3)])) ?_ (fun t k => XS.dup X3.here hx rfl (hb hby at_43) rfl rfl k)
  refine Gen.on (b := T3.setTop (mkF m 46 #[.val (.long q1), .second, .val (.long q2), .second, .val (.long q3), .second, .val (.long (own_x q1)), .second, .val (.long (own_x q2)), .second, .val (.long (own_f q1 q2)), .second, .val (.long (own_l q1 q2)), .second, .unset, .unset, .unset, .unset, .unset, .unset, .unset, .unset, .unset] [(.long (own_f q1 q2)), (.ref b3), (.ref b3)])) ?_ (fun t k => XS.lload X3.here hx rfl (hb hby at_44) rfl k)
  refine Gen.on (b := T3.setTop (mkF m 48 #[.val (.long q1), .second, .val (.long q2), .second, .val (.long q3), .second, .val (.long (own_x q1)), .second, .val (.long (own_x q2)), .second, .val (.long (own_f q1 q2)), .second, .val (.long (own_l q1 q2)), .second, .unset, .unset, .unset, .unset, .unset, .unset, .unset, .unset, .unset] [(.long (own_l q1 q2)), (.long (own_f q1 q2)), (.ref b3), (.ref b3)])) ?_ (fun t k => XS.lload X3.here hx rfl (hb hby at_46) rfl k)
  obtain ⟨_, _, ⟨T4, L4, k4, n4⟩, -, X4, ⟨Lc4, hQ4, l4, y4, z4⟩, st4⟩ := X3.specialBack hx (y := (⟨"com/example/bandwarden/bandwarden/server/ByteRange", "<init>", "(JJ)V"⟩ : MethodName)) rfl hown (mvT hZ (hw _ (List.mem_of_getElem? (i := 11) rfl))) (mvT hZ (hw _ (List.mem_of_getElem? (i := 12) rfl))) (mvT hZ (hw _ (List.mem_of_getElem? (i := 13) rfl))) (by decide) (backOf (W := 1) (rm3 l Z a0 hw [] b3 (own_f q1 q2) (own_l q1 q2) (.long (0 : Int64)) (.long (0 : Int64)) h3 n0 Z3 A3 F3_first F3_last g_b3) hZ (hw _ (List.mem_of_getElem? (i := 13) rfl)) (hw _ (List.mem_of_getElem? (i := 10) rfl)) (by decide) (by decide)) (g := (mkF m 48 #[.val (.long q1), .second, .val (.long q2), .second, .val (.long q3), .second, .val (.long (own_x q1)), .second, .val (.long (own_x q2)), .second, .val (.long (own_f q1 q2)), .second, .val (.long (own_l q1 q2)), .second, .unset, .unset, .unset, .unset, .unset, .unset, .unset, .unset, .unset] [(.long (own_l q1 q2)), (.long (own_f q1 q2)), (.ref b3), (.ref b3)])) rfl (by rw [hml]; rfl) (Steps.refl _) (a := b3) (argsL := [(.long (own_f q1 q2)), (.long (own_l q1 q2))]) (rest := [(.ref b3)]) (lenOf pd_0_1 rfl) rfl (by show 2 * 0 + _ ≤ _; exact Nat.le_of_eq rfl) (hb hby at_48) (fun _ _ => ⟨rfl, e3, (by decide : 1 + 0 ≤ _), (by decide : 2 + 0 ≤ _)⟩)
  dsimp only [Pt.U, Pt.locs, Pt.cells, Pt.slots] at X4 l4 y4 z4 st4 hQ4
  subst l4 y4 z4
  obtain ⟨rfl, N4q, Kc4, hf4_0, hf4_1, hf4_2⟩ := hQ4
  have N4 := Fr.app N2 N4q
  have Z4 : n0 ≤ T4.heap.size := Nat.le_trans Z3 Kc4.1
  refine Gen.on (b := T4.setTop (mkF m 51 #[.val (.long q1), .second, .val (.long q2), .second, .val (.long q3), .second, .val (.long (own_x q1)), .second, .val (.long (own_x q2)), .second, .val (.long (own_f q1 q2)), .second, .val (.long (own_l q1 q2)), .second, .unset, .unset, .unset, .unset, .unset, .unset, .unset, .unset, .unset] [(.ref b3)])) ?_ (fun t k => st4.trans k)
  obtain ⟨cq5, kq5, q5a, q5b, q5c⟩ := isOf hZ rfl hf4_0
  obtain ⟨_, _, ⟨T5, L5, k5, n5⟩, -, X5, ⟨Lc5, hQ5, l5, y5, z5⟩, st5⟩ := X4.virtualBack hx (y := (⟨"com/example/bandwarden/bandwarden/server/ByteRange", "length", "()J"⟩ : MethodName)) (z := (⟨"com/example/bandwarden/bandwarden/server/ByteRange", "length", "()J"⟩ : MethodName)) hown (mvT hZ (hw _ (List.mem_of_getElem? (i := 26) rfl))) (mvT hZ (hw _ (List.mem_of_getElem? (i := 27) rfl))) (notFace_of_selects (args := #[]) (mvT hZ (hw _ (List.mem_of_getElem? (i := 29) rfl)))) (mvT hZ (hw _ (List.mem_of_getElem? (i := 29) rfl))) (mvT hZ (hw _ (List.mem_of_getElem? (i := 28) rfl))) (by decide) (backOf (W := 0) (rm6 l Z a0 hw [] b3 (own_f q1 q2) (own_l q1 q2) T4.heap n0 Z4 hf4_1 hf4_2) hZ (hw _ (List.mem_of_getElem? (i := 30) rfl)) (hw _ (List.mem_of_getElem? (i := 10) rfl)) (by decide) (by decide)) q5a q5c (g := (mkF m 51 #[.val (.long q1), .second, .val (.long q2), .second, .val (.long q3), .second, .val (.long (own_x q1)), .second, .val (.long (own_x q2)), .second, .val (.long (own_f q1 q2)), .second, .val (.long (own_l q1 q2)), .second, .unset, .unset, .unset, .unset, .unset, .unset, .unset, .unset, .unset] [(.ref b3)])) rfl (by rw [hml]; rfl) (Steps.refl _) (argsL := []) (rest := []) (lenOf pd_0_2 rfl) rfl (by show 2 * 0 + _ ≤ _; exact Nat.le_of_eq rfl) (hb hby at_51) (fun _ _ => ⟨rfl, rfl, (by decide : 1 + 0 ≤ _), (by decide : 2 + 0 ≤ _)⟩)
  dsimp only [Pt.U, Pt.locs, Pt.cells, Pt.slots] at X5 l5 y5 z5 st5 hQ5
  subst l5 y5 z5
  obtain ⟨rfl, N5q, e5⟩ := hQ5
  have N5 := Fr.app N4 N5q
  refine Gen.on (b := T5.setTop (mkF m 54 #[.val (.long q1), .second, .val (.long q2), .second, .val (.long q3), .second, .val (.long (own_x q1)), .second, .val (.long (own_x q2)), .second, .val (.long (own_f q1 q2)), .second, .val (.long (own_l q1 q2)), .second, .unset, .unset, .unset, .unset, .unset, .unset, .unset, .unset, .unset] [(.long (((own_l q1 q2) - (own_f q1 q2)) + (1 : Int64)))])) ?_ (fun t k => st5.trans k)
  refine Gen.on (b := T5.setTop (mkF m 56 #[.val (.long q1), .second, .val (.long q2), .second, .val (.long q3), .second, .val (.long (own_x q1)), .second, .val (.long (own_x q2)), .second, .val (.long (own_f q1 q2)), .second, .val (.long (own_l q1 q2)), .second, .val (.long (((own_l q1 q2) - (own_f q1 q2)) + (1 : Int64))), .second, .unset, .unset, .unset, .unset, .unset, .unset, .unset] [])) ?_ (fun t k => XS.lstore X5.here hx rfl (hb hby at_54) rfl (l' := #[.val (.long q1), .second, .val (.long q2), .second, .val (.long q3), .second, .val (.long (own_x q1)), .second, .val (.long (own_x q2)), .second, .val (.long (own_f q1 q2)), .second, .val (.long (own_l q1 q2)), .second, .val (.long (((own_l q1 q2) - (own_f q1 q2)) + (1 : Int64))), .second, .unset, .unset, .unset, .unset, .unset, .unset, .unset]) rfl k)
  obtain ⟨b6, g6⟩ : ∃ z, z = T4.heap.size := ⟨_, rfl⟩
  have ne_b3_b6 : b3 ≠ b6 := Nat.ne_of_lt (Nat.lt_of_lt_of_le hf4_0.lt (Nat.le_of_eq g6.symm))
  have g_b6 : n0 ≤ b6 := Nat.le_trans Z4 (Nat.le_of_eq g6.symm)
  obtain ⟨T6, h6, X6, e6, E6, A6, D6, -, st6⟩ := newO X5 hx hZ hown (hw _ (List.mem_of_getElem? (i := 8) rfl)) (hw _ (List.mem_of_getElem? (i := 9) rfl)) (hw _ (List.mem_of_getElem? (i := 10) rfl)) e5 (g := (mkF m 56 #[.val (.long q1), .second, .val (.long q2), .second, .val (.long q3), .second, .val (.long (own_x q1)), .second, .val (.long (own_x q2)), .second, .val (.long (own_f q1 q2)), .second, .val (.long (own_l q1 q2)), .second, .val (.long (((own_l q1 q2) - (own_f q1 q2)) + (1 : Int64))), .second, .unset, .unset, .unset, .unset, .unset, .unset, .unset] [])) rfl (hb hby at_56) (by decide) (by decide)
  rw [← g6] at A6 D6 st6
  have Z6 : n0 ≤ h6.size := Nat.le_trans Z4 E6.1
  have F6_first : Fld Z h6 b6 "com/example/bandwarden/bandwarden/server/ByteRange" "first" "J" (.long (0 : Int64)) := D6 (Or.inr (hw _ (List.mem_of_getElem? (i := 23) rfl))) (ty := .long) (by decide)
  have F6_last : Fld Z h6 b6 "com/example/bandwarden/bandwarden/server/ByteRange" "last" "J" (.long (0 : Int64)) := D6 (Or.inr (hw _ (List.mem_of_getElem? (i := 25) rfl))) (ty := .long) (by decide)
  refine Gen.on (b := T6.setTop (mkF m 59 #[.val (.long q1), .second, .val (.long q2), .second, .val (.long q3), .second, .val (.long (own_x q1)), .second, .val (.long (own_x q2)), .second, .val (.long (own_f q1 q2)), .second, .val (.long (own_l q1 q2)), .second, .val (.long (((own_l q1 q2) - (own_f q1 q2)) + (1 : Int64))), .second, .unset, .unset, .unset, .unset, .unset, .unset, .unset] [(.ref b6)])) ?_ (fun t k => st6 t k)
  refine Gen.on (b := T6.setTop (mkF m 60 #[.val (.long q1), .second, .val (.long q2), .second, .val (.long q3), .second, .val (.long (own_x q1)), .second, .val (.long (own_x q2)), .second, .val (.long (own_f q1 q2)), .second, .val (.long (own_l q1 q2)), .second, .val (.long (((own_l q1 q2) - (own_f q1 q2)) + (1 : Int64))), .second, .unset, .unset, .unset, .unset, .unset, .unset, .unset] [(.ref b6), (.ref b6)])) ?_ (fun t k => XS.dup X6.here hx rfl (hb hby at_59) rfl rfl k)
  refine Gen.on (b := T6.setTop (mkF m 62 #[.val (.long q1), .second, .val (.long q2), .second, .val (.long q3), .second, .val (.long (own_x q1)), .second, .val (.long (own_x q2)), .second, .val (.long (own_f q1 q2)), .second, .val (.long (own_l q1 q2)), .second, .val (.long (((own_l q1 q2) - (own_f q1 q2)) + (1 : Int64))), .second, .unset, .unset, .unset, .unset, .unset, .unset, .unset] [(.long (own_f q1 q2)), (.ref b6), (.ref b6)])) ?_ (fun t k => XS.lload X6.here hx rfl (hb hby at_60) rfl k)
  refine Gen.on (b := T6.setTop (mkF m 64 #[.val (.long q1), .second, .val (.long q2), .second, .val (.long q3), .second, .val (.long (own_x q1)), .second, .val (.long (own_x q2)), .second, .val (.long (own_f q1 q2)), .second, .val (.long (own_l q1 q2)), .second, .val (.long (((own_l q1 q2) - (own_f q1 q2)) + (1 : Int64))), .second, .unset, .unset, .unset, .unset, .unset, .unset, .unset] [(.long (own_f q1 q2)), (.long (own_f q1 q2)), (.ref b6), (.ref b6)])) ?_ (fun t k => XS.lload X6.here hx rfl (hb hby at_62) rfl k)
  obtain ⟨_, _, ⟨T7, L7, k7, n7⟩, -, X7, ⟨Lc7, hQ7, l7, y7, z7⟩, st7⟩ := X6.specialBack hx (y := (⟨"com/example/bandwarden/bandwarden/server/ByteRange", "<init>", "(JJ)V"⟩ : MethodName)) rfl hown (mvT hZ (hw _ (List.mem_of_getElem? (i := 11) rfl))) (mvT hZ (hw _ (List.mem_of_getElem? (i := 12) rfl))) (mvT hZ (hw _ (List.mem_of_getElem? (i := 13) rfl))) (by decide) (backOf (W := 1) (rm3 l Z a0 hw [] b6 (own_f q1 q2) (own_f q1 q2) (.long (0 : Int64)) (.long (0 : Int64)) h6 n0 Z6 A6 F6_first F6_last g_b6) hZ (hw _ (List.mem_of_getElem? (i := 13) rfl)) (hw _ (List.mem_of_getElem? (i := 10) rfl)) (by decide) (by decide)) (g := (mkF m 64 #[.val (.long q1), .second, .val (.long q2), .second, .val (.long q3), .second, .val (.long (own_x q1)), .second, .val (.long (own_x q2)), .second, .val (.long (own_f q1 q2)), .second, .val (.long (own_l q1 q2)), .second, .val (.long (((own_l q1 q2) - (own_f q1 q2)) + (1 : Int64))), .second, .unset, .unset, .unset, .unset, .unset, .unset, .unset] [(.long (own_f q1 q2)), (.long (own_f q1 q2)), (.ref b6), (.ref b6)])) rfl (by rw [hml]; rfl) (Steps.refl _) (a := b6) (argsL := [(.long (own_f q1 q2)), (.long (own_f q1 q2))]) (rest := [(.ref b6)]) (lenOf pd_0_1 rfl) rfl (by show 2 * 0 + _ ≤ _; exact Nat.le_of_eq rfl) (hb hby at_64) (fun _ _ => ⟨rfl, e6, (by decide : 2 + 0 ≤ _), (by decide : 4 + 0 ≤ _)⟩)
  dsimp only [Pt.U, Pt.locs, Pt.cells, Pt.slots] at X7 l7 y7 z7 st7 hQ7
  subst l7 y7 z7
  obtain ⟨rfl, N7q, Kc7, hf7_0, hf7_1, hf7_2⟩ := hQ7
  have N7 := Fr.app N5 N7q
  have Z7 : n0 ≤ T7.heap.size := Nat.le_trans Z6 Kc7.1
  refine Gen.on (b := T7.setTop (mkF m 67 #[.val (.long q1), .second, .val (.long q2), .second, .val (.long q3), .second, .val (.long (own_x q1)), .second, .val (.long (own_x q2)), .second, .val (.long (own_f q1 q2)), .second, .val (.long (own_l q1 q2)), .second, .val (.long (((own_l q1 q2) - (own_f q1 q2)) + (1 : Int64))), .second, .unset, .unset, .unset, .unset, .unset, .unset, .unset] [(.ref b6)])) ?_ (fun t k => st7.trans k)
  obtain ⟨cq8, kq8, q8a, q8b, q8c⟩ := isOf hZ rfl hf7_0
  obtain ⟨_, _, ⟨T8, L8, k8, n8⟩, -, X8, ⟨Lc8, hQ8, l8, y8, z8⟩, st8⟩ := X7.virtualBack hx (y := (⟨"com/example/bandwarden/bandwarden/server/ByteRange", "length", "()J"⟩ : MethodName)) (z := (⟨"com/example/bandwarden/bandwarden/server/ByteRange", "length", "()J"⟩ : MethodName)) hown (mvT hZ (hw _ (List.mem_of_getElem? (i := 26) rfl))) (mvT hZ (hw _ (List.mem_of_getElem? (i := 27) rfl))) (notFace_of_selects (args := #[]) (mvT hZ (hw _ (List.mem_of_getElem? (i := 29) rfl)))) (mvT hZ (hw _ (List.mem_of_getElem? (i := 29) rfl))) (mvT hZ (hw _ (List.mem_of_getElem? (i := 28) rfl))) (by decide) (backOf (W := 0) (rm6 l Z a0 hw [] b6 (own_f q1 q2) (own_f q1 q2) T7.heap n0 Z7 hf7_1 hf7_2) hZ (hw _ (List.mem_of_getElem? (i := 30) rfl)) (hw _ (List.mem_of_getElem? (i := 10) rfl)) (by decide) (by decide)) q8a q8c (g := (mkF m 67 #[.val (.long q1), .second, .val (.long q2), .second, .val (.long q3), .second, .val (.long (own_x q1)), .second, .val (.long (own_x q2)), .second, .val (.long (own_f q1 q2)), .second, .val (.long (own_l q1 q2)), .second, .val (.long (((own_l q1 q2) - (own_f q1 q2)) + (1 : Int64))), .second, .unset, .unset, .unset, .unset, .unset, .unset, .unset] [(.ref b6)])) rfl (by rw [hml]; rfl) (Steps.refl _) (argsL := []) (rest := []) (lenOf pd_0_2 rfl) rfl (by show 2 * 0 + _ ≤ _; exact Nat.le_of_eq rfl) (hb hby at_67) (fun _ _ => ⟨rfl, rfl, (by decide : 2 + 0 ≤ _), (by decide : 4 + 0 ≤ _)⟩)
  dsimp only [Pt.U, Pt.locs, Pt.cells, Pt.slots] at X8 l8 y8 z8 st8 hQ8
  subst l8 y8 z8
  obtain ⟨rfl, N8q, e8⟩ := hQ8
  have N8 := Fr.app N7 N8q
  refine Gen.on (b := T8.setTop (mkF m 70 #[.val (.long q1), .second, .val (.long q2), .second, .val (.long q3), .second, .val (.long (own_x q1)), .second, .val (.long (own_x q2)), .second, .val (.long (own_f q1 q2)), .second, .val (.long (own_l q1 q2)), .second, .val (.long (((own_l q1 q2) - (own_f q1 q2)) + (1 : Int64))), .second, .unset, .unset, .unset, .unset, .unset, .unset, .unset] [(.long (((own_f q1 q2) - (own_f q1 q2)) + (1 : Int64)))])) ?_ (fun t k => st8.trans k)
  refine Gen.on (b := T8.setTop (mkF m 71 #[.val (.long q1), .second, .val (.long q2), .second, .val (.long q3), .second, .val (.long (own_x q1)), .second, .val (.long (own_x q2)), .second, .val (.long (own_f q1 q2)), .second, .val (.long (own_l q1 q2)), .second, .val (.long (((own_l q1 q2) - (own_f q1 q2)) + (1 : Int64))), .second, .unset, .unset, .unset, .unset, .unset, .unset, .unset] [(.long (1 : Int64)), (.long (((own_f q1 q2) - (own_f q1 q2)) + (1 : Int64)))])) ?_ (fun t k => XS.lconst X8.here hx rfl (hb hby at_70) k)
  refine Gen.on (b := T8.setTop (mkF m 72 #[.val (.long q1), .second, .val (.long q2), .second, .val (.long q3), .second, .val (.long (own_x q1)), .second, .val (.long (own_x q2)), .second, .val (.long (own_f q1 q2)), .second, .val (.long (own_l q1 q2)), .second, .val (.long (((own_l q1 q2) - (own_f q1 q2)) + (1 : Int64))), .second, .unset, .unset, .unset, .unset, .unset, .unset, .unset] [(.int (lcmpW (((own_f q1 q2) - (own_f q1 q2)) + (1 : Int64)) (1 : Int64)))])) ?_ (fun t k => XS.lcmp X8.here hx rfl (hb hby at_71) rfl k)
  refine Gen.on (b := T8.setTop (mkF m 75 #[.val (.long q1), .second, .val (.long q2), .second, .val (.long q3), .second, .val (.long (own_x q1)), .second, .val (.long (own_x q2)), .second, .val (.long (own_f q1 q2)), .second, .val (.long (own_l q1 q2)), .second, .val (.long (((own_l q1 q2) - (own_f q1 q2)) + (1 : Int64))), .second, .unset, .unset, .unset, .unset, .unset, .unset, .unset] [])) ?_ (fun t k => XS.ifNo X8.here hx rfl (hb hby at_72) rfl (own_eq1 (own_c72 (own_f q1 q2))).2 k)
  refine Gen.on (b := T8.setTop (mkF m 77 #[.val (.long q1), .second, .val (.long q2), .second, .val (.long q3), .second, .val (.long (own_x q1)), .second, .val (.long (own_x q2)), .second, .val (.long (own_f q1 q2)), .second, .val (.long (own_l q1 q2)), .second, .val (.long (((own_l q1 q2) - (own_f q1 q2)) + (1 : Int64))), .second, .unset, .unset, .unset, .unset, .unset, .unset, .unset] [(.long (((own_l q1 q2) - (own_f q1 q2)) + (1 : Int64)))])) ?_ (fun t k => XS.lload X8.here hx rfl (hb hby at_75) rfl k)
  refine Gen.on (b := T8.setTop (mkF m 78 #[.val (.long q1), .second, .val (.long q2), .second, .val (.long q3), .second, .val (.long (own_x q1)), .second, .val (.long (own_x q2)), .second, .val (.long (own_f q1 q2)), .second, .val (.long (own_l q1 q2)), .second, .val (.long (((own_l q1 q2) - (own_f q1 q2)) + (1 : Int64))), .second, .unset, .unset, .unset, .unset, .unset, .unset, .unset] [(.long (1 : Int64)), (.long (((own_l q1 q2) - (own_f q1 q2)) + (1 : Int64)))])) ?_ (fun t k => XS.lconst X8.here hx rfl (hb hby at_77) k)
  refine Gen.on (b := T8.setTop (mkF m 79 #[.val (.long q1), .second, .val (.long q2), .second, .val (.long q3), .second, .val (.long (own_x q1)), .second, .val (.long (own_x q2)), .second, .val (.long (own_f q1 q2)), .second, .val (.long (own_l q1 q2)), .second, .val (.long (((own_l q1 q2) - (own_f q1 q2)) + (1 : Int64))), .second, .unset, .unset, .unset, .unset, .unset, .unset, .unset] [(.int (lcmpW (((own_l q1 q2) - (own_f q1 q2)) + (1 : Int64)) (1 : Int64)))])) ?_ (fun t k => XS.lcmp X8.here hx rfl (hb hby at_78) rfl k)
  refine Gen.on (b := T8.setTop (mkF m 82 #[.val (.long q1), .second, .val (.long q2), .second, .val (.long q3), .second, .val (.long (own_x q1)), .second, .val (.long (own_x q2)), .second, .val (.long (own_f q1 q2)), .second, .val (.long (own_l q1 q2)), .second, .val (.long (((own_l q1 q2) - (own_f q1 q2)) + (1 : Int64))), .second, .unset, .unset, .unset, .unset, .unset, .unset, .unset] [])) ?_ (fun t k => XS.ifNo X8.here hx rfl (hb hby at_79) rfl (own_lt0 (own_c79 q1 q2)).1 k)
  refine Gen.on (b := T8.setTop (mkF m 84 #[.val (.long q1), .second, .val (.long q2), .second, .val (.long q3), .second, .val (.long (own_x q1)), .second, .val (.long (own_x q2)), .second, .val (.long (own_f q1 q2)), .second, .val (.long (own_l q1 q2)), .second, .val (.long (((own_l q1 q2) - (own_f q1 q2)) + (1 : Int64))), .second, .unset, .unset, .unset, .unset, .unset, .unset, .unset] [(.long (((own_l q1 q2) - (own_f q1 q2)) + (1 : Int64)))])) ?_ (fun t k => XS.lload X8.here hx rfl (hb hby at_82) rfl k)
  refine Gen.on (b := T8.setTop (mkF m 86 #[.val (.long q1), .second, .val (.long q2), .second, .val (.long q3), .second, .val (.long (own_x q1)), .second, .val (.long (own_x q2)), .second, .val (.long (own_f q1 q2)), .second, .val (.long (own_l q1 q2)), .second, .val (.long (((own_l q1 q2) - (own_f q1 q2)) + (1 : Int64))), .second, .unset, .unset, .unset, .unset, .unset, .unset, .unset] [(.long (own_l q1 q2)), (.long (((own_l q1 q2) - (own_f q1 q2)) + (1 : Int64)))])) ?_ (fun t k => XS.lload X8.here hx rfl (hb hby at_84) rfl k)
  refine Gen.on (b := T8.setTop (mkF m 87 #[.val (.long q1), .second, .val (.long q2), .second, .val (.long q3), .second, .val (.long (own_x q1)), .second, .val (.long (own_x q2)), .second, .val (.long (own_f q1 q2)), .second, .val (.long (own_l q1 q2)), .second, .val (.long (((own_l q1 q2) - (own_f q1 q2)) + (1 : Int64))), .second, .unset, .unset, .unset, .unset, .unset, .unset, .unset] [(.long (1 : Int64)), (.long (own_l q1 q2)), (.long (((own_l q1 q2) - (own_f q1 q2)) + (1 : Int64)))])) ?_ (fun t k => XS.lconst X8.here hx rfl (hb hby at_86) k)
  refine Gen.on (b := T8.setTop (mkF m 88 #[.val (.long q1), .second, .val (.long q2), .second, .val (.long q3), .second, .val (.long (own_x q1)), .second, .val (.long (own_x q2)), .second, .val (.long (own_f q1 q2)), .second, .val (.long (own_l q1 q2)), .second, .val (.long (((own_l q1 q2) - (own_f q1 q2)) + (1 : Int64))), .second, .unset, .unset, .unset, .unset, .unset, .unset, .unset] [(.long ((own_l q1 q2) + (1 : Int64))), (.long (((own_l q1 q2) - (own_f q1 q2)) + (1 : Int64)))])) ?_ (fun t k => XS.ladd X8.here hx rfl (hb hby at_87) rfl k)
  refine Gen.on (b := T8.setTop (mkF m 89 #[.val (.long q1), .second, .val (.long q2), .second, .val (.long q3), .second, .val (.long (own_x q1)), .second, .val (.long (own_x q2)), .second, .val (.long (own_f q1 q2)), .second, .val (.long (own_l q1 q2)), .second, .val (.long (((own_l q1 q2) - (own_f q1 q2)) + (1 : Int64))), .second, .unset, .unset, .unset, .unset, .unset, .unset, .unset] [(.int (lcmpW (((own_l q1 q2) - (own_f q1 q2)) + (1 : Int64)) ((own_l q1 q2) + (1 : Int64))))])) ?_ (fun t k => XS.lcmp X8.here hx rfl (hb hby at_88) rfl k)
  refine Gen.on (b := T8.setTop (mkF m 92 #[.val (.long q1), .second, .val (.long q2), .second, .val (.long q3), .second, .val (.long (own_x q1)), .second, .val (.long (own_x q2)), .second, .val (.long (own_f q1 q2)), .second, .val (.long (own_l q1 q2)), .second, .val (.long (((own_l q1 q2) - (own_f q1 q2)) + (1 : Int64))), .second, .unset, .unset, .unset, .unset, .unset, .unset, .unset] [])) ?_ (fun t k => XS.ifNo X8.here hx rfl (hb hby at_89) rfl (own_gt0 (own_c89 q1 q2)).1 k)
  refine Gen.on (b := T8.setTop (mkF m 93 #[.val (.long q1), .second, .val (.long q2), .second, .val (.long q3), .second, .val (.long (own_x q1)), .second, .val (.long (own_x q2)), .second, .val (.long (own_f q1 q2)), .second, .val (.long (own_l q1 q2)), .second, .val (.long (((own_l q1 q2) - (own_f q1 q2)) + (1 : Int64))), .second, .unset, .unset, .unset, .unset, .unset, .unset, .unset] [(.int (1 : Int32))])) ?_ (fun t k => XS.iconst X8.here hx rfl (hb hby at_92) k)
  refine Gen.on (b := T8.setTop (mkF m 97 #[.val (.long q1), .second, .val (.long q2), .second, .val (.long q3), .second, .val (.long (own_x q1)), .second, .val (.long (own_x q2)), .second, .val (.long (own_f q1 q2)), .second, .val (.long (own_l q1 q2)), .second, .val (.long (((own_l q1 q2) - (own_f q1 q2)) + (1 : Int64))), .second, .unset, .unset, .unset, .unset, .unset, .unset, .unset] [(.int (1 : Int32))])) ?_ (fun t k => XS.goto X8.here hx rfl (pc0 := 93) (pc' := 97) rfl (hb hby at_93) (by decide) (by decide) k)
  refine Gen.on (b := T8.setTop (mkF m 99 #[.val (.long q1), .second, .val (.long q2), .second, .val (.long q3), .second, .val (.long (own_x q1)), .second, .val (.long (own_x q2)), .second, .val (.long (own_f q1 q2)), .second, .val (.long (own_l q1 q2)), .second, .val (.long (((own_l q1 q2) - (own_f q1 q2)) + (1 : Int64))), .second, .val (.int (1 : Int32)), .unset, .unset, .unset, .unset, .unset, .unset] [])) ?_ (fun t k => XS.istore X8.here hx rfl (hb hby at_97) rfl (l' := #[.val (.long q1), .second, .val (.long q2), .second, .val (.long q3), .second, .val (.long (own_x q1)), .second, .val (.long (own_x q2)), .second, .val (.long (own_f q1 q2)), .second, .val (.long (own_l q1 q2)), .second, .val (.long (((own_l q1 q2) - (own_f q1 q2)) + (1 : Int64))), .second, .val (.int (1 : Int32)), .unset, .unset, .unset, .unset, .unset, .unset]) rfl k)
  refine Gen.on (b := T8.setTop (mkF m 101 #[.val (.long q1), .second, .val (.long q2), .second, .val (.long q3), .second, .val (.long (own_x q1)), .second, .val (.long (own_x q2)), .second, .val (.long (own_f q1 q2)), .second, .val (.long (own_l q1 q2)), .second, .val (.long (((own_l q1 q2) - (own_f q1 q2)) + (1 : Int64))), .second, .val (.int (1 : Int32)), .unset, .unset, .unset, .unset, .unset, .unset] [(.long (own_l q1 q2))])) ?_ (fun t k => XS.lload X8.here hx rfl (hb hby at_99) rfl k)
  refine Gen.on (b := T8.setTop (mkF m 103 #[.val (.long q1), .second, .val (.long q2), .second, .val (.long q3), .second, .val (.long (own_x q1)), .second, .val (.long (own_x q2)), .second, .val (.long (own_f q1 q2)), .second, .val (.long (own_l q1 q2)), .second, .val (.long (((own_l q1 q2) - (own_f q1 q2)) + (1 : Int64))), .second, .val (.int (1 : Int32)), .unset, .unset, .unset, .unset, .unset, .unset] [(.long (own_f q1 q2)), (.long (own_l q1 q2))])) ?_ (fun t k => XS.lload X8.here hx rfl (hb hby at_101) rfl k)
  refine Gen.on (b := T8.setTop (mkF m 104 #[.val (.long q1), .second, .val (.long q2), .second, .val (.long q3), .second, .val (.long (own_x q1)), .second, .val (.long (own_x q2)), .second, .val (.long (own_f q1 q2)), .second, .val (.long (own_l q1 q2)), .second, .val (.long (((own_l q1 q2) - (own_f q1 q2)) + (1 : Int64))), .second, .val (.int (1 : Int32)), .unset, .unset, .unset, .unset, .unset, .unset] [(.int (lcmpW (own_l q1 q2) (own_f q1 q2)))])) ?_ (fun t k => XS.lcmp X8.here hx rfl (hb hby at_103) rfl k)
  by_cases c104_1 : (own_f q1 q2) < (own_l q1 q2)
  · refine Gen.on (b := T8.setTop (mkF m 107 #[.val (.long q1), .second, .val (.long q2), .second, .val (.long q3), .second, .val (.long (own_x q1)), .second, .val (.long (own_x q2)), .second, .val (.long (own_f q1 q2)), .second, .val (.long (own_l q1 q2)), .second, .val (.long (((own_l q1 q2) - (own_f q1 q2)) + (1 : Int64))), .second, .val (.int (1 : Int32)), .unset, .unset, .unset, .unset, .unset, .unset] [])) ?_ (fun t k => XS.ifNo X8.here hx rfl (hb hby at_104) rfl (own_gt1 c104_1).2 k)
    refine Gen.on (b := T8.setTop (mkF m 109 #[.val (.long q1), .second, .val (.long q2), .second, .val (.long q3), .second, .val (.long (own_x q1)), .second, .val (.long (own_x q2)), .second, .val (.long (own_f q1 q2)), .second, .val (.long (own_l q1 q2)), .second, .val (.long (((own_l q1 q2) - (own_f q1 q2)) + (1 : Int64))), .second, .val (.int (1 : Int32)), .unset, .unset, .unset, .unset, .unset, .unset] [(.long (own_f q1 q2))])) ?_ (fun t k => XS.lload X8.here hx rfl (hb hby at_107) rfl k)
    refine Gen.on (b := T8.setTop (mkF m 111 #[.val (.long q1), .second, .val (.long q2), .second, .val (.long q3), .second, .val (.long (own_x q1)), .second, .val (.long (own_x q2)), .second, .val (.long (own_f q1 q2)), .second, .val (.long (own_l q1 q2)), .second, .val (.long (((own_l q1 q2) - (own_f q1 q2)) + (1 : Int64))), .second, .val (.int (1 : Int32)), .unset, .unset, .unset, .unset, .unset, .unset] [(.long q3), (.long (own_f q1 q2))])) ?_ (fun t k => XS.lload X8.here hx rfl (hb hby at_109) rfl k)
    refine Gen.on (b := T8.setTop (mkF m 114 #[.val (.long q1), .second, .val (.long q2), .second, .val (.long q3), .second, .val (.long (own_x q1)), .second, .val (.long (own_x q2)), .second, .val (.long (own_f q1 q2)), .second, .val (.long (own_l q1 q2)), .second, .val (.long (((own_l q1 q2) - (own_f q1 q2)) + (1 : Int64))), .second, .val (.int (1 : Int32)), .unset, .unset, .unset, .unset, .unset, .unset] [(.long (9223372036854775807 : Int64)), (.long q3), (.long (own_f q1 q2))])) ?_ (fun t k => X8.ldc2Long hx hown (mvT hZ (hw _ (List.mem_of_getElem? (i := 0) rfl))) (g := (mkF m 111 #[.val (.long q1), .second, .val (.long q2), .second, .val (.long q3), .second, .val (.long (own_x q1)), .second, .val (.long (own_x q2)), .second, .val (.long (own_f q1 q2)), .second, .val (.long (own_l q1 q2)), .second, .val (.long (((own_l q1 q2) - (own_f q1 q2)) + (1 : Int64))), .second, .val (.int (1 : Int32)), .unset, .unset, .unset, .unset, .unset, .unset] [(.long q3), (.long (own_f q1 q2))])) rfl (hb hby at_111) t k)
    refine Gen.on (b := T8.setTop (mkF m 115 #[.val (.long q1), .second, .val (.long q2), .second, .val (.long q3), .second, .val (.long (own_x q1)), .second, .val (.long (own_x q2)), .second, .val (.long (own_f q1 q2)), .second, .val (.long (own_l q1 q2)), .second, .val (.long (((own_l q1 q2) - (own_f q1 q2)) + (1 : Int64))), .second, .val (.int (1 : Int32)), .unset, .unset, .unset, .unset, .unset, .unset] [(.long (q3 &&& (9223372036854775807 : Int64))), (.long (own_f q1 q2))])) ?_ (fun t k => XS.land X8.here hx rfl (hb hby at_114) rfl k)
    refine Gen.on (b := T8.setTop (mkF m 117 #[.val (.long q1), .second, .val (.long q2), .second, .val (.long q3), .second, .val (.long (own_x q1)), .second, .val (.long (own_x q2)), .second, .val (.long (own_f q1 q2)), .second, .val (.long (own_l q1 q2)), .second, .val (.long (((own_l q1 q2) - (own_f q1 q2)) + (1 : Int64))), .second, .val (.int (1 : Int32)), .unset, .unset, .unset, .unset, .unset, .unset] [(.long (own_l q1 q2)), (.long (q3 &&& (9223372036854775807 : Int64))), (.long (own_f q1 q2))])) ?_ (fun t k => XS.lload X8.here hx rfl (hb hby at_115) rfl k)
    refine Gen.on (b := T8.setTop (mkF m 119 #[.val (.long q1), .second, .val (.long q2), .second, .val (.long q3), .second, .val (.long (own_x q1)), .second, .val (.long (own_x q2)), .second, .val (.long (own_f q1 q2)), .second, .val (.long (own_l q1 q2)), .second, .val (.long (((own_l q1 q2) - (own_f q1 q2)) + (1 : Int64))), .second, .val (.int (1 : Int32)), .unset, .unset, .unset, .unset, .unset, .unset] [(.long (own_f q1 q2)), (.long (own_l q1 q2)), (.long (q3 &&& (9223372036854775807 : Int64))), (.long (own_f q1 q2))])) ?_ (fun t k => XS.lload X8.here hx rfl (hb hby at_117) rfl k)
    refine Gen.on (b := T8.setTop (mkF m 120 #[.val (.long q1), .second, .val (.long q2), .second, .val (.long q3), .second, .val (.long (own_x q1)), .second, .val (.long (own_x q2)), .second, .val (.long (own_f q1 q2)), .second, .val (.long (own_l q1 q2)), .second, .val (.long (((own_l q1 q2) - (own_f q1 q2)) + (1 : Int64))), .second, .val (.int (1 : Int32)), .unset, .unset, .unset, .unset, .unset, .unset] [(.long ((own_l q1 q2) - (own_f q1 q2))), (.long (q3 &&& (9223372036854775807 : Int64))), (.long (own_f q1 q2))])) ?_ (fun t k => XS.lsub X8.here hx rfl (hb hby at_119) rfl k)
    refine Gen.on (b := T8.setTop (mkF m 121 #[.val (.long q1), .second, .val (.long q2), .second, .val (.long q3), .second, .val (.long (own_x q1)), .second, .val (.long (own_x q2)), .second, .val (.long (own_f q1 q2)), .second, .val (.long (own_l q1 q2)), .second, .val (.long (((own_l q1 q2) - (own_f q1 q2)) + (1 : Int64))), .second, .val (.int (1 : Int32)), .unset, .unset, .unset, .unset, .unset, .unset] [(.long ((q3 &&& (9223372036854775807 : Int64)) - ((q3 &&& (9223372036854775807 : Int64)) / ((own_l q1 q2) - (own_f q1 q2))) * ((own_l q1 q2) - (own_f q1 q2)))), (.long (own_f q1 q2))])) ?_ (fun t k => XS.lrem X8.here hx rfl (hb hby at_120) rfl (own_nz q1 q2 c104_1) k)
    refine Gen.on (b := T8.setTop (mkF m 122 #[.val (.long q1), .second, .val (.long q2), .second, .val (.long q3), .second, .val (.long (own_x q1)), .second, .val (.long (own_x q2)), .second, .val (.long (own_f q1 q2)), .second, .val (.long (own_l q1 q2)), .second, .val (.long (((own_l q1 q2) - (own_f q1 q2)) + (1 : Int64))), .second, .val (.int (1 : Int32)), .unset, .unset, .unset, .unset, .unset, .unset] [(.long ((own_f q1 q2) + ((q3 &&& (9223372036854775807 : Int64)) - ((q3 &&& (9223372036854775807 : Int64)) / ((own_l q1 q2) - (own_f q1 q2))) * ((own_l q1 q2) - (own_f q1 q2)))))])) ?_ (fun t k => XS.ladd X8.here hx rfl (hb hby at_121) rfl k)
    refine Gen.on (b := T8.setTop (mkF m 124 #[.val (.long q1), .second, .val (.long q2), .second, .val (.long q3), .second, .val (.long (own_x q1)), .second, .val (.long (own_x q2)), .second, .val (.long (own_f q1 q2)), .second, .val (.long (own_l q1 q2)), .second, .val (.long (((own_l q1 q2) - (own_f q1 q2)) + (1 : Int64))), .second, .val (.int (1 : Int32)), .val (.long ((own_f q1 q2) + ((q3 &&& (9223372036854775807 : Int64)) - ((q3 &&& (9223372036854775807 : Int64)) / ((own_l q1 q2) - (own_f q1 q2))) * ((own_l q1 q2) - (own_f q1 q2))))), .second, .unset, .unset, .unset, .unset] [])) ?_ (fun t k => XS.lstore X8.here hx rfl (hb hby at_122) rfl (l' := #[.val (.long q1), .second, .val (.long q2), .second, .val (.long q3), .second, .val (.long (own_x q1)), .second, .val (.long (own_x q2)), .second, .val (.long (own_f q1 q2)), .second, .val (.long (own_l q1 q2)), .second, .val (.long (((own_l q1 q2) - (own_f q1 q2)) + (1 : Int64))), .second, .val (.int (1 : Int32)), .val (.long ((own_f q1 q2) + ((q3 &&& (9223372036854775807 : Int64)) - ((q3 &&& (9223372036854775807 : Int64)) / ((own_l q1 q2) - (own_f q1 q2))) * ((own_l q1 q2) - (own_f q1 q2))))), .second, .unset, .unset, .unset, .unset]) rfl k)
    have fa10 := ((hf4_0.ext E6).keep Kc7)
    obtain ⟨b9, g9⟩ : ∃ z, z = T7.heap.size := ⟨_, rfl⟩
    have ne_b3_b9 : b3 ≠ b9 := Nat.ne_of_lt (Nat.lt_of_lt_of_le fa10.lt (Nat.le_of_eq g9.symm))
    have ne_b6_b9 : b6 ≠ b9 := Nat.ne_of_lt (Nat.lt_of_lt_of_le hf7_0.lt (Nat.le_of_eq g9.symm))
    have g_b9 : n0 ≤ b9 := Nat.le_trans Z7 (Nat.le_of_eq g9.symm)
    obtain ⟨T9, h9, X9, e9, E9, A9, D9, -, st9⟩ := newO X8 hx hZ hown (hw _ (List.mem_of_getElem? (i := 8) rfl)) (hw _ (List.mem_of_getElem? (i := 9) rfl)) (hw _ (List.mem_of_getElem? (i := 10) rfl)) e8 (g := (mkF m 124 #[.val (.long q1), .second, .val (.long q2), .second, .val (.long q3), .second, .val (.long (own_x q1)), .second, .val (.long (own_x q2)), .second, .val (.long (own_f q1 q2)), .second, .val (.long (own_l q1 q2)), .second, .val (.long (((own_l q1 q2) - (own_f q1 q2)) + (1 : Int64))), .second, .val (.int (1 : Int32)), .val (.long ((own_f q1 q2) + ((q3 &&& (9223372036854775807 : Int64)) - ((q3 &&& (9223372036854775807 : Int64)) / ((own_l q1 q2) - (own_f q1 q2))) * ((own_l q1 q2) - (own_f q1 q2))))), .second, .unset, .unset, .unset, .unset] [])) rfl (hb hby at_124) (by decide) (by decide)
    rw [← g9] at A9 D9 st9
    have Z9 : n0 ≤ h9.size := Nat.le_trans Z7 E9.1
    have F9_first : Fld Z h9 b9 "com/example/bandwarden/bandwarden/server/ByteRange" "first" "J" (.long (0 : Int64)) := D9 (Or.inr (hw _ (List.mem_of_getElem? (i := 23) rfl))) (ty := .long) (by decide)
    have F9_last : Fld Z h9 b9 "com/example/bandwarden/bandwarden/server/ByteRange" "last" "J" (.long (0 : Int64)) := D9 (Or.inr (hw _ (List.mem_of_getElem? (i := 25) rfl))) (ty := .long) (by decide)
    refine Gen.on (b := T9.setTop (mkF m 127 #[.val (.long q1), .second, .val (.long q2), .second, .val (.long q3), .second, .val (.long (own_x q1)), .second, .val (.long (own_x q2)), .second, .val (.long (own_f q1 q2)), .second, .val (.long (own_l q1 q2)), .second, .val (.long (((own_l q1 q2) - (own_f q1 q2)) + (1 : Int64))), .second, .val (.int (1 : Int32)), .val (.long ((own_f q1 q2) + ((q3 &&& (9223372036854775807 : Int64)) - ((q3 &&& (9223372036854775807 : Int64)) / ((own_l q1 q2) - (own_f q1 q2))) * ((own_l q1 q2) - (own_f q1 q2))))), .second, .unset, .unset, .unset, .unset] [(.ref b9)])) ?_ (fun t k => st9 t k)
    refine Gen.on (b := T9.setTop (mkF m 128 #[.val (.long q1), .second, .val (.long q2), .second, .val (.long q3), .second, .val (.long (own_x q1)), .second, .val (.long (own_x q2)), .second, .val (.long (own_f q1 q2)), .second, .val (.long (own_l q1 q2)), .second, .val (.long (((own_l q1 q2) - (own_f q1 q2)) + (1 : Int64))), .second, .val (.int (1 : Int32)), .val (.long ((own_f q1 q2) + ((q3 &&& (9223372036854775807 : Int64)) - ((q3 &&& (9223372036854775807 : Int64)) / ((own_l q1 q2) - (own_f q1 q2))) * ((own_l q1 q2) - (own_f q1 q2))))), .second, .unset, .unset, .unset, .unset] [(.ref b9), (.ref b9)])) ?_ (fun t k => XS.dup X9.here hx rfl (hb hby at_127) rfl rfl k)
    refine Gen.on (b := T9.setTop (mkF m 130 #[.val (.long q1), .second, .val (.long q2), .second, .val (.long q3), .second, .val (.long (own_x q1)), .second, .val (.long (own_x q2)), .second, .val (.long (own_f q1 q2)), .second, .val (.long (own_l q1 q2)), .second, .val (.long (((own_l q1 q2) - (own_f q1 q2)) + (1 : Int64))), .second, .val (.int (1 : Int32)), .val (.long ((own_f q1 q2) + ((q3 &&& (9223372036854775807 : Int64)) - ((q3 &&& (9223372036854775807 : Int64)) / ((own_l q1 q2) - (own_f q1 q2))) * ((own_l q1 q2) - (own_f q1 q2))))), .second, .unset, .unset, .unset, .unset] [(.long (own_f q1 q2)), (.ref b9), (.ref b9)])) ?_ (fun t k => XS.lload X9.here hx rfl (hb hby at_128) rfl k)
    refine Gen.on (b := T9.setTop (mkF m 132 #[.val (.long q1), .second, .val (.long q2), .second, .val (.long q3), .second, .val (.long (own_x q1)), .second, .val (.long (own_x q2)), .second, .val (.long (own_f q1 q2)), .second, .val (.long (own_l q1 q2)), .second, .val (.long (((own_l q1 q2) - (own_f q1 q2)) + (1 : Int64))), .second, .val (.int (1 : Int32)), .val (.long ((own_f q1 q2) + ((q3 &&& (9223372036854775807 : Int64)) - ((q3 &&& (9223372036854775807 : Int64)) / ((own_l q1 q2) - (own_f q1 q2))) * ((own_l q1 q2) - (own_f q1 q2))))), .second, .unset, .unset, .unset, .unset] [(.long ((own_f q1 q2) + ((q3 &&& (9223372036854775807 : Int64)) - ((q3 &&& (9223372036854775807 : Int64)) / ((own_l q1 q2) - (own_f q1 q2))) * ((own_l q1 q2) - (own_f q1 q2))))), (.long (own_f q1 q2)), (.ref b9), (.ref b9)])) ?_ (fun t k => XS.lload X9.here hx rfl (hb hby at_130) rfl k)
    obtain ⟨_, _, ⟨T11, L11, k11, n11⟩, -, X11, ⟨Lc11, hQ11, l11, y11, z11⟩, st11⟩ := X9.specialBack hx (y := (⟨"com/example/bandwarden/bandwarden/server/ByteRange", "<init>", "(JJ)V"⟩ : MethodName)) rfl hown (mvT hZ (hw _ (List.mem_of_getElem? (i := 11) rfl))) (mvT hZ (hw _ (List.mem_of_getElem? (i := 12) rfl))) (mvT hZ (hw _ (List.mem_of_getElem? (i := 13) rfl))) (by decide) (backOf (W := 1) (rm3 l Z a0 hw [] b9 (own_f q1 q2) ((own_f q1 q2) + ((q3 &&& (9223372036854775807 : Int64)) - ((q3 &&& (9223372036854775807 : Int64)) / ((own_l q1 q2) - (own_f q1 q2))) * ((own_l q1 q2) - (own_f q1 q2)))) (.long (0 : Int64)) (.long (0 : Int64)) h9 n0 Z9 A9 F9_first F9_last g_b9) hZ (hw _ (List.mem_of_getElem? (i := 13) rfl)) (hw _ (List.mem_of_getElem? (i := 10) rfl)) (by decide) (by decide)) (g := (mkF m 132 #[.val (.long q1), .second, .val (.long q2), .second, .val (.long q3), .second, .val (.long (own_x q1)), .second, .val (.long (own_x q2)), .second, .val (.long (own_f q1 q2)), .second, .val (.long (own_l q1 q2)), .second, .val (.long (((own_l q1 q2) - (own_f q1 q2)) + (1 : Int64))), .second, .val (.int (1 : Int32)), .val (.long ((own_f q1 q2) + ((q3 &&& (9223372036854775807 : Int64)) - ((q3 &&& (9223372036854775807 : Int64)) / ((own_l q1 q2) - (own_f q1 q2))) * ((own_l q1 q2) - (own_f q1 q2))))), .second, .unset, .unset, .unset, .unset] [(.long ((own_f q1 q2) + ((q3 &&& (9223372036854775807 : Int64)) - ((q3 &&& (9223372036854775807 : Int64)) / ((own_l q1 q2) - (own_f q1 q2))) * ((own_l q1 q2) - (own_f q1 q2))))), (.long (own_f q1 q2)), (.ref b9), (.ref b9)])) rfl (by rw [hml]; rfl) (Steps.refl _) (a := b9) (argsL := [(.long (own_f q1 q2)), (.long ((own_f q1 q2) + ((q3 &&& (9223372036854775807 : Int64)) - ((q3 &&& (9223372036854775807 : Int64)) / ((own_l q1 q2) - (own_f q1 q2))) * ((own_l q1 q2) - (own_f q1 q2)))))]) (rest := [(.ref b9)]) (lenOf pd_0_1 rfl) rfl (by show 2 * 0 + _ ≤ _; exact Nat.le_of_eq rfl) (hb hby at_132) (fun _ _ => ⟨rfl, e9, (by decide : 3 + 0 ≤ _), (by decide : 6 + 0 ≤ _)⟩)
    dsimp only [Pt.U, Pt.locs, Pt.cells, Pt.slots] at X11 l11 y11 z11 st11 hQ11
    subst l11 y11 z11
    obtain ⟨rfl, N11q, Kc11, hf11_0, hf11_1, hf11_2⟩ := hQ11
    have N11 := Fr.app N8 N11q
    have Z11 : n0 ≤ T11.heap.size := Nat.le_trans Z9 Kc11.1
    refine Gen.on (b := T11.setTop (mkF m 135 #[.val (.long q1), .second, .val (.long q2), .second, .val (.long q3), .second, .val (.long (own_x q1)), .second, .val (.long (own_x q2)), .second, .val (.long (own_f q1 q2)), .second, .val (.long (own_l q1 q2)), .second, .val (.long (((own_l q1 q2) - (own_f q1 q2)) + (1 : Int64))), .second, .val (.int (1 : Int32)), .val (.long ((own_f q1 q2) + ((q3 &&& (9223372036854775807 : Int64)) - ((q3 &&& (9223372036854775807 : Int64)) / ((own_l q1 q2) - (own_f q1 q2))) * ((own_l q1 q2) - (own_f q1 q2))))), .second, .unset, .unset, .unset, .unset] [(.ref b9)])) ?_ (fun t k => st11.trans k)
    obtain ⟨cq12, kq12, q12a, q12b, q12c⟩ := isOf hZ rfl hf11_0
    obtain ⟨_, _, ⟨T12, L12, k12, n12⟩, -, X12, ⟨Lc12, hQ12, l12, y12, z12⟩, st12⟩ := X11.virtualBack hx (y := (⟨"com/example/bandwarden/bandwarden/server/ByteRange", "length", "()J"⟩ : MethodName)) (z := (⟨"com/example/bandwarden/bandwarden/server/ByteRange", "length", "()J"⟩ : MethodName)) hown (mvT hZ (hw _ (List.mem_of_getElem? (i := 26) rfl))) (mvT hZ (hw _ (List.mem_of_getElem? (i := 27) rfl))) (notFace_of_selects (args := #[]) (mvT hZ (hw _ (List.mem_of_getElem? (i := 29) rfl)))) (mvT hZ (hw _ (List.mem_of_getElem? (i := 29) rfl))) (mvT hZ (hw _ (List.mem_of_getElem? (i := 28) rfl))) (by decide) (backOf (W := 0) (rm6 l Z a0 hw [] b9 (own_f q1 q2) ((own_f q1 q2) + ((q3 &&& (9223372036854775807 : Int64)) - ((q3 &&& (9223372036854775807 : Int64)) / ((own_l q1 q2) - (own_f q1 q2))) * ((own_l q1 q2) - (own_f q1 q2)))) T11.heap n0 Z11 hf11_1 hf11_2) hZ (hw _ (List.mem_of_getElem? (i := 30) rfl)) (hw _ (List.mem_of_getElem? (i := 10) rfl)) (by decide) (by decide)) q12a q12c (g := (mkF m 135 #[.val (.long q1), .second, .val (.long q2), .second, .val (.long q3), .second, .val (.long (own_x q1)), .second, .val (.long (own_x q2)), .second, .val (.long (own_f q1 q2)), .second, .val (.long (own_l q1 q2)), .second, .val (.long (((own_l q1 q2) - (own_f q1 q2)) + (1 : Int64))), .second, .val (.int (1 : Int32)), .val (.long ((own_f q1 q2) + ((q3 &&& (9223372036854775807 : Int64)) - ((q3 &&& (9223372036854775807 : Int64)) / ((own_l q1 q2) - (own_f q1 q2))) * ((own_l q1 q2) - (own_f q1 q2))))), .second, .unset, .unset, .unset, .unset] [(.ref b9)])) rfl (by rw [hml]; rfl) (Steps.refl _) (argsL := []) (rest := []) (lenOf pd_0_2 rfl) rfl (by show 2 * 0 + _ ≤ _; exact Nat.le_of_eq rfl) (hb hby at_135) (fun _ _ => ⟨rfl, rfl, (by decide : 3 + 0 ≤ _), (by decide : 6 + 0 ≤ _)⟩)
    dsimp only [Pt.U, Pt.locs, Pt.cells, Pt.slots] at X12 l12 y12 z12 st12 hQ12
    subst l12 y12 z12
    obtain ⟨rfl, N12q, e12⟩ := hQ12
    have N12 := Fr.app N11 N12q
    refine Gen.on (b := T12.setTop (mkF m 138 #[.val (.long q1), .second, .val (.long q2), .second, .val (.long q3), .second, .val (.long (own_x q1)), .second, .val (.long (own_x q2)), .second, .val (.long (own_f q1 q2)), .second, .val (.long (own_l q1 q2)), .second, .val (.long (((own_l q1 q2) - (own_f q1 q2)) + (1 : Int64))), .second, .val (.int (1 : Int32)), .val (.long ((own_f q1 q2) + ((q3 &&& (9223372036854775807 : Int64)) - ((q3 &&& (9223372036854775807 : Int64)) / ((own_l q1 q2) - (own_f q1 q2))) * ((own_l q1 q2) - (own_f q1 q2))))), .second, .unset, .unset, .unset, .unset] [(.long ((((own_f q1 q2) + ((q3 &&& (9223372036854775807 : Int64)) - ((q3 &&& (9223372036854775807 : Int64)) / ((own_l q1 q2) - (own_f q1 q2))) * ((own_l q1 q2) - (own_f q1 q2)))) - (own_f q1 q2)) + (1 : Int64)))])) ?_ (fun t k => st12.trans k)
    refine Gen.on (b := T12.setTop (mkF m 140 #[.val (.long q1), .second, .val (.long q2), .second, .val (.long q3), .second, .val (.long (own_x q1)), .second, .val (.long (own_x q2)), .second, .val (.long (own_f q1 q2)), .second, .val (.long (own_l q1 q2)), .second, .val (.long (((own_l q1 q2) - (own_f q1 q2)) + (1 : Int64))), .second, .val (.int (1 : Int32)), .val (.long ((own_f q1 q2) + ((q3 &&& (9223372036854775807 : Int64)) - ((q3 &&& (9223372036854775807 : Int64)) / ((own_l q1 q2) - (own_f q1 q2))) * ((own_l q1 q2) - (own_f q1 q2))))), .second, .val (.long ((((own_f q1 q2) + ((q3 &&& (9223372036854775807 : Int64)) - ((q3 &&& (9223372036854775807 : Int64)) / ((own_l q1 q2) - (own_f q1 q2))) * ((own_l q1 q2) - (own_f q1 q2)))) - (own_f q1 q2)) + (1 : Int64))), .second, .unset, .unset] [])) ?_ (fun t k => XS.lstore X12.here hx rfl (hb hby at_138) rfl (l' := #[.val (.long q1), .second, .val (.long q2), .second, .val (.long q3), .second, .val (.long (own_x q1)), .second, .val (.long (own_x q2)), .second, .val (.long (own_f q1 q2)), .second, .val (.long (own_l q1 q2)), .second, .val (.long (((own_l q1 q2) - (own_f q1 q2)) + (1 : Int64))), .second, .val (.int (1 : Int32)), .val (.long ((own_f q1 q2) + ((q3 &&& (9223372036854775807 : Int64)) - ((q3 &&& (9223372036854775807 : Int64)) / ((own_l q1 q2) - (own_f q1 q2))) * ((own_l q1 q2) - (own_f q1 q2))))), .second, .val (.long ((((own_f q1 q2) + ((q3 &&& (9223372036854775807 : Int64)) - ((q3 &&& (9223372036854775807 : Int64)) / ((own_l q1 q2) - (own_f q1 q2))) * ((own_l q1 q2) - (own_f q1 q2)))) - (own_f q1 q2)) + (1 : Int64))), .second, .unset, .unset]) rfl k)
    have fa14 := ((fa10.ext E9).keep Kc11)
    have fa15 := ((hf7_0.ext E9).keep Kc11)
    obtain ⟨b13, g13⟩ : ∃ z, z = T11.heap.size := ⟨_, rfl⟩
    have ne_b3_b13 : b3 ≠ b13 := Nat.ne_of_lt (Nat.lt_of_lt_of_le fa14.lt (Nat.le_of_eq g13.symm))
    have ne_b6_b13 : b6 ≠ b13 := Nat.ne_of_lt (Nat.lt_of_lt_of_le fa15.lt (Nat.le_of_eq g13.symm))
    have ne_b9_b13 : b9 ≠ b13 := Nat.ne_of_lt (Nat.lt_of_lt_of_le hf11_0.lt (Nat.le_of_eq g13.symm))
    have g_b13 : n0 ≤ b13 := Nat.le_trans Z11 (Nat.le_of_eq g13.symm)
    obtain ⟨T13, h13, X13, e13, E13, A13, D13, -, st13⟩ := newO X12 hx hZ hown (hw _ (List.mem_of_getElem? (i := 8) rfl)) (hw _ (List.mem_of_getElem? (i := 9) rfl)) (hw _ (List.mem_of_getElem? (i := 10) rfl)) e12 (g := (mkF m 140 #[.val (.long q1), .second, .val (.long q2), .second, .val (.long q3), .second, .val (.long (own_x q1)), .second, .val (.long (own_x q2)), .second, .val (.long (own_f q1 q2)), .second, .val (.long (own_l q1 q2)), .second, .val (.long (((own_l q1 q2) - (own_f q1 q2)) + (1 : Int64))), .second, .val (.int (1 : Int32)), .val (.long ((own_f q1 q2) + ((q3 &&& (9223372036854775807 : Int64)) - ((q3 &&& (9223372036854775807 : Int64)) / ((own_l q1 q2) - (own_f q1 q2))) * ((own_l q1 q2) - (own_f q1 q2))))), .second, .val (.long ((((own_f q1 q2) + ((q3 &&& (9223372036854775807 : Int64)) - ((q3 &&& (9223372036854775807 : Int64)) / ((own_l q1 q2) - (own_f q1 q2))) * ((own_l q1 q2) - (own_f q1 q2)))) - (own_f q1 q2)) + (1 : Int64))), .second, .unset, .unset] [])) rfl (hb hby at_140) (by decide) (by decide)
    rw [← g13] at A13 D13 st13
    have Z13 : n0 ≤ h13.size := Nat.le_trans Z11 E13.1
    have F13_first : Fld Z h13 b13 "com/example/bandwarden/bandwarden/server/ByteRange" "first" "J" (.long (0 : Int64)) := D13 (Or.inr (hw _ (List.mem_of_getElem? (i := 23) rfl))) (ty := .long) (by decide)
    have F13_last : Fld Z h13 b13 "com/example/bandwarden/bandwarden/server/ByteRange" "last" "J" (.long (0 : Int64)) := D13 (Or.inr (hw _ (List.mem_of_getElem? (i := 25) rfl))) (ty := .long) (by decide)
    refine Gen.on (b := T13.setTop (mkF m 143 #[.val (.long q1), .second, .val (.long q2), .second, .val (.long q3), .second, .val (.long (own_x q1)), .second, .val (.long (own_x q2)), .second, .val (.long (own_f q1 q2)), .second, .val (.long (own_l q1 q2)), .second, .val (.long (((own_l q1 q2) - (own_f q1 q2)) + (1 : Int64))), .second, .val (.int (1 : Int32)), .val (.long ((own_f q1 q2) + ((q3 &&& (9223372036854775807 : Int64)) - ((q3 &&& (9223372036854775807 : Int64)) / ((own_l q1 q2) - (own_f q1 q2))) * ((own_l q1 q2) - (own_f q1 q2))))), .second, .val (.long ((((own_f q1 q2) + ((q3 &&& (9223372036854775807 : Int64)) - ((q3 &&& (9223372036854775807 : Int64)) / ((own_l q1 q2) - (own_f q1 q2))) * ((own_l q1 q2) - (own_f q1 q2)))) - (own_f q1 q2)) + (1 : Int64))), .second, .unset, .unset] [(.ref b13)])) ?_ (fun t k => st13 t k)
    refine Gen.on (b := T13.setTop (mkF m 144 #[.val (.long q1), .second, .val (.long q2), .second, .val (.long q3), .second, .val (.long (own_x q1)), .second, .val (.long (own_x q2)), .second, .val (.long (own_f q1 q2)), .second, .val (.long (own_l q1 q2)), .second, .val (.long (((own_l q1 q2) - (own_f q1 q2)) + (1 : Int64))), .second, .val (.int (1 : Int32)), .val (.long ((own_f q1 q2) + ((q3 &&& (9223372036854775807 : Int64)) - ((q3 &&& (9223372036854775807 : Int64)) / ((own_l q1 q2) - (own_f q1 q2))) * ((own_l q1 q2) - (own_f q1 q2))))), .second, .val (.long ((((own_f q1 q2) + ((q3 &&& (9223372036854775807 : Int64)) - ((q3 &&& (9223372036854775807 : Int64)) / ((own_l q1 q2) - (own_f q1 q2))) * ((own_l q1 q2) - (own_f q1 q2)))) - (own_f q1 q2)) + (1 : Int64))), .second, .unset, .unset] [(.ref b13), (.ref b13)])) ?_ (fun t k => XS.dup X13.here hx rfl (hb hby at_143) rfl rfl k)
    refine Gen.on (b := T13.setTop (mkF m 146 #[.val (.long q1), .second, .val (.long q2), .second, .val (.long q3), .second, .val (.long (own_x q1)), .second, .val (.long (own_x q2)), .second, .val (.long (own_f q1 q2)), .second, .val (.long (own_l q1 q2)), .second, .val (.long (((own_l q1 q2) - (own_f q1 q2)) + (1 : Int64))), .second, .val (.int (1 : Int32)), .val (.long ((own_f q1 q2) + ((q3 &&& (9223372036854775807 : Int64)) - ((q3 &&& (9223372036854775807 : Int64)) / ((own_l q1 q2) - (own_f q1 q2))) * ((own_l q1 q2) - (own_f q1 q2))))), .second, .val (.long ((((own_f q1 q2) + ((q3 &&& (9223372036854775807 : Int64)) - ((q3 &&& (9223372036854775807 : Int64)) / ((own_l q1 q2) - (own_f q1 q2))) * ((own_l q1 q2) - (own_f q1 q2)))) - (own_f q1 q2)) + (1 : Int64))), .second, .unset, .unset] [(.long ((own_f q1 q2) + ((q3 &&& (9223372036854775807 : Int64)) - ((q3 &&& (9223372036854775807 : Int64)) / ((own_l q1 q2) - (own_f q1 q2))) * ((own_l q1 q2) - (own_f q1 q2))))), (.ref b13), (.ref b13)])) ?_ (fun t k => XS.lload X13.here hx rfl (hb hby at_144) rfl k)
    refine Gen.on (b := T13.setTop (mkF m 147 #[.val (.long q1), .second, .val (.long q2), .second, .val (.long q3), .second, .val (.long (own_x q1)), .second, .val (.long (own_x q2)), .second, .val (.long (own_f q1 q2)), .second, .val (.long (own_l q1 q2)), .second, .val (.long (((own_l q1 q2) - (own_f q1 q2)) + (1 : Int64))), .second, .val (.int (1 : Int32)), .val (.long ((own_f q1 q2) + ((q3 &&& (9223372036854775807 : Int64)) - ((q3 &&& (9223372036854775807 : Int64)) / ((own_l q1 q2) - (own_f q1 q2))) * ((own_l q1 q2) - (own_f q1 q2))))), .second, .val (.long ((((own_f q1 q2) + ((q3 &&& (9223372036854775807 : Int64)) - ((q3 &&& (9223372036854775807 : Int64)) / ((own_l q1 q2) - (own_f q1 q2))) * ((own_l q1 q2) - (own_f q1 q2)))) - (own_f q1 q2)) + (1 : Int64))), .second, .unset, .unset] [(.long (1 : Int64)), (.long ((own_f q1 q2) + ((q3 &&& (9223372036854775807 : Int64)) - ((q3 &&& (9223372036854775807 : Int64)) / ((own_l q1 q2) - (own_f q1 q2))) * ((own_l q1 q2) - (own_f q1 q2))))), (.ref b13), (.ref b13)])) ?_ (fun t k => XS.lconst X13.here hx rfl (hb hby at_146) k)
    refine Gen.on (b := T13.setTop (mkF m 148 #[.val (.long q1), .second, .val (.long q2), .second, .val (.long q3), .second, .val (.long (own_x q1)), .second, .val (.long (own_x q2)), .second, .val (.long (own_f q1 q2)), .second, .val (.long (own_l q1 q2)), .second, .val (.long (((own_l q1 q2) - (own_f q1 q2)) + (1 : Int64))), .second, .val (.int (1 : Int32)), .val (.long ((own_f q1 q2) + ((q3 &&& (9223372036854775807 : Int64)) - ((q3 &&& (9223372036854775807 : Int64)) / ((own_l q1 q2) - (own_f q1 q2))) * ((own_l q1 q2) - (own_f q1 q2))))), .second, .val (.long ((((own_f q1 q2) + ((q3 &&& (9223372036854775807 : Int64)) - ((q3 &&& (9223372036854775807 : Int64)) / ((own_l q1 q2) - (own_f q1 q2))) * ((own_l q1 q2) - (own_f q1 q2)))) - (own_f q1 q2)) + (1 : Int64))), .second, .unset, .unset] [(.long (((own_f q1 q2) + ((q3 &&& (9223372036854775807 : Int64)) - ((q3 &&& (9223372036854775807 : Int64)) / ((own_l q1 q2) - (own_f q1 q2))) * ((own_l q1 q2) - (own_f q1 q2)))) + (1 : Int64))), (.ref b13), (.ref b13)])) ?_ (fun t k => XS.ladd X13.here hx rfl (hb hby at_147) rfl k)
    refine Gen.on (b := T13.setTop (mkF m 150 #[.val (.long q1), .second, .val (.long q2), .second, .val (.long q3), .second, .val (.long (own_x q1)), .second, .val (.long (own_x q2)), .second, .val (.long (own_f q1 q2)), .second, .val (.long (own_l q1 q2)), .second, .val (.long (((own_l q1 q2) - (own_f q1 q2)) + (1 : Int64))), .second, .val (.int (1 : Int32)), .val (.long ((own_f q1 q2) + ((q3 &&& (9223372036854775807 : Int64)) - ((q3 &&& (9223372036854775807 : Int64)) / ((own_l q1 q2) - (own_f q1 q2))) * ((own_l q1 q2) - (own_f q1 q2))))), .second, .val (.long ((((own_f q1 q2) + ((q3 &&& (9223372036854775807 : Int64)) - ((q3 &&& (9223372036854775807 : Int64)) / ((own_l q1 q2) - (own_f q1 q2))) * ((own_l q1 q2) - (own_f q1 q2)))) - (own_f q1 q2)) + (1 : Int64))), .second, .unset, .unset] [(.long (own_l q1 q2)), (.long (((own_f q1 q2) + ((q3 &&& (9223372036854775807 : Int64)) - ((q3 &&& (9223372036854775807 : Int64)) / ((own_l q1 q2) - (own_f q1 q2))) * ((own_l q1 q2) - (own_f q1 q2)))) + (1 : Int64))), (.ref b13), (.ref b13)])) ?_ (fun t k => XS.lload X13.here hx rfl (hb hby at_148) rfl k)
    obtain ⟨_, _, ⟨T16, L16, k16, n16⟩, -, X16, ⟨Lc16, hQ16, l16, y16, z16⟩, st16⟩ := X13.specialBack hx (y := (⟨"com/example/bandwarden/bandwarden/server/ByteRange", "<init>", "(JJ)V"⟩ : MethodName)) rfl hown (mvT hZ (hw _ (List.mem_of_getElem? (i := 11) rfl))) (mvT hZ (hw _ (List.mem_of_getElem? (i := 12) rfl))) (mvT hZ (hw _ (List.mem_of_getElem? (i := 13) rfl))) (by decide) (backOf (W := 1) (rm3 l Z a0 hw [] b13 (((own_f q1 q2) + ((q3 &&& (9223372036854775807 : Int64)) - ((q3 &&& (9223372036854775807 : Int64)) / ((own_l q1 q2) - (own_f q1 q2))) * ((own_l q1 q2) - (own_f q1 q2)))) + (1 : Int64)) (own_l q1 q2) (.long (0 : Int64)) (.long (0 : Int64)) h13 n0 Z13 A13 F13_first F13_last g_b13) hZ (hw _ (List.mem_of_getElem? (i := 13) rfl)) (hw _ (List.mem_of_getElem? (i := 10) rfl)) (by decide) (by decide)) (g := (mkF m 150 #[.val (.long q1), .second, .val (.long q2), .second, .val (.long q3), .second, .val (.long (own_x q1)), .second, .val (.long (own_x q2)), .second, .val (.long (own_f q1 q2)), .second, .val (.long (own_l q1 q2)), .second, .val (.long (((own_l q1 q2) - (own_f q1 q2)) + (1 : Int64))), .second, .val (.int (1 : Int32)), .val (.long ((own_f q1 q2) + ((q3 &&& (9223372036854775807 : Int64)) - ((q3 &&& (9223372036854775807 : Int64)) / ((own_l q1 q2) - (own_f q1 q2))) * ((own_l q1 q2) - (own_f q1 q2))))), .second, .val (.long ((((own_f q1 q2) + ((q3 &&& (9223372036854775807 : Int64)) - ((q3 &&& (9223372036854775807 : Int64)) / ((own_l q1 q2) - (own_f q1 q2))) * ((own_l q1 q2) - (own_f q1 q2)))) - (own_f q1 q2)) + (1 : Int64))), .second, .unset, .unset] [(.long (own_l q1 q2)), (.long (((own_f q1 q2) + ((q3 &&& (9223372036854775807 : Int64)) - ((q3 &&& (9223372036854775807 : Int64)) / ((own_l q1 q2) - (own_f q1 q2))) * ((own_l q1 q2) - (own_f q1 q2)))) + (1 : Int64))), (.ref b13), (.ref b13)])) rfl (by rw [hml]; rfl) (Steps.refl _) (a := b13) (argsL := [(.long (((own_f q1 q2) + ((q3 &&& (9223372036854775807 : Int64)) - ((q3 &&& (9223372036854775807 : Int64)) / ((own_l q1 q2) - (own_f q1 q2))) * ((own_l q1 q2) - (own_f q1 q2)))) + (1 : Int64))), (.long (own_l q1 q2))]) (rest := [(.ref b13)]) (lenOf pd_0_1 rfl) rfl (by show 2 * 0 + _ ≤ _; exact Nat.le_of_eq rfl) (hb hby at_150) (fun _ _ => ⟨rfl, e13, (by decide : 4 + 0 ≤ _), (by decide : 8 + 0 ≤ _)⟩)
    dsimp only [Pt.U, Pt.locs, Pt.cells, Pt.slots] at X16 l16 y16 z16 st16 hQ16
    subst l16 y16 z16
    obtain ⟨rfl, N16q, Kc16, hf16_0, hf16_1, hf16_2⟩ := hQ16
    have N16 := Fr.app N12 N16q
    have Z16 : n0 ≤ T16.heap.size := Nat.le_trans Z13 Kc16.1
    refine Gen.on (b := T16.setTop (mkF m 153 #[.val (.long q1), .second, .val (.long q2), .second, .val (.long q3), .second, .val (.long (own_x q1)), .second, .val (.long (own_x q2)), .second, .val (.long (own_f q1 q2)), .second, .val (.long (own_l q1 q2)), .second, .val (.long (((own_l q1 q2) - (own_f q1 q2)) + (1 : Int64))), .second, .val (.int (1 : Int32)), .val (.long ((own_f q1 q2) + ((q3 &&& (9223372036854775807 : Int64)) - ((q3 &&& (9223372036854775807 : Int64)) / ((own_l q1 q2) - (own_f q1 q2))) * ((own_l q1 q2) - (own_f q1 q2))))), .second, .val (.long ((((own_f q1 q2) + ((q3 &&& (9223372036854775807 : Int64)) - ((q3 &&& (9223372036854775807 : Int64)) / ((own_l q1 q2) - (own_f q1 q2))) * ((own_l q1 q2) - (own_f q1 q2)))) - (own_f q1 q2)) + (1 : Int64))), .second, .unset, .unset] [(.ref b13)])) ?_ (fun t k => st16.trans k)
    obtain ⟨cq17, kq17, q17a, q17b, q17c⟩ := isOf hZ rfl hf16_0
    obtain ⟨_, _, ⟨T17, L17, k17, n17⟩, -, X17, ⟨Lc17, hQ17, l17, y17, z17⟩, st17⟩ := X16.virtualBack hx (y := (⟨"com/example/bandwarden/bandwarden/server/ByteRange", "length", "()J"⟩ : MethodName)) (z := (⟨"com/example/bandwarden/bandwarden/server/ByteRange", "length", "()J"⟩ : MethodName)) hown (mvT hZ (hw _ (List.mem_of_getElem? (i := 26) rfl))) (mvT hZ (hw _ (List.mem_of_getElem? (i := 27) rfl))) (notFace_of_selects (args := #[]) (mvT hZ (hw _ (List.mem_of_getElem? (i := 29) rfl)))) (mvT hZ (hw _ (List.mem_of_getElem? (i := 29) rfl))) (mvT hZ (hw _ (List.mem_of_getElem? (i := 28) rfl))) (by decide) (backOf (W := 0) (rm6 l Z a0 hw [] b13 (((own_f q1 q2) + ((q3 &&& (9223372036854775807 : Int64)) - ((q3 &&& (9223372036854775807 : Int64)) / ((own_l q1 q2) - (own_f q1 q2))) * ((own_l q1 q2) - (own_f q1 q2)))) + (1 : Int64)) (own_l q1 q2) T16.heap n0 Z16 hf16_1 hf16_2) hZ (hw _ (List.mem_of_getElem? (i := 30) rfl)) (hw _ (List.mem_of_getElem? (i := 10) rfl)) (by decide) (by decide)) q17a q17c (g := (mkF m 153 #[.val (.long q1), .second, .val (.long q2), .second, .val (.long q3), .second, .val (.long (own_x q1)), .second, .val (.long (own_x q2)), .second, .val (.long (own_f q1 q2)), .second, .val (.long (own_l q1 q2)), .second, .val (.long (((own_l q1 q2) - (own_f q1 q2)) + (1 : Int64))), .second, .val (.int (1 : Int32)), .val (.long ((own_f q1 q2) + ((q3 &&& (9223372036854775807 : Int64)) - ((q3 &&& (9223372036854775807 : Int64)) / ((own_l q1 q2) - (own_f q1 q2))) * ((own_l q1 q2) - (own_f q1 q2))))), .second, .val (.long ((((own_f q1 q2) + ((q3 &&& (9223372036854775807 : Int64)) - ((q3 &&& (9223372036854775807 : Int64)) / ((own_l q1 q2) - (own_f q1 q2))) * ((own_l q1 q2) - (own_f q1 q2)))) - (own_f q1 q2)) + (1 : Int64))), .second, .unset, .unset] [(.ref b13)])) rfl (by rw [hml]; rfl) (Steps.refl _) (argsL := []) (rest := []) (lenOf pd_0_2 rfl) rfl (by show 2 * 0 + _ ≤ _; exact Nat.le_of_eq rfl) (hb hby at_153) (fun _ _ => ⟨rfl, rfl, (by decide : 4 + 0 ≤ _), (by decide : 8 + 0 ≤ _)⟩)
    dsimp only [Pt.U, Pt.locs, Pt.cells, Pt.slots] at X17 l17 y17 z17 st17 hQ17
    subst l17 y17 z17
    obtain ⟨rfl, N17q, e17⟩ := hQ17
    have N17 := Fr.app N16 N17q
    refine Gen.on (b := T17.setTop (mkF m 156 #[.val (.long q1), .second, .val (.long q2), .second, .val (.long q3), .second, .val (.long (own_x q1)), .second, .val (.long (own_x q2)), .second, .val (.long (own_f q1 q2)), .second, .val (.long (own_l q1 q2)), .second, .val (.long (((own_l q1 q2) - (own_f q1 q2)) + (1 : Int64))), .second, .val (.int (1 : Int32)), .val (.long ((own_f q1 q2) + ((q3 &&& (9223372036854775807 : Int64)) - ((q3 &&& (9223372036854775807 : Int64)) / ((own_l q1 q2) - (own_f q1 q2))) * ((own_l q1 q2) - (own_f q1 q2))))), .second, .val (.long ((((own_f q1 q2) + ((q3 &&& (9223372036854775807 : Int64)) - ((q3 &&& (9223372036854775807 : Int64)) / ((own_l q1 q2) - (own_f q1 q2))) * ((own_l q1 q2) - (own_f q1 q2)))) - (own_f q1 q2)) + (1 : Int64))), .second, .unset, .unset] [(.long (((own_l q1 q2) - (((own_f q1 q2) + ((q3 &&& (9223372036854775807 : Int64)) - ((q3 &&& (9223372036854775807 : Int64)) / ((own_l q1 q2) - (own_f q1 q2))) * ((own_l q1 q2) - (own_f q1 q2)))) + (1 : Int64))) + (1 : Int64)))])) ?_ (fun t k => st17.trans k)
    refine Gen.on (b := T17.setTop (mkF m 158 #[.val (.long q1), .second, .val (.long q2), .second, .val (.long q3), .second, .val (.long (own_x q1)), .second, .val (.long (own_x q2)), .second, .val (.long (own_f q1 q2)), .second, .val (.long (own_l q1 q2)), .second, .val (.long (((own_l q1 q2) - (own_f q1 q2)) + (1 : Int64))), .second, .val (.int (1 : Int32)), .val (.long ((own_f q1 q2) + ((q3 &&& (9223372036854775807 : Int64)) - ((q3 &&& (9223372036854775807 : Int64)) / ((own_l q1 q2) - (own_f q1 q2))) * ((own_l q1 q2) - (own_f q1 q2))))), .second, .val (.long ((((own_f q1 q2) + ((q3 &&& (9223372036854775807 : Int64)) - ((q3 &&& (9223372036854775807 : Int64)) / ((own_l q1 q2) - (own_f q1 q2))) * ((own_l q1 q2) - (own_f q1 q2)))) - (own_f q1 q2)) + (1 : Int64))), .second, .val (.long (((own_l q1 q2) - (((own_f q1 q2) + ((q3 &&& (9223372036854775807 : Int64)) - ((q3 &&& (9223372036854775807 : Int64)) / ((own_l q1 q2) - (own_f q1 q2))) * ((own_l q1 q2) - (own_f q1 q2)))) + (1 : Int64))) + (1 : Int64))), .second] [])) ?_ (fun t k => XS.lstore X17.here hx rfl (hb hby at_156) rfl (l' := #[.val (.long q1), .second, .val (.long q2), .second, .val (.long q3), .second, .val (.long (own_x q1)), .second, .val (.long (own_x q2)), .second, .val (.long (own_f q1 q2)), .second, .val (.long (own_l q1 q2)), .second, .val (.long (((own_l q1 q2) - (own_f q1 q2)) + (1 : Int64))), .second, .val (.int (1 : Int32)), .val (.long ((own_f q1 q2) + ((q3 &&& (9223372036854775807 : Int64)) - ((q3 &&& (9223372036854775807 : Int64)) / ((own_l q1 q2) - (own_f q1 q2))) * ((own_l q1 q2) - (own_f q1 q2))))), .second, .val (.long ((((own_f q1 q2) + ((q3 &&& (9223372036854775807 : Int64)) - ((q3 &&& (9223372036854775807 : Int64)) / ((own_l q1 q2) - (own_f q1 q2))) * ((own_l q1 q2) - (own_f q1 q2)))) - (own_f q1 q2)) + (1 : Int64))), .second, .val (.long (((own_l q1 q2) - (((own_f q1 q2) + ((q3 &&& (9223372036854775807 : Int64)) - ((q3 &&& (9223372036854775807 : Int64)) / ((own_l q1 q2) - (own_f q1 q2))) * ((own_l q1 q2) - (own_f q1 q2)))) + (1 : Int64))) + (1 : Int64))), .second]) rfl k)
    refine Gen.on (b := T17.setTop (mkF m 160 #[.val (.long q1), .second, .val (.long q2), .second, .val (.long q3), .second, .val (.long (own_x q1)), .second, .val (.long (own_x q2)), .second, .val (.long (own_f q1 q2)), .second, .val (.long (own_l q1 q2)), .second, .val (.long (((own_l q1 q2) - (own_f q1 q2)) + (1 : Int64))), .second, .val (.int (1 : Int32)), .val (.long ((own_f q1 q2) + ((q3 &&& (9223372036854775807 : Int64)) - ((q3 &&& (9223372036854775807 : Int64)) / ((own_l q1 q2) - (own_f q1 q2))) * ((own_l q1 q2) - (own_f q1 q2))))), .second, .val (.long ((((own_f q1 q2) + ((q3 &&& (9223372036854775807 : Int64)) - ((q3 &&& (9223372036854775807 : Int64)) / ((own_l q1 q2) - (own_f q1 q2))) * ((own_l q1 q2) - (own_f q1 q2)))) - (own_f q1 q2)) + (1 : Int64))), .second, .val (.long (((own_l q1 q2) - (((own_f q1 q2) + ((q3 &&& (9223372036854775807 : Int64)) - ((q3 &&& (9223372036854775807 : Int64)) / ((own_l q1 q2) - (own_f q1 q2))) * ((own_l q1 q2) - (own_f q1 q2)))) + (1 : Int64))) + (1 : Int64))), .second] [(.int (1 : Int32))])) ?_ (fun t k => XS.iload X17.here hx rfl (hb hby at_158) rfl k)
    refine Gen.on (b := T17.setTop (mkF m 163 #[.val (.long q1), .second, .val (.long q2), .second, .val (.long q3), .second, .val (.long (own_x q1)), .second, .val (.long (own_x q2)), .second, .val (.long (own_f q1 q2)), .second, .val (.long (own_l q1 q2)), .second, .val (.long (((own_l q1 q2) - (own_f q1 q2)) + (1 : Int64))), .second, .val (.int (1 : Int32)), .val (.long ((own_f q1 q2) + ((q3 &&& (9223372036854775807 : Int64)) - ((q3 &&& (9223372036854775807 : Int64)) / ((own_l q1 q2) - (own_f q1 q2))) * ((own_l q1 q2) - (own_f q1 q2))))), .second, .val (.long ((((own_f q1 q2) + ((q3 &&& (9223372036854775807 : Int64)) - ((q3 &&& (9223372036854775807 : Int64)) / ((own_l q1 q2) - (own_f q1 q2))) * ((own_l q1 q2) - (own_f q1 q2)))) - (own_f q1 q2)) + (1 : Int64))), .second, .val (.long (((own_l q1 q2) - (((own_f q1 q2) + ((q3 &&& (9223372036854775807 : Int64)) - ((q3 &&& (9223372036854775807 : Int64)) / ((own_l q1 q2) - (own_f q1 q2))) * ((own_l q1 q2) - (own_f q1 q2)))) + (1 : Int64))) + (1 : Int64))), .second] [])) ?_ (fun t k => XS.ifNo X17.here hx rfl (hb hby at_160) rfl ((if0 _ _).trans (feq (by decide : ¬ ((1 : Int32) = (0 : Int32)))).1) k)
    refine Gen.on (b := T17.setTop (mkF m 165 #[.val (.long q1), .second, .val (.long q2), .second, .val (.long q3), .second, .val (.long (own_x q1)), .second, .val (.long (own_x q2)), .second, .val (.long (own_f q1 q2)), .second, .val (.long (own_l q1 q2)), .second, .val (.long (((own_l q1 q2) - (own_f q1 q2)) + (1 : Int64))), .second, .val (.int (1 : Int32)), .val (.long ((own_f q1 q2) + ((q3 &&& (9223372036854775807 : Int64)) - ((q3 &&& (9223372036854775807 : Int64)) / ((own_l q1 q2) - (own_f q1 q2))) * ((own_l q1 q2) - (own_f q1 q2))))), .second, .val (.long ((((own_f q1 q2) + ((q3 &&& (9223372036854775807 : Int64)) - ((q3 &&& (9223372036854775807 : Int64)) / ((own_l q1 q2) - (own_f q1 q2))) * ((own_l q1 q2) - (own_f q1 q2)))) - (own_f q1 q2)) + (1 : Int64))), .second, .val (.long (((own_l q1 q2) - (((own_f q1 q2) + ((q3 &&& (9223372036854775807 : Int64)) - ((q3 &&& (9223372036854775807 : Int64)) / ((own_l q1 q2) - (own_f q1 q2))) * ((own_l q1 q2) - (own_f q1 q2)))) + (1 : Int64))) + (1 : Int64))), .second] [(.long ((((own_f q1 q2) + ((q3 &&& (9223372036854775807 : Int64)) - ((q3 &&& (9223372036854775807 : Int64)) / ((own_l q1 q2) - (own_f q1 q2))) * ((own_l q1 q2) - (own_f q1 q2)))) - (own_f q1 q2)) + (1 : Int64)))])) ?_ (fun t k => XS.lload X17.here hx rfl (hb hby at_163) rfl k)
    refine Gen.on (b := T17.setTop (mkF m 167 #[.val (.long q1), .second, .val (.long q2), .second, .val (.long q3), .second, .val (.long (own_x q1)), .second, .val (.long (own_x q2)), .second, .val (.long (own_f q1 q2)), .second, .val (.long (own_l q1 q2)), .second, .val (.long (((own_l q1 q2) - (own_f q1 q2)) + (1 : Int64))), .second, .val (.int (1 : Int32)), .val (.long ((own_f q1 q2) + ((q3 &&& (9223372036854775807 : Int64)) - ((q3 &&& (9223372036854775807 : Int64)) / ((own_l q1 q2) - (own_f q1 q2))) * ((own_l q1 q2) - (own_f q1 q2))))), .second, .val (.long ((((own_f q1 q2) + ((q3 &&& (9223372036854775807 : Int64)) - ((q3 &&& (9223372036854775807 : Int64)) / ((own_l q1 q2) - (own_f q1 q2))) * ((own_l q1 q2) - (own_f q1 q2)))) - (own_f q1 q2)) + (1 : Int64))), .second, .val (.long (((own_l q1 q2) - (((own_f q1 q2) + ((q3 &&& (9223372036854775807 : Int64)) - ((q3 &&& (9223372036854775807 : Int64)) / ((own_l q1 q2) - (own_f q1 q2))) * ((own_l q1 q2) - (own_f q1 q2)))) + (1 : Int64))) + (1 : Int64))), .second] [(.long (((own_l q1 q2) - (((own_f q1 q2) + ((q3 &&& (9223372036854775807 : Int64)) - ((q3 &&& (9223372036854775807 : Int64)) / ((own_l q1 q2) - (own_f q1 q2))) * ((own_l q1 q2) - (own_f q1 q2)))) + (1 : Int64))) + (1 : Int64))), (.long ((((own_f q1 q2) + ((q3 &&& (9223372036854775807 : Int64)) - ((q3 &&& (9223372036854775807 : Int64)) / ((own_l q1 q2) - (own_f q1 q2))) * ((own_l q1 q2) - (own_f q1 q2)))) - (own_f q1 q2)) + (1 : Int64)))])) ?_ (fun t k => XS.lload X17.here hx rfl (hb hby at_165) rfl k)
    refine Gen.on (b := T17.setTop (mkF m 168 #[.val (.long q1), .second, .val (.long q2), .second, .val (.long q3), .second, .val (.long (own_x q1)), .second, .val (.long (own_x q2)), .second, .val (.long (own_f q1 q2)), .second, .val (.long (own_l q1 q2)), .second, .val (.long (((own_l q1 q2) - (own_f q1 q2)) + (1 : Int64))), .second, .val (.int (1 : Int32)), .val (.long ((own_f q1 q2) + ((q3 &&& (9223372036854775807 : Int64)) - ((q3 &&& (9223372036854775807 : Int64)) / ((own_l q1 q2) - (own_f q1 q2))) * ((own_l q1 q2) - (own_f q1 q2))))), .second, .val (.long ((((own_f q1 q2) + ((q3 &&& (9223372036854775807 : Int64)) - ((q3 &&& (9223372036854775807 : Int64)) / ((own_l q1 q2) - (own_f q1 q2))) * ((own_l q1 q2) - (own_f q1 q2)))) - (own_f q1 q2)) + (1 : Int64))), .second, .val (.long (((own_l q1 q2) - (((own_f q1 q2) + ((q3 &&& (9223372036854775807 : Int64)) - ((q3 &&& (9223372036854775807 : Int64)) / ((own_l q1 q2) - (own_f q1 q2))) * ((own_l q1 q2) - (own_f q1 q2)))) + (1 : Int64))) + (1 : Int64))), .second] [(.long (((((own_f q1 q2) + ((q3 &&& (9223372036854775807 : Int64)) - ((q3 &&& (9223372036854775807 : Int64)) / ((own_l q1 q2) - (own_f q1 q2))) * ((own_l q1 q2) - (own_f q1 q2)))) - (own_f q1 q2)) + (1 : Int64)) + (((own_l q1 q2) - (((own_f q1 q2) + ((q3 &&& (9223372036854775807 : Int64)) - ((q3 &&& (9223372036854775807 : Int64)) / ((own_l q1 q2) - (own_f q1 q2))) * ((own_l q1 q2) - (own_f q1 q2)))) + (1 : Int64))) + (1 : Int64))))])) ?_ (fun t k => XS.ladd X17.here hx rfl (hb hby at_167) rfl k)
    refine Gen.on (b := T17.setTop (mkF m 170 #[.val (.long q1), .second, .val (.long q2), .second, .val (.long q3), .second, .val (.long (own_x q1)), .second, .val (.long (own_x q2)), .second, .val (.long (own_f q1 q2)), .second, .val (.long (own_l q1 q2)), .second, .val (.long (((own_l q1 q2) - (own_f q1 q2)) + (1 : Int64))), .second, .val (.int (1 : Int32)), .val (.long ((own_f q1 q2) + ((q3 &&& (9223372036854775807 : Int64)) - ((q3 &&& (9223372036854775807 : Int64)) / ((own_l q1 q2) - (own_f q1 q2))) * ((own_l q1 q2) - (own_f q1 q2))))), .second, .val (.long ((((own_f q1 q2) + ((q3 &&& (9223372036854775807 : Int64)) - ((q3 &&& (9223372036854775807 : Int64)) / ((own_l q1 q2) - (own_f q1 q2))) * ((own_l q1 q2) - (own_f q1 q2)))) - (own_f q1 q2)) + (1 : Int64))), .second, .val (.long (((own_l q1 q2) - (((own_f q1 q2) + ((q3 &&& (9223372036854775807 : Int64)) - ((q3 &&& (9223372036854775807 : Int64)) / ((own_l q1 q2) - (own_f q1 q2))) * ((own_l q1 q2) - (own_f q1 q2)))) + (1 : Int64))) + (1 : Int64))), .second] [(.long (((own_l q1 q2) - (own_f q1 q2)) + (1 : Int64))), (.long (((((own_f q1 q2) + ((q3 &&& (9223372036854775807 : Int64)) - ((q3 &&& (9223372036854775807 : Int64)) / ((own_l q1 q2) - (own_f q1 q2))) * ((own_l q1 q2) - (own_f q1 q2)))) - (own_f q1 q2)) + (1 : Int64)) + (((own_l q1 q2) - (((own_f q1 q2) + ((q3 &&& (9223372036854775807 : Int64)) - ((q3 &&& (9223372036854775807 : Int64)) / ((own_l q1 q2) - (own_f q1 q2))) * ((own_l q1 q2) - (own_f q1 q2)))) + (1 : Int64))) + (1 : Int64))))])) ?_ (fun t k => XS.lload X17.here hx rfl (hb hby at_168) rfl k)
    refine Gen.on (b := T17.setTop (mkF m 171 #[.val (.long q1), .second, .val (.long q2), .second, .val (.long q3), .second, .val (.long (own_x q1)), .second, .val (.long (own_x q2)), .second, .val (.long (own_f q1 q2)), .second, .val (.long (own_l q1 q2)), .second, .val (.long (((own_l q1 q2) - (own_f q1 q2)) + (1 : Int64))), .second, .val (.int (1 : Int32)), .val (.long ((own_f q1 q2) + ((q3 &&& (9223372036854775807 : Int64)) - ((q3 &&& (9223372036854775807 : Int64)) / ((own_l q1 q2) - (own_f q1 q2))) * ((own_l q1 q2) - (own_f q1 q2))))), .second, .val (.long ((((own_f q1 q2) + ((q3 &&& (9223372036854775807 : Int64)) - ((q3 &&& (9223372036854775807 : Int64)) / ((own_l q1 q2) - (own_f q1 q2))) * ((own_l q1 q2) - (own_f q1 q2)))) - (own_f q1 q2)) + (1 : Int64))), .second, .val (.long (((own_l q1 q2) - (((own_f q1 q2) + ((q3 &&& (9223372036854775807 : Int64)) - ((q3 &&& (9223372036854775807 : Int64)) / ((own_l q1 q2) - (own_f q1 q2))) * ((own_l q1 q2) - (own_f q1 q2)))) + (1 : Int64))) + (1 : Int64))), .second] [(.int (lcmpW (((((own_f q1 q2) + ((q3 &&& (9223372036854775807 : Int64)) - ((q3 &&& (9223372036854775807 : Int64)) / ((own_l q1 q2) - (own_f q1 q2))) * ((own_l q1 q2) - (own_f q1 q2)))) - (own_f q1 q2)) + (1 : Int64)) + (((own_l q1 q2) - (((own_f q1 q2) + ((q3 &&& (9223372036854775807 : Int64)) - ((q3 &&& (9223372036854775807 : Int64)) / ((own_l q1 q2) - (own_f q1 q2))) * ((own_l q1 q2) - (own_f q1 q2)))) + (1 : Int64))) + (1 : Int64))) (((own_l q1 q2) - (own_f q1 q2)) + (1 : Int64))))])) ?_ (fun t k => XS.lcmp X17.here hx rfl (hb hby at_170) rfl k)
    refine Gen.on (b := T17.setTop (mkF m 174 #[.val (.long q1), .second, .val (.long q2), .second, .val (.long q3), .second, .val (.long (own_x q1)), .second, .val (.long (own_x q2)), .second, .val (.long (own_f q1 q2)), .second, .val (.long (own_l q1 q2)), .second, .val (.long (((own_l q1 q2) - (own_f q1 q2)) + (1 : Int64))), .second, .val (.int (1 : Int32)), .val (.long ((own_f q1 q2) + ((q3 &&& (9223372036854775807 : Int64)) - ((q3 &&& (9223372036854775807 : Int64)) / ((own_l q1 q2) - (own_f q1 q2))) * ((own_l q1 q2) - (own_f q1 q2))))), .second, .val (.long ((((own_f q1 q2) + ((q3 &&& (9223372036854775807 : Int64)) - ((q3 &&& (9223372036854775807 : Int64)) / ((own_l q1 q2) - (own_f q1 q2))) * ((own_l q1 q2) - (own_f q1 q2)))) - (own_f q1 q2)) + (1 : Int64))), .second, .val (.long (((own_l q1 q2) - (((own_f q1 q2) + ((q3 &&& (9223372036854775807 : Int64)) - ((q3 &&& (9223372036854775807 : Int64)) / ((own_l q1 q2) - (own_f q1 q2))) * ((own_l q1 q2) - (own_f q1 q2)))) + (1 : Int64))) + (1 : Int64))), .second] [])) ?_ (fun t k => XS.ifNo X17.here hx rfl (hb hby at_171) rfl (own_eq1 (own_c171 _ _ _)).2 k)
    refine Gen.on (b := T17.setTop (mkF m 175 #[.val (.long q1), .second, .val (.long q2), .second, .val (.long q3), .second, .val (.long (own_x q1)), .second, .val (.long (own_x q2)), .second, .val (.long (own_f q1 q2)), .second, .val (.long (own_l q1 q2)), .second, .val (.long (((own_l q1 q2) - (own_f q1 q2)) + (1 : Int64))), .second, .val (.int (1 : Int32)), .val (.long ((own_f q1 q2) + ((q3 &&& (9223372036854775807 : Int64)) - ((q3 &&& (9223372036854775807 : Int64)) / ((own_l q1 q2) - (own_f q1 q2))) * ((own_l q1 q2) - (own_f q1 q2))))), .second, .val (.long ((((own_f q1 q2) + ((q3 &&& (9223372036854775807 : Int64)) - ((q3 &&& (9223372036854775807 : Int64)) / ((own_l q1 q2) - (own_f q1 q2))) * ((own_l q1 q2) - (own_f q1 q2)))) - (own_f q1 q2)) + (1 : Int64))), .second, .val (.long (((own_l q1 q2) - (((own_f q1 q2) + ((q3 &&& (9223372036854775807 : Int64)) - ((q3 &&& (9223372036854775807 : Int64)) / ((own_l q1 q2) - (own_f q1 q2))) * ((own_l q1 q2) - (own_f q1 q2)))) + (1 : Int64))) + (1 : Int64))), .second] [(.int (1 : Int32))])) ?_ (fun t k => XS.iconst X17.here hx rfl (hb hby at_174) k)
    refine Gen.on (b := T17.setTop (mkF m 179 #[.val (.long q1), .second, .val (.long q2), .second, .val (.long q3), .second, .val (.long (own_x q1)), .second, .val (.long (own_x q2)), .second, .val (.long (own_f q1 q2)), .second, .val (.long (own_l q1 q2)), .second, .val (.long (((own_l q1 q2) - (own_f q1 q2)) + (1 : Int64))), .second, .val (.int (1 : Int32)), .val (.long ((own_f q1 q2) + ((q3 &&& (9223372036854775807 : Int64)) - ((q3 &&& (9223372036854775807 : Int64)) / ((own_l q1 q2) - (own_f q1 q2))) * ((own_l q1 q2) - (own_f q1 q2))))), .second, .val (.long ((((own_f q1 q2) + ((q3 &&& (9223372036854775807 : Int64)) - ((q3 &&& (9223372036854775807 : Int64)) / ((own_l q1 q2) - (own_f q1 q2))) * ((own_l q1 q2) - (own_f q1 q2)))) - (own_f q1 q2)) + (1 : Int64))), .second, .val (.long (((own_l q1 q2) - (((own_f q1 q2) + ((q3 &&& (9223372036854775807 : Int64)) - ((q3 &&& (9223372036854775807 : Int64)) / ((own_l q1 q2) - (own_f q1 q2))) * ((own_l q1 q2) - (own_f q1 q2)))) + (1 : Int64))) + (1 : Int64))), .second] [(.int (1 : Int32))])) ?_ (fun t k => XS.goto X17.here hx rfl (pc0 := 175) (pc' := 179) rfl (hb hby at_175) (by decide) (by decide) k)
    refine Gen.on (b := T17.setTop (mkF m 181 #[.val (.long q1), .second, .val (.long q2), .second, .val (.long q3), .second, .val (.long (own_x q1)), .second, .val (.long (own_x q2)), .second, .val (.long (own_f q1 q2)), .second, .val (.long (own_l q1 q2)), .second, .val (.long (((own_l q1 q2) - (own_f q1 q2)) + (1 : Int64))), .second, .val (.int (1 : Int32)), .val (.long ((own_f q1 q2) + ((q3 &&& (9223372036854775807 : Int64)) - ((q3 &&& (9223372036854775807 : Int64)) / ((own_l q1 q2) - (own_f q1 q2))) * ((own_l q1 q2) - (own_f q1 q2))))), .second, .val (.long ((((own_f q1 q2) + ((q3 &&& (9223372036854775807 : Int64)) - ((q3 &&& (9223372036854775807 : Int64)) / ((own_l q1 q2) - (own_f q1 q2))) * ((own_l q1 q2) - (own_f q1 q2)))) - (own_f q1 q2)) + (1 : Int64))), .second, .val (.long (((own_l q1 q2) - (((own_f q1 q2) + ((q3 &&& (9223372036854775807 : Int64)) - ((q3 &&& (9223372036854775807 : Int64)) / ((own_l q1 q2) - (own_f q1 q2))) * ((own_l q1 q2) - (own_f q1 q2)))) + (1 : Int64))) + (1 : Int64))), .second] [])) ?_ (fun t k => XS.istore X17.here hx rfl (hb hby at_179) rfl (l' := #[.val (.long q1), .second, .val (.long q2), .second, .val (.long q3), .second, .val (.long (own_x q1)), .second, .val (.long (own_x q2)), .second, .val (.long (own_f q1 q2)), .second, .val (.long (own_l q1 q2)), .second, .val (.long (((own_l q1 q2) - (own_f q1 q2)) + (1 : Int64))), .second, .val (.int (1 : Int32)), .val (.long ((own_f q1 q2) + ((q3 &&& (9223372036854775807 : Int64)) - ((q3 &&& (9223372036854775807 : Int64)) / ((own_l q1 q2) - (own_f q1 q2))) * ((own_l q1 q2) - (own_f q1 q2))))), .second, .val (.long ((((own_f q1 q2) + ((q3 &&& (9223372036854775807 : Int64)) - ((q3 &&& (9223372036854775807 : Int64)) / ((own_l q1 q2) - (own_f q1 q2))) * ((own_l q1 q2) - (own_f q1 q2)))) - (own_f q1 q2)) + (1 : Int64))), .second, .val (.long (((own_l q1 q2) - (((own_f q1 q2) + ((q3 &&& (9223372036854775807 : Int64)) - ((q3 &&& (9223372036854775807 : Int64)) / ((own_l q1 q2) - (own_f q1 q2))) * ((own_l q1 q2) - (own_f q1 q2)))) + (1 : Int64))) + (1 : Int64))), .second]) rfl k)
    refine Gen.on (b := T17.setTop (mkF m 183 #[.val (.long q1), .second, .val (.long q2), .second, .val (.long q3), .second, .val (.long (own_x q1)), .second, .val (.long (own_x q2)), .second, .val (.long (own_f q1 q2)), .second, .val (.long (own_l q1 q2)), .second, .val (.long (((own_l q1 q2) - (own_f q1 q2)) + (1 : Int64))), .second, .val (.int (1 : Int32)), .val (.long ((own_f q1 q2) + ((q3 &&& (9223372036854775807 : Int64)) - ((q3 &&& (9223372036854775807 : Int64)) / ((own_l q1 q2) - (own_f q1 q2))) * ((own_l q1 q2) - (own_f q1 q2))))), .second, .val (.long ((((own_f q1 q2) + ((q3 &&& (9223372036854775807 : Int64)) - ((q3 &&& (9223372036854775807 : Int64)) / ((own_l q1 q2) - (own_f q1 q2))) * ((own_l q1 q2) - (own_f q1 q2)))) - (own_f q1 q2)) + (1 : Int64))), .second, .val (.long (((own_l q1 q2) - (((own_f q1 q2) + ((q3 &&& (9223372036854775807 : Int64)) - ((q3 &&& (9223372036854775807 : Int64)) / ((own_l q1 q2) - (own_f q1 q2))) * ((own_l q1 q2) - (own_f q1 q2)))) + (1 : Int64))) + (1 : Int64))), .second] [(.int (1 : Int32))])) ?_ (fun t k => XS.iload X17.here hx rfl (hb hby at_181) rfl k)
    refine own_retN (t := .boolean) X17 hx Bd.returns (by simp) (by decide) (hb hby at_183) (by decide) (by decide) ?_
    exact ⟨rfl, N17⟩
  · refine Gen.on (b := T8.setTop (mkF m 181 #[.val (.long q1), .second, .val (.long q2), .second, .val (.long q3), .second, .val (.long (own_x q1)), .second, .val (.long (own_x q2)), .second, .val (.long (own_f q1 q2)), .second, .val (.long (own_l q1 q2)), .second, .val (.long (((own_l q1 q2) - (own_f q1 q2)) + (1 : Int64))), .second, .val (.int (1 : Int32)), .unset, .unset, .unset, .unset, .unset, .unset] [])) ?_ (fun t k => XS.ifYes X8.here hx rfl (pc0 := 104) (pc' := 181) rfl (hb hby at_104) rfl (own_gt0 c104_1).2 (by decide) (by decide) k)
    refine Gen.on (b := T8.setTop (mkF m 183 #[.val (.long q1), .second, .val (.long q2), .second, .val (.long q3), .second, .val (.long (own_x q1)), .second, .val (.long (own_x q2)), .second, .val (.long (own_f q1 q2)), .second, .val (.long (own_l q1 q2)), .second, .val (.long (((own_l q1 q2) - (own_f q1 q2)) + (1 : Int64))), .second, .val (.int (1 : Int32)), .unset, .unset, .unset, .unset, .unset, .unset] [(.int (1 : Int32))])) ?_ (fun t k => XS.iload X8.here hx rfl (hb hby at_181) rfl k)
    refine own_retN (t := .boolean) X8 hx Bd.returns (by simp) (by decide) (hb hby at_183) (by decide) (by decide) ?_
    exact ⟨rfl, N8⟩
set_option maxRecDepth 65536 in
set_option maxHeartbeats 40000000 in
theorem comes_1 {Post : Tables → Env → Array Value → State → Outcome → State → Prop} (hpost : ∀ tb e args s v u, (limb_1_1.after args s (.returned v) u = true ∧ limb_1_2.after args s (.returned v) u = true ∧ True) → FrameEnd s (.returned v) u (Jvm.fieldLocs frame_1_writes args s ++ Jvm.arrayLocs frame_1_arrays args s ++ Jvm.staticLocs frame_1_statics s) 16 128 → Post tb e args s (.returned v) u) :
    ArmFor flags0 classFile x code maxLocals ret World_1 tables_1 room_1 Calls_1 rest_1 Pre_1 Post := by
  intro l hfl _ _ p e ha hc hk s m args below hf hA hF happ hP
  obtain ⟨hcalls, hrest, hpre⟩ := hP
  obtain ⟨-, -, -, hnamed, -, -, -, hat⟩ := (Spec.applies_iff hf).mp happ
  obtain ⟨hg, hn⟩ := and_e (Cond.before_iff.mp (show (Jvm.Cond.and given_1 narrow_1).before args s = true from hpre))
  obtain ⟨hcount, hr1⟩ := and_e hg
  obtain ⟨ha0, hr2⟩ := and_e hr1
  obtain ⟨ha1, hr3⟩ := and_e hr2
  obtain ⟨w0, w1, w2, rfl⟩ : ∃ w0 w1 w2 : Value, args = #[w0, w1, w2] := by
    have hs : args.size = 3 := by simpa [Cond.value, given_1] using hcount
    obtain ⟨L⟩ := args
    match L, hs with
    | [w0, w1, w2], _ => exact ⟨w0, w1, w2, rfl⟩
  have hw := fun d (hd : d ∈ tables_1) => atoms_spec (ws := Jvm.Cond.code x code maxLocals ret :: tables_1) hat d (List.mem_cons_of_mem _ hd)
  have hfit : Fit s := fun {y c} hc i hi => by
    obtain ⟨ha, rfl⟩ := Array.getElem?_eq_some_iff.mp hc
    have q := List.all_eq_true.mp ((Array.all_eq_true_iff_forall_mem.mp hF) _ (Array.getElem_mem ha)) i (List.mem_range.mpr hi)
    simpa [Array.getElem?_eq_getElem hi] using q
  obtain ⟨i0, ei0⟩ := isL_v ha0
  obtain rfl : w0 = (.long i0) := Option.some.inj ei0
  obtain ⟨i1, ei1⟩ := isL_v ha1
  obtain rfl : w1 = (.long i1) := Option.some.inj ei1
  obtain ⟨i2, ei2⟩ := isL_v hr3
  obtain rfl : w2 = (.long i2) := Option.some.inj ei2
  obtain ⟨n, o, h1, h2, h3, _, L, rfl, ⟨rfl, N⟩, hq⟩ := rm0 l s _ hw tables_1 i0 i1 i2 s.heap s.heap.size (Nat.le_refl _)  p e ha hc hk s m _ below hf ((Spec.applies_iff_loose hf).mp happ).1 ⟨rfl, State.Warmed39.refl s, rfl⟩ trivial
  refine ⟨n, _, h1, h2, h3, hpost _ _ _ _ _ _ ⟨Cond.after_iff.mpr rfl, Cond.after_iff.mpr (eq_i res_at (Term.int_eval (1)) rfl), trivial⟩ ⟨hq.1, hq.2.1, (hq.2.2.sift fun y hy => Or.inr (N y hy)).mono (by decide) (by decide)⟩⟩
theorem main_1_1 : Claimed_1_1 := comes_1 fun _ _ _ _ _ _ h hF => ⟨h.1, hF⟩
theorem main_1_2 : Claimed_1_2 := comes_1 fun _ _ _ _ _ _ h hF => ⟨h.2.1, hF⟩
end Jvm.Pilot.@@N@@
namespace Jvm.Pilot.@@N@@
open Jvm Jvm.ClassFile Sem Op Lib Jvm.Free Jvm.Stand Jvm.Pilot.@@N@@.Jvm.D
/-! MADE BY PROGRAM (witnessworld.py) out of the Statement's table words and the real class files: 11 classes; the members and pool entries that the words name. The judged class is class 1, her method 1. -/
namespace start1
open Jvm.ClassFile
def u (s : String) : CpInfo := .utf8 (stringToUtf16 s)
/-- a pool by its gaps: so many unusable entries, then the entry; so many at the end -/
def gap : Nat → List CpInfo → List CpInfo
  | 0, r => r
  | n + 1, r => .unusable :: gap n r
def poolList (es : List (Nat × CpInfo)) (last : Nat) : List CpInfo := es.foldr (fun e r => gap e.1 (e.2 :: r)) (gap last [])
def pool (es : List (Nat × CpInfo)) (last : Nat) : Array CpInfo := ⟨poolList es last⟩
def fileOf (pool : Array CpInfo) (this : Nat) (attrs : Array Attribute := #[]) (ms : Array MethodInfo := #[]) (fl : Nat := 33) (sup : Nat := 0) (ifs : Array Nat := #[]) (fds : Array FieldInfo := #[]) : ClassFile where
  minorVersion := 0
  majorVersion := 65
  constantPool := pool
  accessFlags := fl
  thisClass := this
  superClass := sup
  interfaces := ifs
  fields := fds
  methods := ms
  attributes := attrs
def plain (name : String) (sup : Option ClassId) : Class where
  name := name
  kind := .ordinary
  loader := none
  accessFlags := 33
  super := sup
  interfaces := #[]
  cf := none
  fields := #[]
  methods := #[]
  instanceTypes := #[]
  staticTypes := #[]
  resolved := #[]
  callSites := []
  init := .initialized
  statics := none
  mirror := none

def pool0 : Array CpInfo := pool [(5, u "<init>"), (0, u "()V"), (1, .class_ 10), (1, u "java/lang/Object")] 113

def k0c0 : Code := { maxStack := 0, maxLocals := 1, code := object_method_1_code, exceptionTable := #[], attributes := #[] }
def k0m0 : Method := { name := "<init>", desc := "()V", sig := { parameters := [], returnType := none }, accessFlags := 1, code := some k0c0 }
/-- java/lang/Object -/
def k0 : Class := { plain "java/lang/Object" none with
  accessFlags := 33
  interfaces := #[]
  cf := some (fileOf pool0 8 #[] #[{ accessFlags := 1, nameIndex := 5, descriptorIndex := 6, attributes := #[] }] 33 0 #[] #[])
  fields := #[]
  methods := #[k0m0]
  instanceTypes := #[]
  staticTypes := #[]
  resolved := Array.replicate 124 none
  statics := none }

def pool1 : Array CpInfo := pool [(2, .class_ 4), (1, u "java/lang/Object"), (0, u "<init>"), (0, u "()V"), (2, .long 9223372036854775807), (1, .methodref 12 13), (0, .class_ 14), (0, .nameAndType 15 16), (0, u "java/lang/Math"), (0, u "min"), (0, u "(JJ)J"), (0, .methodref 12 18), (0, .nameAndType 19 16), (0, u "max"), (0, .class_ 21), (0, u "com/example/bandwarden/bandwarden/server/ByteRange"), (0, .methodref 20 23), (0, .nameAndType 5 24), (0, u "(JJ)V"), (0, .methodref 20 26), (0, .nameAndType 27 28), (0, u "length"), (0, u "()J"), (0, .class_ 30), (0, u "com/example/bandwarden/bandwarden/server/ByteRangeLengthPinLaw"), (2, u "law"), (0, u "(JJJ)Z")] 3

def k1m0 : Method := { name := "<init>", desc := "()V", sig := { parameters := [], returnType := none }, accessFlags := 1, code := none }
def k1c1 : Code := { maxStack := 8, maxLocals := 23, code := code, exceptionTable := #[], attributes := #[] }
def k1m1 : Method := { name := "law", desc := "(JJJ)Z", sig := { parameters := [.long, .long, .long], returnType := some .boolean }, accessFlags := 9, code := some k1c1 }
/-- com/example/bandwarden/bandwarden/server/ByteRangeLengthPinLaw -/
def k1 : Class := { plain "com/example/bandwarden/bandwarden/server/ByteRangeLengthPinLaw" (some 0) with
  accessFlags := 49
  interfaces := #[]
  cf := some (fileOf pool1 29 #[] #[{ accessFlags := 1, nameIndex := 5, descriptorIndex := 6, attributes := #[] }, { accessFlags := 9, nameIndex := 33, descriptorIndex := 34, attributes := #[] }] 49 2 #[] #[])
  fields := #[]
  methods := #[k1m0, k1m1]
  instanceTypes := #[]
  staticTypes := #[]
  resolved := Array.replicate 38 none
  statics := none }

def pool2 : Array CpInfo := pool [(1, .class_ 2), (0, u "java/lang/Math"), (1, .class_ 6), (1, u "java/lang/Object"), (0, u "<init>"), (0, u "()V"), (89, .class_ 100), (1, u "java/lang/Math$RandomNumberGeneratorHolder"), (20, u "(JJ)J"), (50, u "negativeZeroFloatBits"), (0, u "J"), (2, u "negativeZeroDoubleBits"), (21, u "max"), (2, u "min"), (43, u "$assertionsDisabled"), (0, u "Z"), (91, u "twoToTheDoubleScaleDown"), (0, u "D"), (4, u "twoToTheDoubleScaleUp"), (9, u "E"), (3, u "PI"), (2, u "TAU"), (2, u "DEGREES_TO_RADIANS"), (0, u "RADIANS_TO_DEGREES")] 94

def k2m0 : Method := { name := "<init>", desc := "()V", sig := { parameters := [], returnType := none }, accessFlags := 2, code := none }
def k2c1 : Code := { maxStack := 4, maxLocals := 4, code := jdk_29_method_66_code, exceptionTable := #[], attributes := #[] }
def k2m1 : Method := { name := "max", desc := "(JJ)J", sig := { parameters := [.long, .long], returnType := some .long }, accessFlags := 9, code := some k2c1 }
def k2c2 : Code := { maxStack := 4, maxLocals := 4, code := jdk_29_method_70_code, exceptionTable := #[], attributes := #[] }
def k2m2 : Method := { name := "min", desc := "(JJ)J", sig := { parameters := [.long, .long], returnType := some .long }, accessFlags := 9, code := some k2c2 }
/-- java/lang/Math -/
def k2 : Class := { plain "java/lang/Math" (some 0) with
  accessFlags := 49
  interfaces := #[]
  cf := some (fileOf pool2 1 #[.nestMembers #[98]] #[{ accessFlags := 2, nameIndex := 7, descriptorIndex := 8, attributes := #[] }, { accessFlags := 9, nameIndex := 198, descriptorIndex := 121, attributes := #[] }, { accessFlags := 9, nameIndex := 201, descriptorIndex := 121, attributes := #[] }] 49 4 #[] #[{ accessFlags := 25, nameIndex := 354, descriptorIndex := 339, attributes := #[] }, { accessFlags := 25, nameIndex := 358, descriptorIndex := 339, attributes := #[] }, { accessFlags := 25, nameIndex := 361, descriptorIndex := 339, attributes := #[] }, { accessFlags := 26, nameIndex := 364, descriptorIndex := 339, attributes := #[] }, { accessFlags := 26, nameIndex := 365, descriptorIndex := 339, attributes := #[] }, { accessFlags := 26, nameIndex := 172, descriptorIndex := 173, attributes := #[] }, { accessFlags := 26, nameIndex := 176, descriptorIndex := 173, attributes := #[] }, { accessFlags := 8, nameIndex := 344, descriptorIndex := 339, attributes := #[] }, { accessFlags := 8, nameIndex := 338, descriptorIndex := 339, attributes := #[] }, { accessFlags := 4120, nameIndex := 245, descriptorIndex := 246, attributes := #[] }])
  fields := #[{ name := "E", type := .double, accessFlags := 25, slot := 0, constantValue := 0 }, { name := "PI", type := .double, accessFlags := 25, slot := 1, constantValue := 0 }, { name := "TAU", type := .double, accessFlags := 25, slot := 2, constantValue := 0 }, { name := "DEGREES_TO_RADIANS", type := .double, accessFlags := 26, slot := 3, constantValue := 0 }, { name := "RADIANS_TO_DEGREES", type := .double, accessFlags := 26, slot := 4, constantValue := 0 }, { name := "negativeZeroFloatBits", type := .long, accessFlags := 26, slot := 5, constantValue := 0 }, { name := "negativeZeroDoubleBits", type := .long, accessFlags := 26, slot := 6, constantValue := 0 }, { name := "twoToTheDoubleScaleUp", type := .double, accessFlags := 8, slot := 7, constantValue := 0 }, { name := "twoToTheDoubleScaleDown", type := .double, accessFlags := 8, slot := 8, constantValue := 0 }, { name := "$assertionsDisabled", type := .boolean, accessFlags := 4120, slot := 9, constantValue := 0 }]
  methods := #[k2m0, k2m1, k2m2]
  instanceTypes := #[]
  staticTypes := #[.double, .double, .double, .double, .double, .long, .long, .double, .double, .boolean]
  resolved := Array.replicate 460 none
  statics := none }

def pool3 : Array CpInfo := pool [(1, .methodref 2 3), (0, .class_ 4), (0, .nameAndType 5 6), (0, u "java/lang/Object"), (0, u "<init>"), (0, u "()V"), (0, .class_ 8), (0, u "java/lang/Record")] 13

def k3c0 : Code := { maxStack := 1, maxLocals := 1, code := jdk_30_method_1_code, exceptionTable := #[], attributes := #[] }
def k3m0 : Method := { name := "<init>", desc := "()V", sig := { parameters := [], returnType := none }, accessFlags := 4, code := some k3c0 }
/-- java/lang/Record -/
def k3 : Class := { plain "java/lang/Record" (some 0) with
  accessFlags := 1057
  interfaces := #[]
  cf := some (fileOf pool3 7 #[] #[{ accessFlags := 4, nameIndex := 5, descriptorIndex := 6, attributes := #[] }] 1057 2 #[] #[])
  fields := #[]
  methods := #[k3m0]
  instanceTypes := #[]
  staticTypes := #[]
  resolved := Array.replicate 22 none
  statics := none }

def pool4 : Array CpInfo := pool [(1, .methodref 2 3), (0, .class_ 4), (0, .nameAndType 5 6), (0, u "java/lang/Record"), (0, u "<init>"), (0, u "()V"), (0, .fieldref 8 9), (0, .class_ 10), (0, .nameAndType 11 12), (0, u "com/example/bandwarden/bandwarden/server/ByteRange"), (0, u "first"), (0, u "J"), (0, .fieldref 8 14), (0, .nameAndType 15 12), (0, u "last"), (2, u "SPEC"), (0, u "Ljava/util/regex/Pattern;"), (37, u "(JJ)V"), (2, u "UNSATISFIABLE"), (0, u "Lcom/example/bandwarden/bandwarden/server/ByteRange;"), (35, u "length"), (25, u "MAX_DIGITS"), (0, u "I"), (8, u "()J")] 31

def k4c0 : Code := { maxStack := 3, maxLocals := 5, code := prog_11_method_1_code, exceptionTable := #[], attributes := #[] }
def k4m0 : Method := { name := "<init>", desc := "(JJ)V", sig := { parameters := [.long, .long], returnType := none }, accessFlags := 0, code := some k4c0 }
def k4c1 : Code := { maxStack := 4, maxLocals := 1, code := prog_11_method_3_code, exceptionTable := #[], attributes := #[] }
def k4m1 : Method := { name := "length", desc := "()J", sig := { parameters := [], returnType := some .long }, accessFlags := 0, code := some k4c1 }
/-- com/example/bandwarden/bandwarden/server/ByteRange -/
def k4 : Class := { plain "com/example/bandwarden/bandwarden/server/ByteRange" (some 3) with
  accessFlags := 48
  interfaces := #[]
  cf := some (fileOf pool4 8 #[] #[{ accessFlags := 0, nameIndex := 5, descriptorIndex := 57, attributes := #[] }, { accessFlags := 0, nameIndex := 97, descriptorIndex := 133, attributes := #[] }] 48 2 #[] #[{ accessFlags := 18, nameIndex := 11, descriptorIndex := 12, attributes := #[] }, { accessFlags := 18, nameIndex := 15, descriptorIndex := 12, attributes := #[] }, { accessFlags := 24, nameIndex := 60, descriptorIndex := 61, attributes := #[] }, { accessFlags := 26, nameIndex := 18, descriptorIndex := 19, attributes := #[] }, { accessFlags := 26, nameIndex := 123, descriptorIndex := 124, attributes := #[] }])
  fields := #[{ name := "first", type := .long, accessFlags := 18, slot := 0, constantValue := 0 }, { name := "last", type := .long, accessFlags := 18, slot := 1, constantValue := 0 }, { name := "UNSATISFIABLE", type := (.object "com/example/bandwarden/bandwarden/server/ByteRange"), accessFlags := 24, slot := 0, constantValue := 0 }, { name := "SPEC", type := (.object "java/util/regex/Pattern"), accessFlags := 26, slot := 1, constantValue := 0 }, { name := "MAX_DIGITS", type := .int, accessFlags := 26, slot := 2, constantValue := 0 }]
  methods := #[k4m0, k4m1]
  instanceTypes := #[.long, .long]
  staticTypes := #[(.object "com/example/bandwarden/bandwarden/server/ByteRange"), (.object "java/util/regex/Pattern"), .int]
  resolved := Array.replicate 165 none
  statics := none }

def pool5 : Array CpInfo := pool [(1, u "java/lang/Cloneable"), (0, .class_ 1), (0, u "java/lang/Object"), (0, .class_ 3)] 3

/-- java/lang/Cloneable -/
def k5 : Class := { plain "java/lang/Cloneable" (some 0) with
  accessFlags := 1537
  interfaces := #[]
  cf := some (fileOf pool5 2 #[] #[] 1537 4 #[] #[])
  fields := #[]
  methods := #[]
  instanceTypes := #[]
  staticTypes := #[]
  resolved := Array.replicate 8 none
  statics := none }

def pool6 : Array CpInfo := pool [(1, u "java/io/Serializable"), (0, .class_ 1), (0, u "java/lang/Object"), (0, .class_ 3)] 3

/-- java/io/Serializable -/
def k6 : Class := { plain "java/io/Serializable" (some 0) with
  accessFlags := 1537
  interfaces := #[]
  cf := some (fileOf pool6 2 #[] #[] 1537 4 #[] #[])
  fields := #[]
  methods := #[]
  instanceTypes := #[]
  staticTypes := #[]
  resolved := Array.replicate 8 none
  statics := none }

/-- the primitive byte -/
def k7 : Class := { plain "byte" none with kind := .primitive 'B', accessFlags := 0x411 }
/-- [B -/
def k8 : Class := { plain "[B" (some 0) with kind := .array 7 .byte, interfaces := #[5, 6], accessFlags := 1041 }

/-- the primitive int -/
def k9 : Class := { plain "int" none with kind := .primitive 'I', accessFlags := 0x411 }
/-- [I -/
def k10 : Class := { plain "[I" (some 0) with kind := .array 9 .int, interfaces := #[5, 6], accessFlags := 1041 }

def heap : Heap := #[]
def classes : Array Class := #[k0, k1, k2, k3, k4, k5, k6, k7, k8, k9, k10]
def interned : List (Array UInt16 × Addr) := []
def slotsUsed : Nat := 0
def theMethod : MethodId := ⟨1, 1⟩
def args0 : Array Value := #[.long 5, .long 7, .long 9]
def aboutOver (below : List Frame) : State where
  vm := { classes := classes, interned := interned.toArray }
  heap := heap
  slotsUsed := slotsUsed
  threads := #[{ frames := .invoking theMethod args0 :: below }]
def below0 : List Frame := [.native { method := ⟨0, 0⟩, args := #[] }]
def about1 : State := aboutOver below0
def p0 : Program := .bare "" "" ""
def e0 : Env := launch0.env 0 0 0
theorem w_frames : about1.frames = Frame.invoking theMethod args0 :: below0 := rfl
set_option maxRecDepth 65536 in
theorem w_args : argsFit about1.vm theMethod args0 = true := by decide +kernel
set_option maxRecDepth 65536 in
theorem w_heap : heapFits about1 = true := by decide +kernel
set_option maxRecDepth 65536 in
theorem w_runnable : about1.curStatus? = some .runnable := by decide +kernel
set_option maxRecDepth 65536 in
theorem w_alone : about1.alone = true := by decide +kernel
set_option maxRecDepth 65536 in
theorem w_named : about1.methodNamed? x = some theMethod := by decide +kernel
set_option maxRecDepth 65536 in
theorem w_hears : about1.hears theMethod below0 = true := by decide +kernel
set_option maxRecDepth 65536 in
theorem w_ripe : about1.ripe theMethod args0 below0 = true := by decide +kernel
theorem w_running : about1.status = .running := rfl
set_option maxRecDepth 65536 in
theorem w_room : about1.hasRoom e0.platform room_1 = true :=
  launch0.hasRoom_least _ room_1 (by decide +kernel) (by decide +kernel) (by decide +kernel) (by decide +kernel) (by decide +kernel) (by decide +kernel)
theorem allAtoms_all (ts : List Jvm.Cond) (a : Array Jvm.Value) (st : Jvm.State) : (allAtoms ts).before a st = ts.all (fun c => c.before a st) := by
  induction ts with
  | nil => rfl
  | cons c t ih =>
    show (Jvm.Cond.and c (allAtoms t)).before a st = _
    rw [Jvm.Cond.before_and, ih, List.all_cons]
def words1 : List Jvm.Cond := Jvm.Cond.code x code maxLocals ret :: tables_1
/-- a 'code' word, met by the world's own term for the bytes: nothing is compared byte by byte -/
theorem code_word {y : MethodName} {bytes : ByteArray} {mx : Nat} {rt : Option FieldType} {a : Array Value} {s : State} {m : MethodId} {meth : Method} {c : Code} (h1 : s.methodNamed? y = some m) (h2 : s.vm.method? m = some meth) (h3 : meth.code = some c) (h4 : c.code = bytes)
    (h5 : (c.maxLocals == mx && c.exceptionTable.isEmpty && decide (c.maxStack ≤ mostOperands) && decide (meth.sig.returnType = rt) && !meth.locks && decide (parseMethodDescriptor y.desc = some meth.sig)) = true) : (Jvm.Cond.code y bytes mx rt).before a s = true := by
  simp only [Bool.and_eq_true, beq_iff_eq, Bool.not_eq_true', decide_eq_true_eq] at h5
  obtain ⟨⟨⟨⟨⟨g1, g2⟩, g3⟩, g4⟩, g5⟩, g6⟩ := h5
  simp [Cond.before, Cond.holds, Cond.value, h1, h2, h3, h4, g1, g2, g3, g4, g5, g6]
def isCode : Jvm.Cond → Bool
  | .code _ _ _ _ => true
  | _ => false
theorem all_split {L : List Jvm.Cond} {P : Jvm.Cond → Bool} (h1 : L.all (fun c => isCode c || P c) = true) (h2 : ∀ c ∈ L.filter isCode, P c = true) : L.all P = true := by
  refine List.all_eq_true.mpr fun c hc => ?_
  have h := List.all_eq_true.mp h1 c hc
  rcases Bool.eq_false_or_eq_true (isCode c) with hi | hi
  · exact h2 c (List.mem_filter.mpr ⟨hc, hi⟩)
  · simpa [hi] using h
set_option maxRecDepth 65536 in
theorem w_c0 : (Jvm.Cond.code x code maxLocals ret).before args0 about1 = true := code_word (m := ⟨1, 1⟩) (meth := k1m1) (c := k1c1) (by decide +kernel) rfl rfl rfl (by decide +kernel)
set_option maxRecDepth 65536 in
theorem w_c1 : (Jvm.Cond.code ({ cls := "java/lang/Math", name := "min", desc := "(JJ)J" } : Jvm.MethodName) jdk_29_method_70_code (4 : Nat) (Option.some Jvm.ClassFile.FieldType.long)).before args0 about1 = true := code_word (m := ⟨2, 2⟩) (meth := k2m2) (c := k2c2) (by decide +kernel) rfl rfl rfl (by decide +kernel)
set_option maxRecDepth 65536 in
theorem w_c2 : (Jvm.Cond.code ({ cls := "java/lang/Math", name := "max", desc := "(JJ)J" } : Jvm.MethodName) jdk_29_method_66_code (4 : Nat) (Option.some Jvm.ClassFile.FieldType.long)).before args0 about1 = true := code_word (m := ⟨2, 1⟩) (meth := k2m1) (c := k2c1) (by decide +kernel) rfl rfl rfl (by decide +kernel)
set_option maxRecDepth 65536 in
theorem w_c3 : (Jvm.Cond.code ({ cls := "com/example/bandwarden/bandwarden/server/ByteRange", name := "<init>", desc := "(JJ)V" } : Jvm.MethodName) prog_11_method_1_code (5 : Nat) (Option.none : Option Jvm.ClassFile.FieldType)).before args0 about1 = true := code_word (m := ⟨4, 0⟩) (meth := k4m0) (c := k4c0) (by decide +kernel) rfl rfl rfl (by decide +kernel)
set_option maxRecDepth 65536 in
theorem w_c4 : (Jvm.Cond.code ({ cls := "java/lang/Record", name := "<init>", desc := "()V" } : Jvm.MethodName) jdk_30_method_1_code (1 : Nat) (Option.none : Option Jvm.ClassFile.FieldType)).before args0 about1 = true := code_word (m := ⟨3, 0⟩) (meth := k3m0) (c := k3c0) (by decide +kernel) rfl rfl rfl (by decide +kernel)
set_option maxRecDepth 65536 in
theorem w_c5 : (Jvm.Cond.code ({ cls := "java/lang/Object", name := "<init>", desc := "()V" } : Jvm.MethodName) object_method_1_code (1 : Nat) (Option.none : Option Jvm.ClassFile.FieldType)).before args0 about1 = true := code_word (m := ⟨0, 0⟩) (meth := k0m0) (c := k0c0) (by decide +kernel) rfl rfl rfl (by decide +kernel)
set_option maxRecDepth 65536 in
theorem w_c6 : (Jvm.Cond.code ({ cls := "com/example/bandwarden/bandwarden/server/ByteRange", name := "length", desc := "()J" } : Jvm.MethodName) prog_11_method_3_code (1 : Nat) (Option.some Jvm.ClassFile.FieldType.long)).before args0 about1 = true := code_word (m := ⟨4, 1⟩) (meth := k4m1) (c := k4c1) (by decide +kernel) rfl rfl rfl (by decide +kernel)
def codes1 : List Jvm.Cond := [Jvm.Cond.code x code maxLocals ret, Jvm.Cond.code ({ cls := "java/lang/Math", name := "min", desc := "(JJ)J" } : Jvm.MethodName) jdk_29_method_70_code (4 : Nat) (Option.some Jvm.ClassFile.FieldType.long), Jvm.Cond.code ({ cls := "java/lang/Math", name := "max", desc := "(JJ)J" } : Jvm.MethodName) jdk_29_method_66_code (4 : Nat) (Option.some Jvm.ClassFile.FieldType.long), Jvm.Cond.code ({ cls := "com/example/bandwarden/bandwarden/server/ByteRange", name := "<init>", desc := "(JJ)V" } : Jvm.MethodName) prog_11_method_1_code (5 : Nat) (Option.none : Option Jvm.ClassFile.FieldType), Jvm.Cond.code ({ cls := "java/lang/Record", name := "<init>", desc := "()V" } : Jvm.MethodName) jdk_30_method_1_code (1 : Nat) (Option.none : Option Jvm.ClassFile.FieldType), Jvm.Cond.code ({ cls := "java/lang/Object", name := "<init>", desc := "()V" } : Jvm.MethodName) object_method_1_code (1 : Nat) (Option.none : Option Jvm.ClassFile.FieldType), Jvm.Cond.code ({ cls := "com/example/bandwarden/bandwarden/server/ByteRange", name := "length", desc := "()J" } : Jvm.MethodName) prog_11_method_3_code (1 : Nat) (Option.some Jvm.ClassFile.FieldType.long)]
set_option maxRecDepth 65536 in
theorem codes_eq : words1.filter isCode = codes1 := rfl
theorem w_codes : ∀ c ∈ words1.filter isCode, c.before args0 about1 = true := by
  rw [codes_eq]
  intro c hc
  simp only [codes1, List.mem_cons, List.not_mem_nil, or_false] at hc
  rcases hc with rfl | rfl | rfl | rfl | rfl | rfl | rfl
  · exact w_c0
  · exact w_c1
  · exact w_c2
  · exact w_c3
  · exact w_c4
  · exact w_c5
  · exact w_c6
set_option maxRecDepth 65536 in
theorem w_t1 : (words1.take 24).all (fun c => isCode c || c.before args0 about1) = true := by decide +kernel
set_option maxRecDepth 65536 in
theorem w_t2 : (words1.drop 24).all (fun c => isCode c || c.before args0 about1) = true := by decide +kernel
theorem w_tables : (allAtoms (Jvm.Cond.code x code maxLocals ret :: tables_1)).before args0 about1 = true := by
  rw [allAtoms_all]
  show words1.all (fun c => c.before args0 about1) = true
  refine all_split ?_ w_codes
  rw [← List.take_append_drop 24 words1, List.all_append, w_t1, w_t2]
  rfl
set_option maxRecDepth 65536 in
theorem w_case : (Jvm.Cond.and given_1 narrow_1).before args0 about1 = true := by decide +kernel
theorem w_applies : (headSpec (Jvm.Cond.code x code maxLocals ret :: tables_1) room_1).applies x e0.platform about1 = true :=
  (Spec.applies_iff w_frames).mpr ⟨w_running, w_runnable, w_alone, w_named, w_hears, w_ripe, w_room, w_tables⟩
theorem atStart : AtStart classFile x code maxLocals ret World_1 tables_1 room_1 Calls_1 rest_1 Pre_1 launch0 p0 e0 about1 theMethod args0 below0 :=
  ⟨lists_1, trivial, launch0.admits_env _ _ _, launch0.least_env, fairChoices_fair.cas, fairChoices_fair.clock, w_frames, w_args, w_heap, w_applies, trivial, trivial, w_case⟩
end start1
theorem witness_1 : WitnessClaimed_1 := ⟨start1.p0, start1.e0, start1.about1, start1.theMethod, start1.args0, start1.below0, start1.atStart⟩
end Jvm.Pilot.@@N@@
