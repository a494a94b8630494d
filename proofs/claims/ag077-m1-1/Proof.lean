import JvmDerived
import JvmDerived.Pilot.@@N@@Statement
import JvmDerived.Pilot.@@N@@Code
set_option linter.unusedVariables false
set_option linter.unusedSimpArgs false
@@BLOCK:NumsL.lean.txt@@
namespace Jvm.Pilot.@@N@@
open Jvm Jvm.ClassFile Sem Op Lib Jvm.Free Jvm.Stand Jvm.LawKit Jvm.RoadKit Bundle Jvm.Pilot.@@N@@.Jvm.D
section OwnKit
variable {p : Program} {l : Launch} {e : Env} {R : Room} {s : State} {m : MethodId} {args : Array Value} {below : List Frame} {meth : Method} {c : Code} {T : State} {locs : List Loc} {cells slots : Nat}
/-- from the state a the run comes to a state of which P holds -/
def Gen (p : Program) (e : Env) (below : List Frame) (P : State → Prop) (a : State) : Prop := ∃ s₂, Steps p.tables e below a s₂ ∧ P s₂
theorem Gen.on {P : State → Prop} {a b : State} (k : Gen p e below P b) (h : ∀ t, Steps p.tables e below b t → Steps p.tables e below a t) : Gen p e below P a := by
  obtain ⟨s2, h1, h2⟩ := k
  exact ⟨s2, h _ h1, h2⟩
/-- the body has returned, and Q holds of what it returns, leaves and has written -/
def OwnP (below : List Frame) (s : State) (Q : Option Value → Heap → List Loc → Prop) (C S : Nat) (s₂ : State) : Prop := ∃ o, s₂.status = .running ∧ Ended s₂ below o ∧ ∃ v L, o = .returned v ∧ Q v s₂.heap L ∧ FrameEnd s o s₂ L C S
def Own (p : Program) (e : Env) (below : List Frame) (s : State) (Q : Option Value → Heap → List Loc → Prop) (C S : Nat) (a : State) : Prop := Gen p e below (OwnP below s Q C S) a
variable {Q : Option Value → Heap → List Loc → Prop} {C S : Nat}
theorem own_start {a : State} (k : Own p e below s Q C S a) : ∃ s₂ o, Steps p.tables e below a s₂ ∧ s₂.status = .running ∧ Ended s₂ below o ∧ ∃ v L, o = .returned v ∧ Q v s₂.heap L ∧ FrameEnd s o s₂ L C S := by
  obtain ⟨s2, h1, o, h2⟩ := k
  exact ⟨s2, o, h1, h2⟩
/-- the walk stands in a frame F, the heap being H, with what X had written -/
def own_at (X : Stand p l e R s m args below meth c T locs cells slots) (H : Heap) (F : JFrame) (s₂ : State) : Prop := ∃ T', Stand p l e R s m args below meth c T' locs cells slots ∧ T'.heap = H ∧ s₂ = T'.setTop F
theorem own_ret (X : Stand p l e R s m args below meth c T locs cells slots) {g : JFrame} {v : Option Value} (hv : meth.sig.returnType = none → v = none) (hlocks : meth.locks = false) (hc : cells ≤ C) (hs : slots ≤ S) (hq : Q v T.heap locs)
    (st : ∀ fs, (∀ (f : JFrame) (acts : List Action), f.method = m → f.locked = none → f.entered = [] → (doReturn e (T.setTop f) acts v).1 = T.setFrames fs) → Steps p.tables e below (T.setTop g) (T.setFrames fs)) : Own p e below s Q C S (T.setTop g) := by
  obtain ⟨fs, hr, hrun, hended, hW, hsame⟩ := X.leave (v := v) hv hlocks
  exact ⟨_, st fs hr, _, hrun, hended, _, _, rfl, hq, ⟨_, rfl⟩, hW, hsame.mono hc hs⟩
theorem own_retI (X : Stand p l e R s m args below meth c T locs cells slots) (hx : p.tables.exec = Jvm.exec) {pc : Nat} {Ls : Array Slot} {z : Int32} {rest : List Value} (hret : meth.sig.returnType = some .int) (hd : decode c.code pc = .ok (.ireturn, 1)) (hc : cells ≤ C) (hs : slots ≤ S) (hq : Q (some (.int z)) T.heap locs) (hlocks : meth.locks = false := by first | assumption | exact BodyLoose.notSynchronized (by assumption)) : Own p e below s Q C S (T.setTop (mkF m pc Ls (.int z :: rest))) :=
  own_ret X (fun h => by rw [hret] at h; cases h) hlocks hc hs hq fun fs hr => retOut X hx hret rfl (Or.inl ⟨rfl, Or.inl rfl, z, rfl⟩) hd hr
theorem own_retN (X : Stand p l e R s m args below meth c T locs cells slots) (hx : p.tables.exec = Jvm.exec) {pc : Nat} {Ls : Array Slot} {z : Int32} {t : FieldType} {rest : List Value} (hret : meth.sig.returnType = some t) (ht : t = .boolean ∨ t = .byte ∨ t = .char ∨ t = .short) (hz : nar t z = z) (hd : decode c.code pc = .ok (.ireturn, 1)) (hc : cells ≤ C) (hs : slots ≤ S) (hq : Q (some (.int z)) T.heap locs) (hlocks : meth.locks = false := by first | assumption | exact BodyLoose.notSynchronized (by assumption)) : Own p e below s Q C S (T.setTop (mkF m pc Ls (.int z :: rest))) :=
  own_ret X (fun h => by rw [hret] at h; cases h) hlocks hc hs hq fun fs hr => retN X hx hret ht hd (by rw [hz]; exact hr)
theorem own_retJ (X : Stand p l e R s m args below meth c T locs cells slots) (hx : p.tables.exec = Jvm.exec) {pc : Nat} {Ls : Array Slot} {z : Int64} {rest : List Value} (hret : meth.sig.returnType = some .long) (hd : decode c.code pc = .ok (.lreturn, 1)) (hc : cells ≤ C) (hs : slots ≤ S) (hq : Q (some (.long z)) T.heap locs) (hlocks : meth.locks = false := by first | assumption | exact BodyLoose.notSynchronized (by assumption)) : Own p e below s Q C S (T.setTop (mkF m pc Ls (.long z :: rest))) :=
  own_ret X (fun h => by rw [hret] at h; cases h) hlocks hc hs hq fun fs hr => retOut X hx hret rfl (Or.inr (Or.inl ⟨rfl, rfl, z, rfl⟩)) hd hr
theorem own_retA (X : Stand p l e R s m args below meth c T locs cells slots) (hx : p.tables.exec = Jvm.exec) {pc : Nat} {Ls : Array Slot} {w : Value} {t : FieldType} {rest : List Value} (hret : meth.sig.returnType = some t) (ht : t.isReference = true) (hw : w.isRef = true) (hd : decode c.code pc = .ok (.areturn, 1)) (hc : cells ≤ C) (hs : slots ≤ S) (hq : Q (some w) T.heap locs) (hlocks : meth.locks = false := by first | assumption | exact BodyLoose.notSynchronized (by assumption)) : Own p e below s Q C S (T.setTop (mkF m pc Ls (w :: rest))) :=
  own_ret X (fun h => by rw [hret] at h; cases h) hlocks hc hs hq fun fs hr => retOut X hx hret (by cases t <;> cases w <;> simp [FieldType.isReference, Value.isRef] at ht hw <;> rfl) (Or.inr (Or.inr (Or.inr (Or.inr ⟨rfl, ht, hw⟩)))) hd hr
theorem own_ret0 (X : Stand p l e R s m args below meth c T locs cells slots) (hx : p.tables.exec = Jvm.exec) {pc : Nat} {Ls : Array Slot} (hret : meth.sig.returnType = none) (hd : decode c.code pc = .ok (.return_, 1)) (hc : cells ≤ C) (hs : slots ≤ S) (hq : Q none T.heap locs) (hlocks : meth.locks = false := by first | assumption | exact BodyLoose.notSynchronized (by assumption)) : Own p e below s Q C S (T.setTop (mkF m pc Ls [])) :=
  own_ret X (fun _ => rfl) hlocks hc hs hq fun fs hr => X.returnOut hx hret hd hr
theorem own_lt1 {a b : Int64} (h : a < b) : ifCond.holds .lt (lcmpW a b) = true ∧ ifCond.holds .ge (lcmpW a b) = false := by
  have h1 : ¬ a > b := fun q => by rw [gt_iff_lt, Int64.lt_iff_toInt_lt] at q; rw [Int64.lt_iff_toInt_lt] at h; omega
  have h2 : ¬ a = b := fun q => by subst q; exact h1 h
  rw [lcmpW, if_neg h1, if_neg h2]; exact ⟨rfl, rfl⟩
theorem own_lt0 {a b : Int64} (h : ¬ a < b) : ifCond.holds .lt (lcmpW a b) = false ∧ ifCond.holds .ge (lcmpW a b) = true := by
  rw [lcmpW]
  by_cases h1 : a > b
  · rw [if_pos h1]; exact ⟨rfl, rfl⟩
  · have h2 : a = b := by rw [gt_iff_lt, Int64.lt_iff_toInt_lt] at h1; rw [Int64.lt_iff_toInt_lt] at h; exact Int64.toInt_inj.mp (by omega)
    rw [if_neg h1, if_pos h2]; exact ⟨rfl, rfl⟩
theorem own_gt1 {a b : Int64} (h : b < a) : ifCond.holds .gt (lcmpW a b) = true ∧ ifCond.holds .le (lcmpW a b) = false := by
  rw [lcmpW, if_pos h]; exact ⟨rfl, rfl⟩
theorem own_gt0 {a b : Int64} (h : ¬ b < a) : ifCond.holds .gt (lcmpW a b) = false ∧ ifCond.holds .le (lcmpW a b) = true := by
  rw [lcmpW, if_neg h]
  by_cases h1 : a = b
  · rw [if_pos h1]; exact ⟨rfl, rfl⟩
  · rw [if_neg h1]; exact ⟨rfl, rfl⟩
theorem own_eq1 {a b : Int64} (h : a = b) : ifCond.holds .eq (lcmpW a b) = true ∧ ifCond.holds .ne (lcmpW a b) = false := by
  have h1 : ¬ a > b := fun q => by subst h; rw [gt_iff_lt, Int64.lt_iff_toInt_lt] at q; omega
  rw [lcmpW, if_neg h1, if_pos h]; exact ⟨rfl, rfl⟩
theorem own_eq0 {a b : Int64} (h : ¬ a = b) : ifCond.holds .eq (lcmpW a b) = false ∧ ifCond.holds .ne (lcmpW a b) = true := by
  rw [lcmpW]
  by_cases h1 : a > b
  · rw [if_pos h1]; exact ⟨rfl, rfl⟩
  · rw [if_neg h1, if_neg h]; exact ⟨rfl, rfl⟩
theorem own_sta_keep {Z : State} {h h' : Heap} {C n d : String} {w : Value} (F : Sta Z h C n d w) (K : Keep h h' []) : Sta Z h' C n d w := by
  obtain ⟨cf, i, k, f, st, cell, h1, h2, h3, h4, h5, h6⟩ := F
  exact ⟨cf, i, k, f, st, cell, h1, h2, h3, h4, K.2.1 st cell h5 nin0, h6⟩
theorem own_arr_keep {Z : State} {h h' : Heap} {a : Addr} {cl : Cell} {ty : FieldType} {ws : List Addr} (A : Arr Z h a cl ty) (K : Keep h h' ws) (q : a ∉ ws) : Arr Z h' a cl ty := ⟨K.2.1 a cl A.1 q, A.2⟩
end OwnKit


def f1 (p1 : Int32) (x0 : Addr) (x1 : Addr) (x2 : Addr) (x3 : Addr) (x4 : Addr) (x5 : Addr) (x6 : Addr) (x7 : Addr) : Addr := (if p1 = (0 : Int32) then x0 else (if p1 = (1 : Int32) then x1 else (if p1 = (2 : Int32) then x2 else (if p1 = (3 : Int32) then x3 else (if p1 = (4 : Int32) then x4 else (if p1 = (5 : Int32) then x5 else (if p1 = (6 : Int32) then x6 else x7)))))))
theorem d1_0 : decode method_2_code 0 = .ok (.iload_n 0, 1) := by decide +kernel
theorem d1_1 : decode method_2_code 1 = .ok (.ifCond .ne 7, 3) := by decide +kernel
theorem d1_4 : decode method_2_code 4 = .ok (.getstatic 7, 3) := by decide +kernel
theorem d1_7 : decode method_2_code 7 = .ok (.areturn, 1) := by decide +kernel
theorem d1_8 : decode method_2_code 8 = .ok (.iload_n 0, 1) := by decide +kernel
theorem d1_9 : decode method_2_code 9 = .ok (.iconst 1, 1) := by decide +kernel
theorem d1_10 : decode method_2_code 10 = .ok (.if_icmp .ne 7, 3) := by decide +kernel
theorem d1_13 : decode method_2_code 13 = .ok (.getstatic 13, 3) := by decide +kernel
theorem d1_16 : decode method_2_code 16 = .ok (.areturn, 1) := by decide +kernel
theorem d1_17 : decode method_2_code 17 = .ok (.iload_n 0, 1) := by decide +kernel
theorem d1_18 : decode method_2_code 18 = .ok (.iconst 2, 1) := by decide +kernel
theorem d1_19 : decode method_2_code 19 = .ok (.if_icmp .ne 7, 3) := by decide +kernel
theorem d1_22 : decode method_2_code 22 = .ok (.getstatic 16, 3) := by decide +kernel
theorem d1_25 : decode method_2_code 25 = .ok (.areturn, 1) := by decide +kernel
theorem d1_26 : decode method_2_code 26 = .ok (.iload_n 0, 1) := by decide +kernel
theorem d1_27 : decode method_2_code 27 = .ok (.iconst 3, 1) := by decide +kernel
theorem d1_28 : decode method_2_code 28 = .ok (.if_icmp .ne 7, 3) := by decide +kernel
theorem d1_31 : decode method_2_code 31 = .ok (.getstatic 19, 3) := by decide +kernel
theorem d1_34 : decode method_2_code 34 = .ok (.areturn, 1) := by decide +kernel
theorem d1_35 : decode method_2_code 35 = .ok (.iload_n 0, 1) := by decide +kernel
theorem d1_36 : decode method_2_code 36 = .ok (.iconst 4, 1) := by decide +kernel
theorem d1_37 : decode method_2_code 37 = .ok (.if_icmp .ne 7, 3) := by decide +kernel
theorem d1_40 : decode method_2_code 40 = .ok (.getstatic 22, 3) := by decide +kernel
theorem d1_43 : decode method_2_code 43 = .ok (.areturn, 1) := by decide +kernel
theorem d1_44 : decode method_2_code 44 = .ok (.iload_n 0, 1) := by decide +kernel
theorem d1_45 : decode method_2_code 45 = .ok (.iconst 5, 1) := by decide +kernel
theorem d1_46 : decode method_2_code 46 = .ok (.if_icmp .ne 7, 3) := by decide +kernel
theorem d1_49 : decode method_2_code 49 = .ok (.getstatic 25, 3) := by decide +kernel
theorem d1_52 : decode method_2_code 52 = .ok (.areturn, 1) := by decide +kernel
theorem d1_53 : decode method_2_code 53 = .ok (.iload_n 0, 1) := by decide +kernel
theorem d1_54 : decode method_2_code 54 = .ok (.bipush 6, 2) := by decide +kernel
theorem d1_56 : decode method_2_code 56 = .ok (.if_icmp .ne 7, 3) := by decide +kernel
theorem d1_59 : decode method_2_code 59 = .ok (.getstatic 28, 3) := by decide +kernel
theorem d1_62 : decode method_2_code 62 = .ok (.areturn, 1) := by decide +kernel
theorem d1_63 : decode method_2_code 63 = .ok (.getstatic 31, 3) := by decide +kernel
theorem d1_66 : decode method_2_code 66 = .ok (.areturn, 1) := by decide +kernel
theorem pn_1 : plainName "com/example/theseus/theseus/language/ComparisonOperatorIsEqualityPinLaw" = true := by first | (simp [plainName, overriddenIn]; done) | decide +kernel
theorem ef_1 (m : MethodId) (x0 : Int32) : entryFrame m #[(.int x0)] 1 = mkF m 0 #[.val (.int x0)] [] := by first | (simp [entryFrame, mkF, argsToLocals, Value.category]; done) | rfl
def Q1 (Z : State) (p1 : Int32) (x0 : Addr) (x1 : Addr) (x2 : Addr) (x3 : Addr) (x4 : Addr) (x5 : Addr) (x6 : Addr) (x7 : Addr) (h0 : Heap) (n0 : Nat) (v : Option Value) (h : Heap) (L : List Loc) : Prop := v = some (.ref (f1 p1 x0 x1 x2 x3 x4 x5 x6 x7)) ∧ Fr n0 L ∧ h = h0
set_option maxRecDepth 65536 in
set_option maxHeartbeats 40000000 in
theorem rm1 (l : Launch) (Z : State) (a0 : Array Value) (hw : ∀ d ∈ tables_1, d.before a0 Z = true) (ws : List Jvm.Cond) (p1 : Int32) (x0 : Addr) (x1 : Addr) (x2 : Addr) (x3 : Addr) (x4 : Addr) (x5 : Addr) (x6 : Addr) (x7 : Addr) (h0 : Heap) (n0 : Nat) (Z0 : n0 ≤ h0.size) (P0 : Sta Z h0 "com/example/theseus/theseus/language/ComparisonOperator" "EQUAL" "Lcom/example/theseus/theseus/language/ComparisonOperator;" (.ref x0)) (P1 : Sta Z h0 "com/example/theseus/theseus/language/ComparisonOperator" "NOT_EQUAL" "Lcom/example/theseus/theseus/language/ComparisonOperator;" (.ref x1)) (P2 : Sta Z h0 "com/example/theseus/theseus/language/ComparisonOperator" "LESS" "Lcom/example/theseus/theseus/language/ComparisonOperator;" (.ref x2)) (P3 : Sta Z h0 "com/example/theseus/theseus/language/ComparisonOperator" "LESS_OR_EQUAL" "Lcom/example/theseus/theseus/language/ComparisonOperator;" (.ref x3)) (P4 : Sta Z h0 "com/example/theseus/theseus/language/ComparisonOperator" "GREATER" "Lcom/example/theseus/theseus/language/ComparisonOperator;" (.ref x4)) (P5 : Sta Z h0 "com/example/theseus/theseus/language/ComparisonOperator" "GREATER_OR_EQUAL" "Lcom/example/theseus/theseus/language/ComparisonOperator;" (.ref x5)) (P6 : Sta Z h0 "com/example/theseus/theseus/language/ComparisonOperator" "DISTINCT" "Lcom/example/theseus/theseus/language/ComparisonOperator;" (.ref x6)) (P7 : Sta Z h0 "com/example/theseus/theseus/language/ComparisonOperator" "NOT_DISTINCT" "Lcom/example/theseus/theseus/language/ComparisonOperator;" (.ref x7)) :
    MetFree l (⟨"com/example/theseus/theseus/language/ComparisonOperatorIsEqualityPinLaw", "pick", "(I)Lcom/example/theseus/theseus/language/ComparisonOperator;"⟩ : MethodName) (head1 (Jvm.Cond.code (⟨"com/example/theseus/theseus/language/ComparisonOperatorIsEqualityPinLaw", "pick", "(I)Lcom/example/theseus/theseus/language/ComparisonOperator;"⟩ : MethodName) method_2_code 1 (some (.object "com/example/theseus/theseus/language/ComparisonOperator")) :: ws) ({ frames := 0, cells := 0, slots := 0, locals := 0 } : Room)) (fun a U => a = #[(.int p1)] ∧ Z.Warmed39 U.vm ∧ U.heap = h0) (fun _ _ _ _ _ => True) (fun _ U o U' => ∃ v L, o = .returned v ∧ Q1 Z p1 x0 x1 x2 x3 x4 x5 x6 x7 h0 n0 v U'.heap L ∧ FrameEnd U o U' L ({ frames := 0, cells := 0, slots := 0, locals := 0 } : Room).cells ({ frames := 0, cells := 0, slots := 0, locals := 0 } : Room).slots) := by
  refine MetFree.of_bodySF (plainFor_of_name pn_1) hisR ?_
  intro p e s m args below meth c s₁ Bd hml0 hP hK
  obtain ⟨rfl, hZ, hh⟩ := hP
  have hx := Bd.exec
  have hby := Bd.bytes
  have hml : c.maxLocals = 1 := hml0
  have hown : s.vm.findClass "com/example/theseus/theseus/language/ComparisonOperatorIsEqualityPinLaw" = some m.cls := findClass_of_methodNamed Bd.named
  have hnm := (name_of_methodNamed Bd.named Bd.method).1
  have X0 : Stand p l e ({ frames := 0, cells := 0, slots := 0, locals := 0 } : Room) s m #[(.int p1)] below meth c s₁ [] 0 0 := Stand.of_body Bd
  have e0 : s₁.heap = h0 := by rw [← hh, Bd.state]; rfl
  have N0 := Fr.nil n0
  refine own_start (Q := Q1 Z p1 x0 x1 x2 x3 x4 x5 x6 x7 h0 n0) (C := ({ frames := 0, cells := 0, slots := 0, locals := 0 } : Room).cells) (S := ({ frames := 0, cells := 0, slots := 0, locals := 0 } : Room).slots) ?_
  rw [ef_1 m p1]
  refine Gen.on (b := s₁.setTop (mkF m 1 #[.val (.int p1)] [(.int p1)])) ?_ (fun t k => XS.iloadN X0.here hx rfl (hb hby d1_0) rfl k)
  by_cases c1_1 : p1 = (0 : Int32)
  · refine Gen.on (b := s₁.setTop (mkF m 4 #[.val (.int p1)] [])) ?_ (fun t k => XS.ifNo X0.here hx rfl (hb hby d1_1) rfl ((if0 _ _).trans (teq c1_1).2) k)
    obtain ⟨T1, X1, e1, st1⟩ := getS2 X0 hx hZ hown (host := "") (Or.inl (hw _ (List.mem_of_getElem? (i := 4) rfl))) Via.refl e0 P0 (g := (mkF m 4 #[.val (.int p1)] [])) rfl (hb hby d1_4)
    refine Gen.on (b := T1.setTop (mkF m 7 #[.val (.int p1)] [(.ref x0)])) ?_ (fun t k => st1 t k)
    refine own_retA X1 hx Bd.returns rfl rfl (hb hby d1_7) (by decide) (by decide) ?_
    exact ⟨(by simp only [f1, if_pos c1_1]), N0, e1⟩
  · refine Gen.on (b := s₁.setTop (mkF m 8 #[.val (.int p1)] [])) ?_ (fun t k => XS.ifYes X0.here hx rfl (pc0 := 1) (pc' := 8) rfl (hb hby d1_1) rfl ((if0 _ _).trans (feq c1_1).2) (by decide) (by decide) k)
    refine Gen.on (b := s₁.setTop (mkF m 9 #[.val (.int p1)] [(.int p1)])) ?_ (fun t k => XS.iloadN X0.here hx rfl (hb hby d1_8) rfl k)
    refine Gen.on (b := s₁.setTop (mkF m 10 #[.val (.int p1)] [(.int (1 : Int32)), (.int p1)])) ?_ (fun t k => XS.iconst X0.here hx rfl (hb hby d1_9) k)
    by_cases c10_2 : p1 = (1 : Int32)
    · refine Gen.on (b := s₁.setTop (mkF m 13 #[.val (.int p1)] [])) ?_ (fun t k => XS.icmpNo X0.here hx rfl (hb hby d1_10) rfl (teq c10_2).2 k)
      obtain ⟨T2, X2, e2, st2⟩ := getS2 X0 hx hZ hown (host := "") (Or.inl (hw _ (List.mem_of_getElem? (i := 28) rfl))) Via.refl e0 P1 (g := (mkF m 13 #[.val (.int p1)] [])) rfl (hb hby d1_13)
      refine Gen.on (b := T2.setTop (mkF m 16 #[.val (.int p1)] [(.ref x1)])) ?_ (fun t k => st2 t k)
      refine own_retA X2 hx Bd.returns rfl rfl (hb hby d1_16) (by decide) (by decide) ?_
      exact ⟨(by simp only [f1, if_neg c1_1, if_pos c10_2]), N0, e2⟩
    · refine Gen.on (b := s₁.setTop (mkF m 17 #[.val (.int p1)] [])) ?_ (fun t k => XS.icmpYes X0.here hx rfl (pc0 := 10) (pc' := 17) rfl (hb hby d1_10) rfl (feq c10_2).2 (by decide) (by decide) k)
      refine Gen.on (b := s₁.setTop (mkF m 18 #[.val (.int p1)] [(.int p1)])) ?_ (fun t k => XS.iloadN X0.here hx rfl (hb hby d1_17) rfl k)
      refine Gen.on (b := s₁.setTop (mkF m 19 #[.val (.int p1)] [(.int (2 : Int32)), (.int p1)])) ?_ (fun t k => XS.iconst X0.here hx rfl (hb hby d1_18) k)
      by_cases c19_3 : p1 = (2 : Int32)
      · refine Gen.on (b := s₁.setTop (mkF m 22 #[.val (.int p1)] [])) ?_ (fun t k => XS.icmpNo X0.here hx rfl (hb hby d1_19) rfl (teq c19_3).2 k)
        obtain ⟨T3, X3, e3, st3⟩ := getS2 X0 hx hZ hown (host := "") (Or.inl (hw _ (List.mem_of_getElem? (i := 26) rfl))) Via.refl e0 P2 (g := (mkF m 22 #[.val (.int p1)] [])) rfl (hb hby d1_22)
        refine Gen.on (b := T3.setTop (mkF m 25 #[.val (.int p1)] [(.ref x2)])) ?_ (fun t k => st3 t k)
        refine own_retA X3 hx Bd.returns rfl rfl (hb hby d1_25) (by decide) (by decide) ?_
        exact ⟨(by simp only [f1, if_neg c1_1, if_neg c10_2, if_pos c19_3]), N0, e3⟩
      · refine Gen.on (b := s₁.setTop (mkF m 26 #[.val (.int p1)] [])) ?_ (fun t k => XS.icmpYes X0.here hx rfl (pc0 := 19) (pc' := 26) rfl (hb hby d1_19) rfl (feq c19_3).2 (by decide) (by decide) k)
        refine Gen.on (b := s₁.setTop (mkF m 27 #[.val (.int p1)] [(.int p1)])) ?_ (fun t k => XS.iloadN X0.here hx rfl (hb hby d1_26) rfl k)
        refine Gen.on (b := s₁.setTop (mkF m 28 #[.val (.int p1)] [(.int (3 : Int32)), (.int p1)])) ?_ (fun t k => XS.iconst X0.here hx rfl (hb hby d1_27) k)
        by_cases c28_4 : p1 = (3 : Int32)
        · refine Gen.on (b := s₁.setTop (mkF m 31 #[.val (.int p1)] [])) ?_ (fun t k => XS.icmpNo X0.here hx rfl (hb hby d1_28) rfl (teq c28_4).2 k)
          obtain ⟨T4, X4, e4, st4⟩ := getS2 X0 hx hZ hown (host := "") (Or.inl (hw _ (List.mem_of_getElem? (i := 16) rfl))) Via.refl e0 P3 (g := (mkF m 31 #[.val (.int p1)] [])) rfl (hb hby d1_31)
          refine Gen.on (b := T4.setTop (mkF m 34 #[.val (.int p1)] [(.ref x3)])) ?_ (fun t k => st4 t k)
          refine own_retA X4 hx Bd.returns rfl rfl (hb hby d1_34) (by decide) (by decide) ?_
          exact ⟨(by simp only [f1, if_neg c1_1, if_neg c10_2, if_neg c19_3, if_pos c28_4]), N0, e4⟩
        · refine Gen.on (b := s₁.setTop (mkF m 35 #[.val (.int p1)] [])) ?_ (fun t k => XS.icmpYes X0.here hx rfl (pc0 := 28) (pc' := 35) rfl (hb hby d1_28) rfl (feq c28_4).2 (by decide) (by decide) k)
          refine Gen.on (b := s₁.setTop (mkF m 36 #[.val (.int p1)] [(.int p1)])) ?_ (fun t k => XS.iloadN X0.here hx rfl (hb hby d1_35) rfl k)
          refine Gen.on (b := s₁.setTop (mkF m 37 #[.val (.int p1)] [(.int (4 : Int32)), (.int p1)])) ?_ (fun t k => XS.iconst X0.here hx rfl (hb hby d1_36) k)
          by_cases c37_5 : p1 = (4 : Int32)
          · refine Gen.on (b := s₁.setTop (mkF m 40 #[.val (.int p1)] [])) ?_ (fun t k => XS.icmpNo X0.here hx rfl (hb hby d1_37) rfl (teq c37_5).2 k)
            obtain ⟨T5, X5, e5, st5⟩ := getS2 X0 hx hZ hown (host := "") (Or.inl (hw _ (List.mem_of_getElem? (i := 29) rfl))) Via.refl e0 P4 (g := (mkF m 40 #[.val (.int p1)] [])) rfl (hb hby d1_40)
            refine Gen.on (b := T5.setTop (mkF m 43 #[.val (.int p1)] [(.ref x4)])) ?_ (fun t k => st5 t k)
            refine own_retA X5 hx Bd.returns rfl rfl (hb hby d1_43) (by decide) (by decide) ?_
            exact ⟨(by simp only [f1, if_neg c1_1, if_neg c10_2, if_neg c19_3, if_neg c28_4, if_pos c37_5]), N0, e5⟩
          · refine Gen.on (b := s₁.setTop (mkF m 44 #[.val (.int p1)] [])) ?_ (fun t k => XS.icmpYes X0.here hx rfl (pc0 := 37) (pc' := 44) rfl (hb hby d1_37) rfl (feq c37_5).2 (by decide) (by decide) k)
            refine Gen.on (b := s₁.setTop (mkF m 45 #[.val (.int p1)] [(.int p1)])) ?_ (fun t k => XS.iloadN X0.here hx rfl (hb hby d1_44) rfl k)
            refine Gen.on (b := s₁.setTop (mkF m 46 #[.val (.int p1)] [(.int (5 : Int32)), (.int p1)])) ?_ (fun t k => XS.iconst X0.here hx rfl (hb hby d1_45) k)
            by_cases c46_6 : p1 = (5 : Int32)
            · refine Gen.on (b := s₁.setTop (mkF m 49 #[.val (.int p1)] [])) ?_ (fun t k => XS.icmpNo X0.here hx rfl (hb hby d1_46) rfl (teq c46_6).2 k)
              obtain ⟨T6, X6, e6, st6⟩ := getS2 X0 hx hZ hown (host := "") (Or.inl (hw _ (List.mem_of_getElem? (i := 31) rfl))) Via.refl e0 P5 (g := (mkF m 49 #[.val (.int p1)] [])) rfl (hb hby d1_49)
              refine Gen.on (b := T6.setTop (mkF m 52 #[.val (.int p1)] [(.ref x5)])) ?_ (fun t k => st6 t k)
              refine own_retA X6 hx Bd.returns rfl rfl (hb hby d1_52) (by decide) (by decide) ?_
              exact ⟨(by simp only [f1, if_neg c1_1, if_neg c10_2, if_neg c19_3, if_neg c28_4, if_neg c37_5, if_pos c46_6]), N0, e6⟩
            · refine Gen.on (b := s₁.setTop (mkF m 53 #[.val (.int p1)] [])) ?_ (fun t k => XS.icmpYes X0.here hx rfl (pc0 := 46) (pc' := 53) rfl (hb hby d1_46) rfl (feq c46_6).2 (by decide) (by decide) k)
              refine Gen.on (b := s₁.setTop (mkF m 54 #[.val (.int p1)] [(.int p1)])) ?_ (fun t k => XS.iloadN X0.here hx rfl (hb hby d1_53) rfl k)
              refine Gen.on (b := s₁.setTop (mkF m 56 #[.val (.int p1)] [(.int (6 : Int32)), (.int p1)])) ?_ (fun t k => XS.bipush X0.here hx rfl (hb hby d1_54) k)
              by_cases c56_7 : p1 = (6 : Int32)
              · refine Gen.on (b := s₁.setTop (mkF m 59 #[.val (.int p1)] [])) ?_ (fun t k => XS.icmpNo X0.here hx rfl (hb hby d1_56) rfl (teq c56_7).2 k)
                obtain ⟨T7, X7, e7, st7⟩ := getS2 X0 hx hZ hown (host := "") (Or.inl (hw _ (List.mem_of_getElem? (i := 24) rfl))) Via.refl e0 P6 (g := (mkF m 59 #[.val (.int p1)] [])) rfl (hb hby d1_59)
                refine Gen.on (b := T7.setTop (mkF m 62 #[.val (.int p1)] [(.ref x6)])) ?_ (fun t k => st7 t k)
                refine own_retA X7 hx Bd.returns rfl rfl (hb hby d1_62) (by decide) (by decide) ?_
                exact ⟨(by simp only [f1, if_neg c1_1, if_neg c10_2, if_neg c19_3, if_neg c28_4, if_neg c37_5, if_neg c46_6, if_pos c56_7]), N0, e7⟩
              · refine Gen.on (b := s₁.setTop (mkF m 63 #[.val (.int p1)] [])) ?_ (fun t k => XS.icmpYes X0.here hx rfl (pc0 := 56) (pc' := 63) rfl (hb hby d1_56) rfl (feq c56_7).2 (by decide) (by decide) k)
                obtain ⟨T8, X8, e8, st8⟩ := getS2 X0 hx hZ hown (host := "") (Or.inl (hw _ (List.mem_of_getElem? (i := 25) rfl))) Via.refl e0 P7 (g := (mkF m 63 #[.val (.int p1)] [])) rfl (hb hby d1_63)
                refine Gen.on (b := T8.setTop (mkF m 66 #[.val (.int p1)] [(.ref x7)])) ?_ (fun t k => st8 t k)
                refine own_retA X8 hx Bd.returns rfl rfl (hb hby d1_66) (by decide) (by decide) ?_
                exact ⟨(by simp only [f1, if_neg c1_1, if_neg c10_2, if_neg c19_3, if_neg c28_4, if_neg c37_5, if_neg c46_6, if_neg c56_7]), N0, e8⟩

def f2 (a1 : Addr) (x0 : Addr) (x1 : Addr) (x6 : Addr) (x7 : Addr) : Int32 := (if a1 = x0 then (1 : Int32) else (if a1 = x1 then (1 : Int32) else (if a1 = x6 then (1 : Int32) else (if a1 = x7 then (1 : Int32) else (0 : Int32)))))
theorem d2_0 : decode prog_8_method_4_code 0 = .ok (.aload_n 0, 1) := by decide +kernel
theorem d2_1 : decode prog_8_method_4_code 1 = .ok (.getstatic 3, 3) := by decide +kernel
theorem d2_4 : decode prog_8_method_4_code 4 = .ok (.if_acmp .eq 24, 3) := by decide +kernel
theorem d2_7 : decode prog_8_method_4_code 7 = .ok (.aload_n 0, 1) := by decide +kernel
theorem d2_8 : decode prog_8_method_4_code 8 = .ok (.getstatic 7, 3) := by decide +kernel
theorem d2_11 : decode prog_8_method_4_code 11 = .ok (.if_acmp .eq 17, 3) := by decide +kernel
theorem d2_14 : decode prog_8_method_4_code 14 = .ok (.aload_n 0, 1) := by decide +kernel
theorem d2_15 : decode prog_8_method_4_code 15 = .ok (.getstatic 22, 3) := by decide +kernel
theorem d2_18 : decode prog_8_method_4_code 18 = .ok (.if_acmp .eq 10, 3) := by decide +kernel
theorem d2_21 : decode prog_8_method_4_code 21 = .ok (.aload_n 0, 1) := by decide +kernel
theorem d2_22 : decode prog_8_method_4_code 22 = .ok (.getstatic 25, 3) := by decide +kernel
theorem d2_25 : decode prog_8_method_4_code 25 = .ok (.if_acmp .ne 7, 3) := by decide +kernel
theorem d2_28 : decode prog_8_method_4_code 28 = .ok (.iconst 1, 1) := by decide +kernel
theorem d2_29 : decode prog_8_method_4_code 29 = .ok (.goto 4, 3) := by decide +kernel
theorem d2_32 : decode prog_8_method_4_code 32 = .ok (.iconst 0, 1) := by decide +kernel
theorem d2_33 : decode prog_8_method_4_code 33 = .ok (.ireturn, 1) := by decide +kernel
theorem pn_2 : plainName "com/example/theseus/theseus/language/ComparisonOperator" = true := by first | (simp [plainName, overriddenIn]; done) | decide +kernel
theorem ef_2 (m : MethodId) (x0 : Addr) : entryFrame m #[(.ref x0)] 1 = mkF m 0 #[.val (.ref x0)] [] := by first | (simp [entryFrame, mkF, argsToLocals, Value.category]; done) | rfl
def Q2 (Z : State) (a1 : Addr) (x0 : Addr) (x1 : Addr) (x6 : Addr) (x7 : Addr) (h0 : Heap) (n0 : Nat) (v : Option Value) (h : Heap) (L : List Loc) : Prop := v = some (.int (f2 a1 x0 x1 x6 x7)) ∧ Fr n0 L ∧ h = h0
set_option maxRecDepth 65536 in
set_option maxHeartbeats 40000000 in
theorem rm2 (l : Launch) (Z : State) (a0 : Array Value) (hw : ∀ d ∈ tables_1, d.before a0 Z = true) (ws : List Jvm.Cond) (a1 : Addr) (x0 : Addr) (x1 : Addr) (x6 : Addr) (x7 : Addr) (h0 : Heap) (n0 : Nat) (Z0 : n0 ≤ h0.size) (P0 : Sta Z h0 "com/example/theseus/theseus/language/ComparisonOperator" "EQUAL" "Lcom/example/theseus/theseus/language/ComparisonOperator;" (.ref x0)) (P1 : Sta Z h0 "com/example/theseus/theseus/language/ComparisonOperator" "NOT_EQUAL" "Lcom/example/theseus/theseus/language/ComparisonOperator;" (.ref x1)) (P2 : Sta Z h0 "com/example/theseus/theseus/language/ComparisonOperator" "DISTINCT" "Lcom/example/theseus/theseus/language/ComparisonOperator;" (.ref x6)) (P3 : Sta Z h0 "com/example/theseus/theseus/language/ComparisonOperator" "NOT_DISTINCT" "Lcom/example/theseus/theseus/language/ComparisonOperator;" (.ref x7)) :
    MetFree l (⟨"com/example/theseus/theseus/language/ComparisonOperator", "isEquality", "()Z"⟩ : MethodName) (head1 (Jvm.Cond.code (⟨"com/example/theseus/theseus/language/ComparisonOperator", "isEquality", "()Z"⟩ : MethodName) prog_8_method_4_code 1 (some .boolean) :: ws) ({ frames := 0, cells := 0, slots := 0, locals := 0 } : Room)) (fun a U => a = #[(.ref a1)] ∧ Z.Warmed39 U.vm ∧ U.heap = h0) (fun _ _ _ _ _ => True) (fun _ U o U' => ∃ v L, o = .returned v ∧ Q2 Z a1 x0 x1 x6 x7 h0 n0 v U'.heap L ∧ FrameEnd U o U' L ({ frames := 0, cells := 0, slots := 0, locals := 0 } : Room).cells ({ frames := 0, cells := 0, slots := 0, locals := 0 } : Room).slots) := by
  refine MetFree.of_bodySF (plainFor_of_name pn_2) hisR ?_
  intro p e s m args below meth c s₁ Bd hml0 hP hK
  obtain ⟨rfl, hZ, hh⟩ := hP
  have hx := Bd.exec
  have hby := Bd.bytes
  have hml : c.maxLocals = 1 := hml0
  have hown : s.vm.findClass "com/example/theseus/theseus/language/ComparisonOperator" = some m.cls := findClass_of_methodNamed Bd.named
  have hnm := (name_of_methodNamed Bd.named Bd.method).1
  have X0 : Stand p l e ({ frames := 0, cells := 0, slots := 0, locals := 0 } : Room) s m #[(.ref a1)] below meth c s₁ [] 0 0 := Stand.of_body Bd
  have e0 : s₁.heap = h0 := by rw [← hh, Bd.state]; rfl
  have N0 := Fr.nil n0
  refine own_start (Q := Q2 Z a1 x0 x1 x6 x7 h0 n0) (C := ({ frames := 0, cells := 0, slots := 0, locals := 0 } : Room).cells) (S := ({ frames := 0, cells := 0, slots := 0, locals := 0 } : Room).slots) ?_
  rw [ef_2 m a1]
  refine Gen.on (b := s₁.setTop (mkF m 1 #[.val (.ref a1)] [(.ref a1)])) ?_ (fun t k => XS.aloadN X0.here hx rfl (hb hby d2_0) rfl rfl k)
  obtain ⟨T1, X1, e1, st1⟩ := getS2 X0 hx hZ hown (host := "") (Or.inl (hw _ (List.mem_of_getElem? (i := 12) rfl))) Via.refl e0 P0 (g := (mkF m 1 #[.val (.ref a1)] [(.ref a1)])) rfl (hb hby d2_1)
  refine Gen.on (b := T1.setTop (mkF m 4 #[.val (.ref a1)] [(.ref x0), (.ref a1)])) ?_ (fun t k => st1 t k)
  by_cases c4_1 : a1 = x0
  · refine Gen.on (b := T1.setTop (mkF m 28 #[.val (.ref a1)] [])) ?_ (fun t k => Jvm.RoadKit.acmp (g := (mkF m 4 #[.val (.ref a1)] [(.ref x0), (.ref a1)])) X1 hx rfl rfl rfl (pc0 := 4) (pc' := 28) (same := true) rfl (hb hby d2_4) rfl (decide_eq_true (congrArg Value.ref c4_1)) (by decide) (by decide) k)
    refine Gen.on (b := T1.setTop (mkF m 29 #[.val (.ref a1)] [(.int (1 : Int32))])) ?_ (fun t k => XS.iconst X1.here hx rfl (hb hby d2_28) k)
    refine Gen.on (b := T1.setTop (mkF m 33 #[.val (.ref a1)] [(.int (1 : Int32))])) ?_ (fun t k => XS.goto X1.here hx rfl (pc0 := 29) (pc' := 33) rfl (hb hby d2_29) (by decide) (by decide) k)
    refine own_retN (t := .boolean) X1 hx Bd.returns (by simp) (by decide) (hb hby d2_33) (by decide) (by decide) ?_
    exact ⟨(by simp only [f2, if_pos c4_1]), N0, e1⟩
  · refine Gen.on (b := T1.setTop (mkF m 7 #[.val (.ref a1)] [])) ?_ (fun t k => Jvm.RoadKit.acmp (g := (mkF m 4 #[.val (.ref a1)] [(.ref x0), (.ref a1)])) X1 hx rfl rfl rfl (pc0 := 4) (pc' := 7) (same := false) rfl (hb hby d2_4) rfl (decide_eq_false fun q => c4_1 (Value.ref.inj q)) (by decide) (by decide) k)
    refine Gen.on (b := T1.setTop (mkF m 8 #[.val (.ref a1)] [(.ref a1)])) ?_ (fun t k => XS.aloadN X1.here hx rfl (hb hby d2_7) rfl rfl k)
    obtain ⟨T2, X2, e2, st2⟩ := getS2 X1 hx hZ hown (host := "") (Or.inl (hw _ (List.mem_of_getElem? (i := 18) rfl))) Via.refl e1 P1 (g := (mkF m 8 #[.val (.ref a1)] [(.ref a1)])) rfl (hb hby d2_8)
    refine Gen.on (b := T2.setTop (mkF m 11 #[.val (.ref a1)] [(.ref x1), (.ref a1)])) ?_ (fun t k => st2 t k)
    by_cases c11_2 : a1 = x1
    · refine Gen.on (b := T2.setTop (mkF m 28 #[.val (.ref a1)] [])) ?_ (fun t k => Jvm.RoadKit.acmp (g := (mkF m 11 #[.val (.ref a1)] [(.ref x1), (.ref a1)])) X2 hx rfl rfl rfl (pc0 := 11) (pc' := 28) (same := true) rfl (hb hby d2_11) rfl (decide_eq_true (congrArg Value.ref c11_2)) (by decide) (by decide) k)
      refine Gen.on (b := T2.setTop (mkF m 29 #[.val (.ref a1)] [(.int (1 : Int32))])) ?_ (fun t k => XS.iconst X2.here hx rfl (hb hby d2_28) k)
      refine Gen.on (b := T2.setTop (mkF m 33 #[.val (.ref a1)] [(.int (1 : Int32))])) ?_ (fun t k => XS.goto X2.here hx rfl (pc0 := 29) (pc' := 33) rfl (hb hby d2_29) (by decide) (by decide) k)
      refine own_retN (t := .boolean) X2 hx Bd.returns (by simp) (by decide) (hb hby d2_33) (by decide) (by decide) ?_
      exact ⟨(by simp only [f2, if_neg c4_1, if_pos c11_2]), N0, e2⟩
    · refine Gen.on (b := T2.setTop (mkF m 14 #[.val (.ref a1)] [])) ?_ (fun t k => Jvm.RoadKit.acmp (g := (mkF m 11 #[.val (.ref a1)] [(.ref x1), (.ref a1)])) X2 hx rfl rfl rfl (pc0 := 11) (pc' := 14) (same := false) rfl (hb hby d2_11) rfl (decide_eq_false fun q => c11_2 (Value.ref.inj q)) (by decide) (by decide) k)
      refine Gen.on (b := T2.setTop (mkF m 15 #[.val (.ref a1)] [(.ref a1)])) ?_ (fun t k => XS.aloadN X2.here hx rfl (hb hby d2_14) rfl rfl k)
      obtain ⟨T3, X3, e3, st3⟩ := getS2 X2 hx hZ hown (host := "") (Or.inl (hw _ (List.mem_of_getElem? (i := 20) rfl))) Via.refl e2 P2 (g := (mkF m 15 #[.val (.ref a1)] [(.ref a1)])) rfl (hb hby d2_15)
      refine Gen.on (b := T3.setTop (mkF m 18 #[.val (.ref a1)] [(.ref x6), (.ref a1)])) ?_ (fun t k => st3 t k)
      by_cases c18_3 : a1 = x6
      · refine Gen.on (b := T3.setTop (mkF m 28 #[.val (.ref a1)] [])) ?_ (fun t k => Jvm.RoadKit.acmp (g := (mkF m 18 #[.val (.ref a1)] [(.ref x6), (.ref a1)])) X3 hx rfl rfl rfl (pc0 := 18) (pc' := 28) (same := true) rfl (hb hby d2_18) rfl (decide_eq_true (congrArg Value.ref c18_3)) (by decide) (by decide) k)
        refine Gen.on (b := T3.setTop (mkF m 29 #[.val (.ref a1)] [(.int (1 : Int32))])) ?_ (fun t k => XS.iconst X3.here hx rfl (hb hby d2_28) k)
        refine Gen.on (b := T3.setTop (mkF m 33 #[.val (.ref a1)] [(.int (1 : Int32))])) ?_ (fun t k => XS.goto X3.here hx rfl (pc0 := 29) (pc' := 33) rfl (hb hby d2_29) (by decide) (by decide) k)
        refine own_retN (t := .boolean) X3 hx Bd.returns (by simp) (by decide) (hb hby d2_33) (by decide) (by decide) ?_
        exact ⟨(by simp only [f2, if_neg c4_1, if_neg c11_2, if_pos c18_3]), N0, e3⟩
      · refine Gen.on (b := T3.setTop (mkF m 21 #[.val (.ref a1)] [])) ?_ (fun t k => Jvm.RoadKit.acmp (g := (mkF m 18 #[.val (.ref a1)] [(.ref x6), (.ref a1)])) X3 hx rfl rfl rfl (pc0 := 18) (pc' := 21) (same := false) rfl (hb hby d2_18) rfl (decide_eq_false fun q => c18_3 (Value.ref.inj q)) (by decide) (by decide) k)
        refine Gen.on (b := T3.setTop (mkF m 22 #[.val (.ref a1)] [(.ref a1)])) ?_ (fun t k => XS.aloadN X3.here hx rfl (hb hby d2_21) rfl rfl k)
        obtain ⟨T4, X4, e4, st4⟩ := getS2 X3 hx hZ hown (host := "") (Or.inl (hw _ (List.mem_of_getElem? (i := 22) rfl))) Via.refl e3 P3 (g := (mkF m 22 #[.val (.ref a1)] [(.ref a1)])) rfl (hb hby d2_22)
        refine Gen.on (b := T4.setTop (mkF m 25 #[.val (.ref a1)] [(.ref x7), (.ref a1)])) ?_ (fun t k => st4 t k)
        by_cases c25_4 : a1 = x7
        · refine Gen.on (b := T4.setTop (mkF m 28 #[.val (.ref a1)] [])) ?_ (fun t k => Jvm.RoadKit.acmp (g := (mkF m 25 #[.val (.ref a1)] [(.ref x7), (.ref a1)])) X4 hx rfl rfl rfl (pc0 := 25) (pc' := 28) (same := true) rfl (hb hby d2_25) rfl (decide_eq_true (congrArg Value.ref c25_4)) (by decide) (by decide) k)
          refine Gen.on (b := T4.setTop (mkF m 29 #[.val (.ref a1)] [(.int (1 : Int32))])) ?_ (fun t k => XS.iconst X4.here hx rfl (hb hby d2_28) k)
          refine Gen.on (b := T4.setTop (mkF m 33 #[.val (.ref a1)] [(.int (1 : Int32))])) ?_ (fun t k => XS.goto X4.here hx rfl (pc0 := 29) (pc' := 33) rfl (hb hby d2_29) (by decide) (by decide) k)
          refine own_retN (t := .boolean) X4 hx Bd.returns (by simp) (by decide) (hb hby d2_33) (by decide) (by decide) ?_
          exact ⟨(by simp only [f2, if_neg c4_1, if_neg c11_2, if_neg c18_3, if_pos c25_4]), N0, e4⟩
        · refine Gen.on (b := T4.setTop (mkF m 32 #[.val (.ref a1)] [])) ?_ (fun t k => Jvm.RoadKit.acmp (g := (mkF m 25 #[.val (.ref a1)] [(.ref x7), (.ref a1)])) X4 hx rfl rfl rfl (pc0 := 25) (pc' := 32) (same := false) rfl (hb hby d2_25) rfl (decide_eq_false fun q => c25_4 (Value.ref.inj q)) (by decide) (by decide) k)
          refine Gen.on (b := T4.setTop (mkF m 33 #[.val (.ref a1)] [(.int (0 : Int32))])) ?_ (fun t k => XS.iconst X4.here hx rfl (hb hby d2_32) k)
          refine own_retN (t := .boolean) X4 hx Bd.returns (by simp) (by decide) (hb hby d2_33) (by decide) (by decide) ?_
          exact ⟨(by simp only [f2, if_neg c4_1, if_neg c11_2, if_neg c18_3, if_neg c25_4]), N0, e4⟩
theorem d3_0 : decode method_3_code 0 = .ok (.iload_n 0, 1) := by decide +kernel
theorem d3_1 : decode method_3_code 1 = .ok (.iconst 2, 1) := by decide +kernel
theorem d3_2 : decode method_3_code 2 = .ok (.if_icmp .ne 5, 3) := by decide +kernel
theorem d3_5 : decode method_3_code 5 = .ok (.iconst 0, 1) := by decide +kernel
theorem d3_6 : decode method_3_code 6 = .ok (.ireturn, 1) := by decide +kernel
theorem d3_7 : decode method_3_code 7 = .ok (.iload_n 0, 1) := by decide +kernel
theorem d3_8 : decode method_3_code 8 = .ok (.iconst 3, 1) := by decide +kernel
theorem d3_9 : decode method_3_code 9 = .ok (.if_icmp .ne 5, 3) := by decide +kernel
theorem d3_12 : decode method_3_code 12 = .ok (.iconst 0, 1) := by decide +kernel
theorem d3_13 : decode method_3_code 13 = .ok (.ireturn, 1) := by decide +kernel
theorem d3_14 : decode method_3_code 14 = .ok (.iload_n 0, 1) := by decide +kernel
theorem d3_15 : decode method_3_code 15 = .ok (.iconst 4, 1) := by decide +kernel
theorem d3_16 : decode method_3_code 16 = .ok (.if_icmp .ne 5, 3) := by decide +kernel
theorem d3_19 : decode method_3_code 19 = .ok (.iconst 0, 1) := by decide +kernel
theorem d3_20 : decode method_3_code 20 = .ok (.ireturn, 1) := by decide +kernel
theorem d3_21 : decode method_3_code 21 = .ok (.iload_n 0, 1) := by decide +kernel
theorem d3_22 : decode method_3_code 22 = .ok (.iconst 5, 1) := by decide +kernel
theorem d3_23 : decode method_3_code 23 = .ok (.if_icmp .ne 5, 3) := by decide +kernel
theorem d3_26 : decode method_3_code 26 = .ok (.iconst 0, 1) := by decide +kernel
theorem d3_27 : decode method_3_code 27 = .ok (.ireturn, 1) := by decide +kernel
theorem d3_28 : decode method_3_code 28 = .ok (.iconst 1, 1) := by decide +kernel
theorem d3_29 : decode method_3_code 29 = .ok (.ireturn, 1) := by decide +kernel
theorem pn_3 : plainName "com/example/theseus/theseus/language/ComparisonOperatorIsEqualityPinLaw" = true := by first | (simp [plainName, overriddenIn]; done) | decide +kernel
theorem ef_3 (m : MethodId) (x0 : Int32) : entryFrame m #[(.int x0)] 1 = mkF m 0 #[.val (.int x0)] [] := by first | (simp [entryFrame, mkF, argsToLocals, Value.category]; done) | rfl
def f3 (p1 : Int32) : Int32 := (if p1 = (2 : Int32) then (0 : Int32) else (if p1 = (3 : Int32) then (0 : Int32) else (if p1 = (4 : Int32) then (0 : Int32) else (if p1 = (5 : Int32) then (0 : Int32) else (1 : Int32)))))
def Q3 (p1 : Int32) (h0 : Heap) (n0 : Nat) (v : Option Value) (h : Heap) (L : List Loc) : Prop := v = some (.int (f3 p1)) ∧ Fr n0 L ∧ h = h0
set_option maxRecDepth 65536 in
set_option maxHeartbeats 40000000 in
theorem rm3 (l : Launch) (Z : State) (a0 : Array Value) (hw : ∀ d ∈ tables_1, d.before a0 Z = true) (ws : List Jvm.Cond) (p1 : Int32) (h0 : Heap) (n0 : Nat) (Z0 : n0 ≤ h0.size)  :
    MetFree l (⟨"com/example/theseus/theseus/language/ComparisonOperatorIsEqualityPinLaw", "expected", "(I)Z"⟩ : MethodName) (head1 (Jvm.Cond.code (⟨"com/example/theseus/theseus/language/ComparisonOperatorIsEqualityPinLaw", "expected", "(I)Z"⟩ : MethodName) method_3_code 1 (some .boolean) :: ws) ({ frames := 0, cells := 0, slots := 0, locals := 0 } : Room)) (fun a U => a = #[(.int p1)] ∧ Z.Warmed39 U.vm ∧ U.heap = h0) (fun _ _ _ _ _ => True) (fun _ U o U' => ∃ v L, o = .returned v ∧ Q3 p1 h0 n0 v U'.heap L ∧ FrameEnd U o U' L ({ frames := 0, cells := 0, slots := 0, locals := 0 } : Room).cells ({ frames := 0, cells := 0, slots := 0, locals := 0 } : Room).slots) := by
  refine MetFree.of_bodySF (plainFor_of_name pn_3) hisR ?_
  intro p e s m args below meth c s₁ Bd hml0 hP hK
  obtain ⟨rfl, hZ, hh⟩ := hP
  have hx := Bd.exec
  have hby := Bd.bytes
  have hml : c.maxLocals = 1 := hml0
  have hown : s.vm.findClass "com/example/theseus/theseus/language/ComparisonOperatorIsEqualityPinLaw" = some m.cls := findClass_of_methodNamed Bd.named
  have hnm := (name_of_methodNamed Bd.named Bd.method).1
  have X0 : Stand p l e ({ frames := 0, cells := 0, slots := 0, locals := 0 } : Room) s m #[(.int p1)] below meth c s₁ [] 0 0 := Stand.of_body Bd
  have e0 : s₁.heap = h0 := by rw [← hh, Bd.state]; rfl
  have N0 := Fr.nil n0
  refine own_start (Q := Q3 p1 h0 n0) (C := ({ frames := 0, cells := 0, slots := 0, locals := 0 } : Room).cells) (S := ({ frames := 0, cells := 0, slots := 0, locals := 0 } : Room).slots) ?_
  rw [ef_3 m p1]
  have hq : ∀ v hh L, v = some (.int (f3 p1)) → Fr n0 L → hh = h0 → Q3 p1 h0 n0 v hh L := fun v hh L q1 q2 q3 => ⟨q1, q2, q3⟩
  refine Gen.on (b := s₁.setTop (mkF m 1 #[.val (.int p1)] [(.int p1)])) ?_ (fun t k => XS.iloadN X0.here hx rfl (hb hby d3_0) rfl k)
  refine Gen.on (b := s₁.setTop (mkF m 2 #[.val (.int p1)] [(.int (2 : Int32)), (.int p1)])) ?_ (fun t k => XS.iconst X0.here hx rfl (hb hby d3_1) k)
  by_cases c2_1 : p1 = (2 : Int32)
  · refine Gen.on (b := s₁.setTop (mkF m 5 #[.val (.int p1)] [])) ?_ (fun t k => XS.icmpNo X0.here hx rfl (hb hby d3_2) rfl (teq c2_1).2 k)
    refine Gen.on (b := s₁.setTop (mkF m 6 #[.val (.int p1)] [(.int (0 : Int32))])) ?_ (fun t k => XS.iconst X0.here hx rfl (hb hby d3_5) k)
    refine own_retN (t := .boolean) X0 hx Bd.returns (by simp) (by decide) (hb hby d3_6) (by decide) (by decide) ?_
    exact hq _ _ _ (by simp only [f3, if_pos c2_1]) N0 e0
  · refine Gen.on (b := s₁.setTop (mkF m 7 #[.val (.int p1)] [])) ?_ (fun t k => XS.icmpYes X0.here hx rfl (pc0 := 2) (pc' := 7) rfl (hb hby d3_2) rfl (feq c2_1).2 (by decide) (by decide) k)
    refine Gen.on (b := s₁.setTop (mkF m 8 #[.val (.int p1)] [(.int p1)])) ?_ (fun t k => XS.iloadN X0.here hx rfl (hb hby d3_7) rfl k)
    refine Gen.on (b := s₁.setTop (mkF m 9 #[.val (.int p1)] [(.int (3 : Int32)), (.int p1)])) ?_ (fun t k => XS.iconst X0.here hx rfl (hb hby d3_8) k)
    by_cases c9_2 : p1 = (3 : Int32)
    · refine Gen.on (b := s₁.setTop (mkF m 12 #[.val (.int p1)] [])) ?_ (fun t k => XS.icmpNo X0.here hx rfl (hb hby d3_9) rfl (teq c9_2).2 k)
      refine Gen.on (b := s₁.setTop (mkF m 13 #[.val (.int p1)] [(.int (0 : Int32))])) ?_ (fun t k => XS.iconst X0.here hx rfl (hb hby d3_12) k)
      refine own_retN (t := .boolean) X0 hx Bd.returns (by simp) (by decide) (hb hby d3_13) (by decide) (by decide) ?_
      exact hq _ _ _ (by simp only [f3, if_neg c2_1, if_pos c9_2]) N0 e0
    · refine Gen.on (b := s₁.setTop (mkF m 14 #[.val (.int p1)] [])) ?_ (fun t k => XS.icmpYes X0.here hx rfl (pc0 := 9) (pc' := 14) rfl (hb hby d3_9) rfl (feq c9_2).2 (by decide) (by decide) k)
      refine Gen.on (b := s₁.setTop (mkF m 15 #[.val (.int p1)] [(.int p1)])) ?_ (fun t k => XS.iloadN X0.here hx rfl (hb hby d3_14) rfl k)
      refine Gen.on (b := s₁.setTop (mkF m 16 #[.val (.int p1)] [(.int (4 : Int32)), (.int p1)])) ?_ (fun t k => XS.iconst X0.here hx rfl (hb hby d3_15) k)
      by_cases c16_3 : p1 = (4 : Int32)
      · refine Gen.on (b := s₁.setTop (mkF m 19 #[.val (.int p1)] [])) ?_ (fun t k => XS.icmpNo X0.here hx rfl (hb hby d3_16) rfl (teq c16_3).2 k)
        refine Gen.on (b := s₁.setTop (mkF m 20 #[.val (.int p1)] [(.int (0 : Int32))])) ?_ (fun t k => XS.iconst X0.here hx rfl (hb hby d3_19) k)
        refine own_retN (t := .boolean) X0 hx Bd.returns (by simp) (by decide) (hb hby d3_20) (by decide) (by decide) ?_
        exact hq _ _ _ (by simp only [f3, if_neg c2_1, if_neg c9_2, if_pos c16_3]) N0 e0
      · refine Gen.on (b := s₁.setTop (mkF m 21 #[.val (.int p1)] [])) ?_ (fun t k => XS.icmpYes X0.here hx rfl (pc0 := 16) (pc' := 21) rfl (hb hby d3_16) rfl (feq c16_3).2 (by decide) (by decide) k)
        refine Gen.on (b := s₁.setTop (mkF m 22 #[.val (.int p1)] [(.int p1)])) ?_ (fun t k => XS.iloadN X0.here hx rfl (hb hby d3_21) rfl k)
        refine Gen.on (b := s₁.setTop (mkF m 23 #[.val (.int p1)] [(.int (5 : Int32)), (.int p1)])) ?_ (fun t k => XS.iconst X0.here hx rfl (hb hby d3_22) k)
        by_cases c23_4 : p1 = (5 : Int32)
        · refine Gen.on (b := s₁.setTop (mkF m 26 #[.val (.int p1)] [])) ?_ (fun t k => XS.icmpNo X0.here hx rfl (hb hby d3_23) rfl (teq c23_4).2 k)
          refine Gen.on (b := s₁.setTop (mkF m 27 #[.val (.int p1)] [(.int (0 : Int32))])) ?_ (fun t k => XS.iconst X0.here hx rfl (hb hby d3_26) k)
          refine own_retN (t := .boolean) X0 hx Bd.returns (by simp) (by decide) (hb hby d3_27) (by decide) (by decide) ?_
          exact hq _ _ _ (by simp only [f3, if_neg c2_1, if_neg c9_2, if_neg c16_3, if_pos c23_4]) N0 e0
        · refine Gen.on (b := s₁.setTop (mkF m 28 #[.val (.int p1)] [])) ?_ (fun t k => XS.icmpYes X0.here hx rfl (pc0 := 23) (pc' := 28) rfl (hb hby d3_23) rfl (feq c23_4).2 (by decide) (by decide) k)
          refine Gen.on (b := s₁.setTop (mkF m 29 #[.val (.int p1)] [(.int (1 : Int32))])) ?_ (fun t k => XS.iconst X0.here hx rfl (hb hby d3_28) k)
          refine own_retN (t := .boolean) X0 hx Bd.returns (by simp) (by decide) (hb hby d3_29) (by decide) (by decide) ?_
          exact hq _ _ _ (by simp only [f3, if_neg c2_1, if_neg c9_2, if_neg c16_3, if_neg c23_4]) N0 e0

theorem own_eqi {t : Term} {n : Int32} {args : Array Value} {s : State} (h : (Jvm.Cond.eq t (.int n)).value args s none s [] = some true) : t.eval args s none [] s = some (.int n) := by
  obtain ⟨x, y, e1, e2, k1, k2⟩ := cmp_v (Or.inl h)
  have e3 : y = .int n := by simpa [Term.eval] using e2.symm
  subst e3
  obtain ⟨z, rfl⟩ := k2
  simp only [Cond.value, e1, e2] at h
  have : z = n := by simpa using h
  rw [e1, this]

theorem own_exa {Z : State} {h : Heap} {C : String} {x0 x1 x2 x3 x4 x5 x6 x7 : Addr} (i : Int32) (E0 : Exa Z h x0 C) (E1 : Exa Z h x1 C) (E2 : Exa Z h x2 C) (E3 : Exa Z h x3 C) (E4 : Exa Z h x4 C) (E5 : Exa Z h x5 C) (E6 : Exa Z h x6 C) (E7 : Exa Z h x7 C) : Exa Z h (f1 i x0 x1 x2 x3 x4 x5 x6 x7) C := by
  unfold f1
  repeat' split
  all_goals assumption
theorem own_law (k : Int32) (x0 x1 x2 x3 x4 x5 x6 x7 : Addr) (n20 : x2 ≠ x0) (n21 : x2 ≠ x1) (n26 : x2 ≠ x6) (n27 : x2 ≠ x7) (n30 : x3 ≠ x0) (n31 : x3 ≠ x1) (n36 : x3 ≠ x6) (n37 : x3 ≠ x7) (n40 : x4 ≠ x0) (n41 : x4 ≠ x1) (n46 : x4 ≠ x6) (n47 : x4 ≠ x7) (n50 : x5 ≠ x0) (n51 : x5 ≠ x1) (n56 : x5 ≠ x6) (n57 : x5 ≠ x7) :
    f2 (f1 k x0 x1 x2 x3 x4 x5 x6 x7) x0 x1 x6 x7 = f3 k := by
  unfold f1 f3
  by_cases h2 : k = 2
  · subst h2; simp [f2, n20, n21, n26, n27]
  by_cases h3 : k = 3
  · subst h3; simp [f2, n30, n31, n36, n37]
  by_cases h4 : k = 4
  · subst h4; simp [f2, n40, n41, n46, n47]
  by_cases h5 : k = 5
  · subst h5; simp [f2, n50, n51, n56, n57]
  simp only [h2, h3, h4, h5, if_false]
  unfold f2
  repeat' split
  all_goals first | rfl | simp_all

theorem pn_0 : plainName "com/example/theseus/theseus/language/ComparisonOperatorIsEqualityPinLaw" = true := by first | (simp [plainName, overriddenIn]; done) | decide +kernel
theorem pd_0_0 : parseMethodDescriptor "(I)Lcom/example/theseus/theseus/language/ComparisonOperator;" = some ⟨[.int], some (.object "com/example/theseus/theseus/language/ComparisonOperator")⟩ := by decide +kernel
theorem pd_0_1 : parseMethodDescriptor "()Z" = some ⟨[], some .boolean⟩ := by decide +kernel
theorem pd_0_2 : parseMethodDescriptor "(I)Z" = some ⟨[.int], some .boolean⟩ := by decide +kernel
theorem ef_0 (m : MethodId) (x0 : Int32) : entryFrame m #[(.int x0)] maxLocals = mkF m 0 #[.val (.int x0), .unset, .unset] [] := by first | (simp [entryFrame, mkF, argsToLocals, Value.category, maxLocals]; done) | rfl
def Q0 (n0 : Nat) (v : Option Value) (h : Heap) (L : List Loc) : Prop := v = some (.int 1) ∧ Fr n0 L
set_option maxRecDepth 65536 in
set_option maxHeartbeats 40000000 in
theorem rm0 (l : Launch) (Z : State) (a0 : Array Value) (hw : ∀ d ∈ tables_1, d.before a0 Z = true) (ws : List Jvm.Cond) (p1 : Int32) (x0 : Addr) (x1 : Addr) (x2 : Addr) (x3 : Addr) (x4 : Addr) (x5 : Addr) (x6 : Addr) (x7 : Addr) (h0 : Heap) (n0 : Nat) (Z0 : n0 ≤ h0.size) (P0 : Sta Z h0 "com/example/theseus/theseus/language/ComparisonOperator" "EQUAL" "Lcom/example/theseus/theseus/language/ComparisonOperator;" (.ref x0)) (P1 : Sta Z h0 "com/example/theseus/theseus/language/ComparisonOperator" "NOT_EQUAL" "Lcom/example/theseus/theseus/language/ComparisonOperator;" (.ref x1)) (P2 : Sta Z h0 "com/example/theseus/theseus/language/ComparisonOperator" "LESS" "Lcom/example/theseus/theseus/language/ComparisonOperator;" (.ref x2)) (P3 : Sta Z h0 "com/example/theseus/theseus/language/ComparisonOperator" "LESS_OR_EQUAL" "Lcom/example/theseus/theseus/language/ComparisonOperator;" (.ref x3)) (P4 : Sta Z h0 "com/example/theseus/theseus/language/ComparisonOperator" "GREATER" "Lcom/example/theseus/theseus/language/ComparisonOperator;" (.ref x4)) (P5 : Sta Z h0 "com/example/theseus/theseus/language/ComparisonOperator" "GREATER_OR_EQUAL" "Lcom/example/theseus/theseus/language/ComparisonOperator;" (.ref x5)) (P6 : Sta Z h0 "com/example/theseus/theseus/language/ComparisonOperator" "DISTINCT" "Lcom/example/theseus/theseus/language/ComparisonOperator;" (.ref x6)) (P7 : Sta Z h0 "com/example/theseus/theseus/language/ComparisonOperator" "NOT_DISTINCT" "Lcom/example/theseus/theseus/language/ComparisonOperator;" (.ref x7)) (P8 : Exa Z h0 x0 "com/example/theseus/theseus/language/ComparisonOperator") (P9 : Exa Z h0 x1 "com/example/theseus/theseus/language/ComparisonOperator") (P10 : Exa Z h0 x2 "com/example/theseus/theseus/language/ComparisonOperator") (P11 : Exa Z h0 x3 "com/example/theseus/theseus/language/ComparisonOperator") (P12 : Exa Z h0 x4 "com/example/theseus/theseus/language/ComparisonOperator") (P13 : Exa Z h0 x5 "com/example/theseus/theseus/language/ComparisonOperator") (P14 : Exa Z h0 x6 "com/example/theseus/theseus/language/ComparisonOperator") (P15 : Exa Z h0 x7 "com/example/theseus/theseus/language/ComparisonOperator") (n20 : x2 ≠ x0) (n21 : x2 ≠ x1) (n26 : x2 ≠ x6) (n27 : x2 ≠ x7) (n30 : x3 ≠ x0) (n31 : x3 ≠ x1) (n36 : x3 ≠ x6) (n37 : x3 ≠ x7) (n40 : x4 ≠ x0) (n41 : x4 ≠ x1) (n46 : x4 ≠ x6) (n47 : x4 ≠ x7) (n50 : x5 ≠ x0) (n51 : x5 ≠ x1) (n56 : x5 ≠ x6) (n57 : x5 ≠ x7) :
    MetFree l x (head1 (Jvm.Cond.code x code maxLocals ret :: ws) room_1) (fun a U => a = #[(.int p1)] ∧ Z.Warmed39 U.vm ∧ U.heap = h0) (fun _ _ _ _ _ => True) (fun _ U o U' => ∃ v L, o = .returned v ∧ Q0 n0 v U'.heap L ∧ FrameEnd U o U' L room_1.cells room_1.slots) := by
  refine MetFree.of_bodySF (plainFor_of_name pn_0) hisR ?_
  intro p e s m args below meth c s₁ Bd hml0 hP hK
  obtain ⟨rfl, hZ, hh⟩ := hP
  have hx := Bd.exec
  have hby := Bd.bytes
  have hml : c.maxLocals = 3 := hml0
  have hown : s.vm.findClass "com/example/theseus/theseus/language/ComparisonOperatorIsEqualityPinLaw" = some m.cls := findClass_of_methodNamed Bd.named
  have hnm := (name_of_methodNamed Bd.named Bd.method).1
  have X0 : Stand p l e room_1 s m #[(.int p1)] below meth c s₁ [] 0 0 := Stand.of_body Bd
  have e0 : s₁.heap = h0 := by rw [← hh, Bd.state]; rfl
  have N0 := Fr.nil n0
  refine own_start (Q := Q0 n0) (C := room_1.cells) (S := room_1.slots) ?_
  rw [ef_0 m p1]
  refine Gen.on (b := s₁.setTop (mkF m 1 #[.val (.int p1), .unset, .unset] [(.int p1)])) ?_ (fun t k => XS.iloadN X0.here hx rfl (hb hby at_0) rfl k)
  refine Gen.on (b := s₁.setTop (mkF m 3 #[.val (.int p1), .unset, .unset] [(.int (7 : Int32)), (.int p1)])) ?_ (fun t k => XS.bipush X0.here hx rfl (hb hby at_1) k)
  refine Gen.on (b := s₁.setTop (mkF m 4 #[.val (.int p1), .unset, .unset] [(.int (p1 &&& (7 : Int32)))])) ?_ (fun t k => XS.iand X0.here hx rfl (hb hby at_3) rfl k)
  refine Gen.on (b := s₁.setTop (mkF m 5 #[.val (.int p1), .val (.int (p1 &&& (7 : Int32))), .unset] [])) ?_ (fun t k => XS.istoreN X0.here hx rfl (hb hby at_4) rfl (l' := #[.val (.int p1), .val (.int (p1 &&& (7 : Int32))), .unset]) rfl k)
  refine Gen.on (b := s₁.setTop (mkF m 6 #[.val (.int p1), .val (.int (p1 &&& (7 : Int32))), .unset] [(.int (p1 &&& (7 : Int32)))])) ?_ (fun t k => XS.iloadN X0.here hx rfl (hb hby at_5) rfl k)
  obtain ⟨_, _, ⟨T1, L1, k1, n1⟩, -, X1, ⟨Lc1, hQ1, l1, y1, z1⟩, st1⟩ := Jvm.LawKit.callS X0 hx (y := (⟨"com/example/theseus/theseus/language/ComparisonOperatorIsEqualityPinLaw", "pick", "(I)Lcom/example/theseus/theseus/language/ComparisonOperator;"⟩ : MethodName)) hown (mvT hZ (hw _ (List.mem_of_getElem? (i := 0) rfl))) (mvT hZ (hw _ (List.mem_of_getElem? (i := 1) rfl))) (mvT hZ (hw _ (List.mem_of_getElem? (i := 2) rfl))) (mvT hZ (hw _ (List.mem_of_getElem? (i := 3) rfl))) (by decide) (backOf (W := 0) (rm1 l Z a0 hw [] (p1 &&& (7 : Int32)) x0 x1 x2 x3 x4 x5 x6 x7 h0 n0 Z0 P0 P1 P2 P3 P4 P5 P6 P7) hZ (hw _ (List.mem_of_getElem? (i := 3) rfl)) (hw _ (List.mem_of_getElem? (i := 2) rfl)) (by decide) (by decide)) (g := (mkF m 6 #[.val (.int p1), .val (.int (p1 &&& (7 : Int32))), .unset] [(.int (p1 &&& (7 : Int32)))])) rfl (by rw [hml]; rfl) (argsL := [(.int (p1 &&& (7 : Int32)))]) (rest := []) (lenOf pd_0_0 rfl) rfl (by show 2 * 0 + _ ≤ _; exact Nat.le_of_eq rfl) (hb hby at_6) (fun _ _ => ⟨rfl, e0, (by decide : 0 + 0 ≤ _), (by decide : 0 + 0 ≤ _)⟩)
  dsimp only [Pt.U, Pt.locs, Pt.cells, Pt.slots] at X1 l1 y1 z1 st1 hQ1
  subst l1 y1 z1
  obtain ⟨rfl, N1q, e1⟩ := hQ1
  have N1 := Fr.app N0 N1q
  refine Gen.on (b := T1.setTop (mkF m 9 #[.val (.int p1), .val (.int (p1 &&& (7 : Int32))), .unset] [(.ref (f1 (p1 &&& (7 : Int32)) x0 x1 x2 x3 x4 x5 x6 x7))])) ?_ (fun t k => st1 t k)
  refine Gen.on (b := T1.setTop (mkF m 10 #[.val (.int p1), .val (.int (p1 &&& (7 : Int32))), .val (.ref (f1 (p1 &&& (7 : Int32)) x0 x1 x2 x3 x4 x5 x6 x7))] [])) ?_ (fun t k => XS.astoreN X1.here hx rfl (hb hby at_9) rfl rfl (l' := #[.val (.int p1), .val (.int (p1 &&& (7 : Int32))), .val (.ref (f1 (p1 &&& (7 : Int32)) x0 x1 x2 x3 x4 x5 x6 x7))]) rfl k)
  refine Gen.on (b := T1.setTop (mkF m 11 #[.val (.int p1), .val (.int (p1 &&& (7 : Int32))), .val (.ref (f1 (p1 &&& (7 : Int32)) x0 x1 x2 x3 x4 x5 x6 x7))] [(.ref (f1 (p1 &&& (7 : Int32)) x0 x1 x2 x3 x4 x5 x6 x7))])) ?_ (fun t k => XS.aloadN X1.here hx rfl (hb hby at_10) rfl rfl k)
  obtain ⟨cq2, kq2, q2a, q2b, q2c⟩ := isOf hZ e1 (own_exa (p1 &&& (7 : Int32)) P8 P9 P10 P11 P12 P13 P14 P15)
  obtain ⟨_, _, ⟨T2, L2, k2, n2⟩, -, X2, ⟨Lc2, hQ2, l2, y2, z2⟩, st2⟩ := X1.virtualBack hx (y := (⟨"com/example/theseus/theseus/language/ComparisonOperator", "isEquality", "()Z"⟩ : MethodName)) (z := (⟨"com/example/theseus/theseus/language/ComparisonOperator", "isEquality", "()Z"⟩ : MethodName)) hown (mvT hZ (hw _ (List.mem_of_getElem? (i := 7) rfl))) (mvT hZ (hw _ (List.mem_of_getElem? (i := 8) rfl))) (notFace_of_selects (args := #[]) (mvT hZ (hw _ (List.mem_of_getElem? (i := 10) rfl)))) (mvT hZ (hw _ (List.mem_of_getElem? (i := 10) rfl))) (mvT hZ (hw _ (List.mem_of_getElem? (i := 9) rfl))) (by decide) (backOf (W := 0) (rm2 l Z a0 hw [] (f1 (p1 &&& (7 : Int32)) x0 x1 x2 x3 x4 x5 x6 x7) x0 x1 x6 x7 h0 n0 Z0 P0 P1 P6 P7) hZ (hw _ (List.mem_of_getElem? (i := 11) rfl)) (hw _ (List.mem_of_getElem? (i := 5) rfl)) (by decide) (by decide)) q2a q2c (g := (mkF m 11 #[.val (.int p1), .val (.int (p1 &&& (7 : Int32))), .val (.ref (f1 (p1 &&& (7 : Int32)) x0 x1 x2 x3 x4 x5 x6 x7))] [(.ref (f1 (p1 &&& (7 : Int32)) x0 x1 x2 x3 x4 x5 x6 x7))])) rfl (by rw [hml]; rfl) (Steps.refl _) (argsL := []) (rest := []) (lenOf pd_0_1 rfl) rfl (by show 2 * 0 + _ ≤ _; exact Nat.le_of_eq rfl) (hb hby at_11) (fun _ _ => ⟨rfl, e1, (by decide : 0 + 0 ≤ _), (by decide : 0 + 0 ≤ _)⟩)
  dsimp only [Pt.U, Pt.locs, Pt.cells, Pt.slots] at X2 l2 y2 z2 st2 hQ2
  subst l2 y2 z2
  obtain ⟨rfl, N2q, e2⟩ := hQ2
  have N2 := Fr.app N1 N2q
  refine Gen.on (b := T2.setTop (mkF m 14 #[.val (.int p1), .val (.int (p1 &&& (7 : Int32))), .val (.ref (f1 (p1 &&& (7 : Int32)) x0 x1 x2 x3 x4 x5 x6 x7))] [(.int (f2 (f1 (p1 &&& (7 : Int32)) x0 x1 x2 x3 x4 x5 x6 x7) x0 x1 x6 x7))])) ?_ (fun t k => st2.trans k)
  refine Gen.on (b := T2.setTop (mkF m 15 #[.val (.int p1), .val (.int (p1 &&& (7 : Int32))), .val (.ref (f1 (p1 &&& (7 : Int32)) x0 x1 x2 x3 x4 x5 x6 x7))] [(.int (p1 &&& (7 : Int32))), (.int (f2 (f1 (p1 &&& (7 : Int32)) x0 x1 x2 x3 x4 x5 x6 x7) x0 x1 x6 x7))])) ?_ (fun t k => XS.iloadN X2.here hx rfl (hb hby at_14) rfl k)
  obtain ⟨_, _, ⟨T3, L3, k3, n3⟩, -, X3, ⟨Lc3, hQ3, l3, y3, z3⟩, st3⟩ := Jvm.LawKit.callS X2 hx (y := (⟨"com/example/theseus/theseus/language/ComparisonOperatorIsEqualityPinLaw", "expected", "(I)Z"⟩ : MethodName)) hown (mvT hZ (hw _ (List.mem_of_getElem? (i := 13) rfl))) (mvT hZ (hw _ (List.mem_of_getElem? (i := 14) rfl))) (mvT hZ (hw _ (List.mem_of_getElem? (i := 2) rfl))) (mvT hZ (hw _ (List.mem_of_getElem? (i := 15) rfl))) (by decide) (backOf (W := 1) (rm3 l Z a0 hw [] (p1 &&& (7 : Int32))  h0 n0 Z0 ) hZ (hw _ (List.mem_of_getElem? (i := 15) rfl)) (hw _ (List.mem_of_getElem? (i := 2) rfl)) (by decide) (by decide)) (g := (mkF m 15 #[.val (.int p1), .val (.int (p1 &&& (7 : Int32))), .val (.ref (f1 (p1 &&& (7 : Int32)) x0 x1 x2 x3 x4 x5 x6 x7))] [(.int (p1 &&& (7 : Int32))), (.int (f2 (f1 (p1 &&& (7 : Int32)) x0 x1 x2 x3 x4 x5 x6 x7) x0 x1 x6 x7))])) rfl (by rw [hml]; rfl) (argsL := [(.int (p1 &&& (7 : Int32)))]) (rest := [(.int (f2 (f1 (p1 &&& (7 : Int32)) x0 x1 x2 x3 x4 x5 x6 x7) x0 x1 x6 x7))]) (lenOf pd_0_2 rfl) rfl (by show 2 * 0 + _ ≤ _; exact Nat.le_of_eq rfl) (hb hby at_15) (fun _ _ => ⟨rfl, e2, (by decide : 0 + 0 ≤ _), (by decide : 0 + 0 ≤ _)⟩)
  dsimp only [Pt.U, Pt.locs, Pt.cells, Pt.slots] at X3 l3 y3 z3 st3 hQ3
  subst l3 y3 z3
  obtain ⟨rfl, N3q, e3⟩ := hQ3
  have N3 := Fr.app N2 N3q
  refine Gen.on (b := T3.setTop (mkF m 18 #[.val (.int p1), .val (.int (p1 &&& (7 : Int32))), .val (.ref (f1 (p1 &&& (7 : Int32)) x0 x1 x2 x3 x4 x5 x6 x7))] [(.int (f3 (p1 &&& (7 : Int32)))), (.int (f2 (f1 (p1 &&& (7 : Int32)) x0 x1 x2 x3 x4 x5 x6 x7) x0 x1 x6 x7))])) ?_ (fun t k => st3 t k)
  refine Gen.on (b := T3.setTop (mkF m 21 #[.val (.int p1), .val (.int (p1 &&& (7 : Int32))), .val (.ref (f1 (p1 &&& (7 : Int32)) x0 x1 x2 x3 x4 x5 x6 x7))] [])) ?_ (fun t k => XS.icmpNo X3.here hx rfl (hb hby at_18) rfl (teq (own_law (p1 &&& (7 : Int32)) x0 x1 x2 x3 x4 x5 x6 x7 n20 n21 n26 n27 n30 n31 n36 n37 n40 n41 n46 n47 n50 n51 n56 n57)).2 k)
  refine Gen.on (b := T3.setTop (mkF m 22 #[.val (.int p1), .val (.int (p1 &&& (7 : Int32))), .val (.ref (f1 (p1 &&& (7 : Int32)) x0 x1 x2 x3 x4 x5 x6 x7))] [(.int (1 : Int32))])) ?_ (fun t k => XS.iconst X3.here hx rfl (hb hby at_21) k)
  refine Gen.on (b := T3.setTop (mkF m 26 #[.val (.int p1), .val (.int (p1 &&& (7 : Int32))), .val (.ref (f1 (p1 &&& (7 : Int32)) x0 x1 x2 x3 x4 x5 x6 x7))] [(.int (1 : Int32))])) ?_ (fun t k => XS.goto X3.here hx rfl (pc0 := 22) (pc' := 26) rfl (hb hby at_22) (by decide) (by decide) k)
  refine own_retN (t := .boolean) X3 hx Bd.returns (by simp) (by decide) (hb hby at_26) (by decide) (by decide) ?_
  exact ⟨rfl, N3⟩
set_option maxRecDepth 65536 in
set_option maxHeartbeats 40000000 in
theorem comes_1 {Post : Tables → Env → Array Value → State → Outcome → State → Prop} (hpost : ∀ tb e args s v u, (limb_1_1.after args s (.returned v) u = true ∧ limb_1_2.after args s (.returned v) u = true ∧ True) → FrameEnd s (.returned v) u (Jvm.fieldLocs frame_1_writes args s ++ Jvm.arrayLocs frame_1_arrays args s ++ Jvm.staticLocs frame_1_statics s) 0 0 → Post tb e args s (.returned v) u) :
    ArmFor flags0 classFile x code maxLocals ret World_1 tables_1 room_1 Calls_1 rest_1 Pre_1 Post := by
  intro l hfl _ _ p e ha hc hk s m args below hf hA hF happ hP
  obtain ⟨hcalls, hrest, hpre⟩ := hP
  obtain ⟨-, -, -, hnamed, -, -, -, hat⟩ := (Spec.applies_iff hf).mp happ
  obtain ⟨hg, hn⟩ := and_e (Cond.before_iff.mp (show (Jvm.Cond.and given_1 narrow_1).before args s = true from hpre))
  obtain ⟨hcount, hr1⟩ := and_e hg
  obtain ⟨w0, rfl⟩ : ∃ w0 : Value, args = #[w0] := by
    have hs : args.size = 1 := by simpa [Cond.value, given_1] using hcount
    obtain ⟨L⟩ := args
    match L, hs with
    | [w0], _ => exact ⟨w0, rfl⟩
  have hw := fun d (hd : d ∈ tables_1) => atoms_spec (ws := Jvm.Cond.code x code maxLocals ret :: tables_1) hat d (List.mem_cons_of_mem _ hd)
  have hfit : Fit s := fun {y c} hc i hi => by
    obtain ⟨ha, rfl⟩ := Array.getElem?_eq_some_iff.mp hc
    have q := List.all_eq_true.mp ((Array.all_eq_true_iff_forall_mem.mp hF) _ (Array.getElem_mem ha)) i (List.mem_range.mpr hi)
    simpa [Array.getElem?_eq_getElem hi] using q
  obtain ⟨i0, ei0⟩ := is_v hr1
  obtain rfl : w0 = (.int i0) := Option.some.inj ei0
  obtain ⟨hn0, hm0⟩ := and_e hn
  obtain ⟨x_EQUAL, ev_EQUAL⟩ := exa_v hn0
  have S_EQUAL := Sta.start ev_EQUAL (Or.inr ⟨(hw _ (List.mem_of_getElem? (i := 5) rfl)), (hw _ (List.mem_of_getElem? (i := 6) rfl))⟩)
  have E_EQUAL := Exa.start ev_EQUAL hn0
  obtain ⟨hn1, hm1⟩ := and_e hm0
  obtain ⟨x_LESS_OR_EQUAL, ev_LESS_OR_EQUAL⟩ := exa_v hn1
  have S_LESS_OR_EQUAL := Sta.start ev_LESS_OR_EQUAL (Or.inr ⟨(hw _ (List.mem_of_getElem? (i := 5) rfl)), (hw _ (List.mem_of_getElem? (i := 17) rfl))⟩)
  have E_LESS_OR_EQUAL := Exa.start ev_LESS_OR_EQUAL hn1
  obtain ⟨hn2, hm2⟩ := and_e hm1
  have o_LESS_OR_EQUAL : Fld s s.heap x_LESS_OR_EQUAL "java/lang/Enum" "ordinal" "I" (.int 3) := Fld.start ((fld_at ev_LESS_OR_EQUAL).symm.trans (own_eqi hn2))
  obtain ⟨hn3, hm3⟩ := and_e hm2
  have o_EQUAL : Fld s s.heap x_EQUAL "java/lang/Enum" "ordinal" "I" (.int 0) := Fld.start ((fld_at ev_EQUAL).symm.trans (own_eqi hn3))
  obtain ⟨hn4, hm4⟩ := and_e hm3
  obtain ⟨x_NOT_EQUAL, ev_NOT_EQUAL⟩ := exa_v hn4
  have S_NOT_EQUAL := Sta.start ev_NOT_EQUAL (Or.inr ⟨(hw _ (List.mem_of_getElem? (i := 5) rfl)), (hw _ (List.mem_of_getElem? (i := 19) rfl))⟩)
  have E_NOT_EQUAL := Exa.start ev_NOT_EQUAL hn4
  obtain ⟨hn5, hm5⟩ := and_e hm4
  have o_NOT_EQUAL : Fld s s.heap x_NOT_EQUAL "java/lang/Enum" "ordinal" "I" (.int 1) := Fld.start ((fld_at ev_NOT_EQUAL).symm.trans (own_eqi hn5))
  obtain ⟨hn6, hm6⟩ := and_e hm5
  obtain ⟨x_DISTINCT, ev_DISTINCT⟩ := exa_v hn6
  have S_DISTINCT := Sta.start ev_DISTINCT (Or.inr ⟨(hw _ (List.mem_of_getElem? (i := 5) rfl)), (hw _ (List.mem_of_getElem? (i := 21) rfl))⟩)
  have E_DISTINCT := Exa.start ev_DISTINCT hn6
  obtain ⟨hn7, hm7⟩ := and_e hm6
  have o_DISTINCT : Fld s s.heap x_DISTINCT "java/lang/Enum" "ordinal" "I" (.int 6) := Fld.start ((fld_at ev_DISTINCT).symm.trans (own_eqi hn7))
  obtain ⟨hn8, hm8⟩ := and_e hm7
  obtain ⟨x_NOT_DISTINCT, ev_NOT_DISTINCT⟩ := exa_v hn8
  have S_NOT_DISTINCT := Sta.start ev_NOT_DISTINCT (Or.inr ⟨(hw _ (List.mem_of_getElem? (i := 5) rfl)), (hw _ (List.mem_of_getElem? (i := 23) rfl))⟩)
  have E_NOT_DISTINCT := Exa.start ev_NOT_DISTINCT hn8
  obtain ⟨hn9, hm9⟩ := and_e hm8
  have o_NOT_DISTINCT : Fld s s.heap x_NOT_DISTINCT "java/lang/Enum" "ordinal" "I" (.int 7) := Fld.start ((fld_at ev_NOT_DISTINCT).symm.trans (own_eqi hn9))
  obtain ⟨hn10, hm10⟩ := and_e hm9
  obtain ⟨x_LESS, ev_LESS⟩ := exa_v hn10
  have S_LESS := Sta.start ev_LESS (Or.inr ⟨(hw _ (List.mem_of_getElem? (i := 5) rfl)), (hw _ (List.mem_of_getElem? (i := 27) rfl))⟩)
  have E_LESS := Exa.start ev_LESS hn10
  obtain ⟨hn11, hm11⟩ := and_e hm10
  have o_LESS : Fld s s.heap x_LESS "java/lang/Enum" "ordinal" "I" (.int 2) := Fld.start ((fld_at ev_LESS).symm.trans (own_eqi hn11))
  obtain ⟨hn12, hm12⟩ := and_e hm11
  obtain ⟨x_GREATER, ev_GREATER⟩ := exa_v hn12
  have S_GREATER := Sta.start ev_GREATER (Or.inr ⟨(hw _ (List.mem_of_getElem? (i := 5) rfl)), (hw _ (List.mem_of_getElem? (i := 30) rfl))⟩)
  have E_GREATER := Exa.start ev_GREATER hn12
  obtain ⟨hn13, hm13⟩ := and_e hm12
  have o_GREATER : Fld s s.heap x_GREATER "java/lang/Enum" "ordinal" "I" (.int 4) := Fld.start ((fld_at ev_GREATER).symm.trans (own_eqi hn13))
  obtain ⟨hn14, hm14⟩ := and_e hm13
  obtain ⟨x_GREATER_OR_EQUAL, ev_GREATER_OR_EQUAL⟩ := exa_v hn14
  have S_GREATER_OR_EQUAL := Sta.start ev_GREATER_OR_EQUAL (Or.inr ⟨(hw _ (List.mem_of_getElem? (i := 5) rfl)), (hw _ (List.mem_of_getElem? (i := 32) rfl))⟩)
  have E_GREATER_OR_EQUAL := Exa.start ev_GREATER_OR_EQUAL hn14
  have o_GREATER_OR_EQUAL : Fld s s.heap x_GREATER_OR_EQUAL "java/lang/Enum" "ordinal" "I" (.int 5) := Fld.start ((fld_at ev_GREATER_OR_EQUAL).symm.trans (own_eqi hm14))
  have n20 : x_LESS ≠ x_EQUAL := Fld.ne o_LESS o_EQUAL (by decide)
  have n21 : x_LESS ≠ x_NOT_EQUAL := Fld.ne o_LESS o_NOT_EQUAL (by decide)
  have n26 : x_LESS ≠ x_DISTINCT := Fld.ne o_LESS o_DISTINCT (by decide)
  have n27 : x_LESS ≠ x_NOT_DISTINCT := Fld.ne o_LESS o_NOT_DISTINCT (by decide)
  have n30 : x_LESS_OR_EQUAL ≠ x_EQUAL := Fld.ne o_LESS_OR_EQUAL o_EQUAL (by decide)
  have n31 : x_LESS_OR_EQUAL ≠ x_NOT_EQUAL := Fld.ne o_LESS_OR_EQUAL o_NOT_EQUAL (by decide)
  have n36 : x_LESS_OR_EQUAL ≠ x_DISTINCT := Fld.ne o_LESS_OR_EQUAL o_DISTINCT (by decide)
  have n37 : x_LESS_OR_EQUAL ≠ x_NOT_DISTINCT := Fld.ne o_LESS_OR_EQUAL o_NOT_DISTINCT (by decide)
  have n40 : x_GREATER ≠ x_EQUAL := Fld.ne o_GREATER o_EQUAL (by decide)
  have n41 : x_GREATER ≠ x_NOT_EQUAL := Fld.ne o_GREATER o_NOT_EQUAL (by decide)
  have n46 : x_GREATER ≠ x_DISTINCT := Fld.ne o_GREATER o_DISTINCT (by decide)
  have n47 : x_GREATER ≠ x_NOT_DISTINCT := Fld.ne o_GREATER o_NOT_DISTINCT (by decide)
  have n50 : x_GREATER_OR_EQUAL ≠ x_EQUAL := Fld.ne o_GREATER_OR_EQUAL o_EQUAL (by decide)
  have n51 : x_GREATER_OR_EQUAL ≠ x_NOT_EQUAL := Fld.ne o_GREATER_OR_EQUAL o_NOT_EQUAL (by decide)
  have n56 : x_GREATER_OR_EQUAL ≠ x_DISTINCT := Fld.ne o_GREATER_OR_EQUAL o_DISTINCT (by decide)
  have n57 : x_GREATER_OR_EQUAL ≠ x_NOT_DISTINCT := Fld.ne o_GREATER_OR_EQUAL o_NOT_DISTINCT (by decide)
  obtain ⟨n, o, h1, h2, h3, _, L, rfl, ⟨rfl, N⟩, hq⟩ := rm0 l s _ hw tables_1 i0 x_EQUAL x_NOT_EQUAL x_LESS x_LESS_OR_EQUAL x_GREATER x_GREATER_OR_EQUAL x_DISTINCT x_NOT_DISTINCT s.heap s.heap.size (Nat.le_refl _) S_EQUAL S_NOT_EQUAL S_LESS S_LESS_OR_EQUAL S_GREATER S_GREATER_OR_EQUAL S_DISTINCT S_NOT_DISTINCT E_EQUAL E_NOT_EQUAL E_LESS E_LESS_OR_EQUAL E_GREATER E_GREATER_OR_EQUAL E_DISTINCT E_NOT_DISTINCT n20 n21 n26 n27 n30 n31 n36 n37 n40 n41 n46 n47 n50 n51 n56 n57 p e ha hc hk s m _ below hf ((Spec.applies_iff_loose hf).mp happ).1 ⟨rfl, State.Warmed39.refl s, rfl⟩ trivial
  refine ⟨n, _, h1, h2, h3, hpost _ _ _ _ _ _ ⟨Cond.after_iff.mpr rfl, Cond.after_iff.mpr (eq_i res_at (Term.int_eval (1)) rfl), trivial⟩ ⟨hq.1, hq.2.1, (hq.2.2.sift fun y hy => Or.inr (N y hy)).mono (by decide) (by decide)⟩⟩
theorem main_1_1 : Claimed_1_1 := comes_1 fun _ _ _ _ _ _ h hF => ⟨h.1, hF⟩
theorem main_1_2 : Claimed_1_2 := comes_1 fun _ _ _ _ _ _ h hF => ⟨h.2.1, hF⟩
end Jvm.Pilot.@@N@@
namespace Jvm.Pilot.@@N@@
open Jvm Jvm.ClassFile Sem Op Lib Jvm.Free Jvm.Stand Jvm.Pilot.@@N@@.Jvm.D
/-! MADE BY PROGRAM (witnessworld.py) out of the Statement's table words and the real class files: 12 classes; the members and pool entries that the words name. The judged class is class 1, her method 3. -/
namespace start1
open Jvm.ClassFile
def u (s : String) : CpInfo := .utf8 (stringToUtf16 s)
/-- a pool by its gaps: so many unusable entries, then the entry; so many at the end -/
def gap : Nat → List CpInfo → List CpInfo
  | 0, r => r
  | n + 1, r => .unusable :: gap n r
def poolList (es : List (Nat × CpInfo)) (last : Nat) : List CpInfo := es.foldr (fun e r => gap e.1 (e.2 :: r)) (gap last [])
def pool (es : List (Nat × CpInfo)) (last : Nat) : Array CpInfo := ⟨poolList es last⟩
def fileOf (pool : Array CpInfo) (this : Nat) (attrs : Array Attribute := #[]) (ms : Array MethodInfo := #[]) (fl : Nat := 33) (sup : Nat := 0) (ifs : Array Nat := #[]) (fds : Array FieldInfo := #[]) : ClassFile where
  minorVersion := 0
  majorVersion := 65
  constantPool := pool
  accessFlags := fl
  thisClass := this
  superClass := sup
  interfaces := ifs
  fields := fds
  methods := ms
  attributes := attrs
def plain (name : String) (sup : Option ClassId) : Class where
  name := name
  kind := .ordinary
  loader := none
  accessFlags := 33
  super := sup
  interfaces := #[]
  cf := none
  fields := #[]
  methods := #[]
  instanceTypes := #[]
  staticTypes := #[]
  resolved := #[]
  callSites := []
  init := .initialized
  statics := none
  mirror := none

def pool0 : Array CpInfo := pool [(5, u "<init>"), (0, u "()V"), (1, .class_ 10), (1, u "java/lang/Object")] 113

def k0m0 : Method := { name := "<init>", desc := "()V", sig := { parameters := [], returnType := none }, accessFlags := 1, code := none }
/-- java/lang/Object -/
def k0 : Class := { plain "java/lang/Object" none with
  accessFlags := 33
  interfaces := #[]
  cf := some (fileOf pool0 8 #[] #[{ accessFlags := 1, nameIndex := 5, descriptorIndex := 6, attributes := #[] }] 33 0 #[] #[])
  fields := #[]
  methods := #[k0m0]
  instanceTypes := #[]
  staticTypes := #[]
  resolved := Array.replicate 124 none
  statics := none }

def pool1 : Array CpInfo := pool [(2, .class_ 4), (1, u "java/lang/Object"), (0, u "<init>"), (0, u "()V"), (0, .fieldref 8 9), (0, .class_ 10), (0, .nameAndType 11 12), (0, u "com/example/theseus/theseus/language/ComparisonOperator"), (0, u "EQUAL"), (0, u "Lcom/example/theseus/theseus/language/ComparisonOperator;"), (0, .fieldref 8 14), (0, .nameAndType 15 12), (0, u "NOT_EQUAL"), (0, .fieldref 8 17), (0, .nameAndType 18 12), (0, u "LESS"), (0, .fieldref 8 20), (0, .nameAndType 21 12), (0, u "LESS_OR_EQUAL"), (0, .fieldref 8 23), (0, .nameAndType 24 12), (0, u "GREATER"), (0, .fieldref 8 26), (0, .nameAndType 27 12), (0, u "GREATER_OR_EQUAL"), (0, .fieldref 8 29), (0, .nameAndType 30 12), (0, u "DISTINCT"), (0, .fieldref 8 32), (0, .nameAndType 33 12), (0, u "NOT_DISTINCT"), (0, .methodref 35 36), (0, .class_ 37), (0, .nameAndType 38 39), (0, u "com/example/theseus/theseus/language/ComparisonOperatorIsEqualityPinLaw"), (0, u "pick"), (0, u "(I)Lcom/example/theseus/theseus/language/ComparisonOperator;"), (0, .methodref 8 41), (0, .nameAndType 42 43), (0, u "isEquality"), (0, u "()Z"), (0, .methodref 35 45), (0, .nameAndType 46 47), (0, u "expected"), (0, u "(I)Z"), (3, u "law")] 2

def k1m0 : Method := { name := "<init>", desc := "()V", sig := { parameters := [], returnType := none }, accessFlags := 2, code := none }
def k1c1 : Code := { maxStack := 2, maxLocals := 1, code := method_2_code, exceptionTable := #[], attributes := #[] }
def k1m1 : Method := { name := "pick", desc := "(I)Lcom/example/theseus/theseus/language/ComparisonOperator;", sig := { parameters := [.int], returnType := some (.object "com/example/theseus/theseus/language/ComparisonOperator") }, accessFlags := 10, code := some k1c1 }
def k1c2 : Code := { maxStack := 2, maxLocals := 1, code := method_3_code, exceptionTable := #[], attributes := #[] }
def k1m2 : Method := { name := "expected", desc := "(I)Z", sig := { parameters := [.int], returnType := some .boolean }, accessFlags := 10, code := some k1c2 }
def k1c3 : Code := { maxStack := 2, maxLocals := 3, code := code, exceptionTable := #[], attributes := #[] }
def k1m3 : Method := { name := "law", desc := "(I)Z", sig := { parameters := [.int], returnType := some .boolean }, accessFlags := 9, code := some k1c3 }
/-- com/example/theseus/theseus/language/ComparisonOperatorIsEqualityPinLaw -/
def k1 : Class := { plain "com/example/theseus/theseus/language/ComparisonOperatorIsEqualityPinLaw" (some 0) with
  accessFlags := 49
  interfaces := #[]
  cf := some (fileOf pool1 35 #[] #[{ accessFlags := 2, nameIndex := 5, descriptorIndex := 6, attributes := #[] }, { accessFlags := 10, nameIndex := 38, descriptorIndex := 39, attributes := #[] }, { accessFlags := 10, nameIndex := 46, descriptorIndex := 47, attributes := #[] }, { accessFlags := 9, nameIndex := 51, descriptorIndex := 47, attributes := #[] }] 49 2 #[] #[])
  fields := #[]
  methods := #[k1m0, k1m1, k1m2, k1m3]
  instanceTypes := #[]
  staticTypes := #[]
  resolved := Array.replicate 54 none
  statics := none }

def pool2 : Array CpInfo := pool [(1, .class_ 2), (0, u "java/lang/constant/Constable"), (0, .class_ 4), (0, u "java/lang/Object")] 6

/-- java/lang/constant/Constable -/
def k2 : Class := { plain "java/lang/constant/Constable" (some 0) with
  accessFlags := 1537
  interfaces := #[]
  cf := some (fileOf pool2 1 #[] #[] 1537 3 #[] #[])
  fields := #[]
  methods := #[]
  instanceTypes := #[]
  staticTypes := #[]
  resolved := Array.replicate 11 none
  statics := none }

def pool3 : Array CpInfo := pool [(1, .class_ 2), (0, u "java/lang/Comparable"), (0, .class_ 4), (0, u "java/lang/Object")] 7

/-- java/lang/Comparable -/
def k3 : Class := { plain "java/lang/Comparable" (some 0) with
  accessFlags := 1537
  interfaces := #[]
  cf := some (fileOf pool3 1 #[] #[] 1537 3 #[] #[])
  fields := #[]
  methods := #[]
  instanceTypes := #[]
  staticTypes := #[]
  resolved := Array.replicate 12 none
  statics := none }

def pool4 : Array CpInfo := pool [(1, .class_ 2), (0, u "java/io/Serializable"), (0, .class_ 4), (0, u "java/lang/Object")] 2

/-- java/io/Serializable -/
def k4 : Class := { plain "java/io/Serializable" (some 0) with
  accessFlags := 1537
  interfaces := #[]
  cf := some (fileOf pool4 1 #[] #[] 1537 3 #[] #[])
  fields := #[]
  methods := #[]
  instanceTypes := #[]
  staticTypes := #[]
  resolved := Array.replicate 7 none
  statics := none }

def pool5 : Array CpInfo := pool [(2, .class_ 4), (1, u "java/lang/Enum"), (0, u "name"), (0, u "Ljava/lang/String;"), (2, u "ordinal"), (0, u "I"), (1, .class_ 14), (1, u "java/lang/Object"), (4, u "hash"), (86, .class_ 108), (1, u "java/lang/Enum$EnumDesc"), (2, .class_ 112), (0, u "java/lang/constant/Constable"), (0, .class_ 114), (0, u "java/lang/Comparable"), (0, .class_ 116), (0, u "java/io/Serializable")] 87

/-- java/lang/Enum -/
def k5 : Class := { plain "java/lang/Enum" (some 0) with
  accessFlags := 1057
  interfaces := #[2, 3, 4]
  cf := some (fileOf pool5 2 #[.nestMembers #[106]] #[] 1057 12 #[111, 113, 115] #[{ accessFlags := 18, nameIndex := 5, descriptorIndex := 6, attributes := #[] }, { accessFlags := 18, nameIndex := 9, descriptorIndex := 10, attributes := #[] }, { accessFlags := 2, nameIndex := 19, descriptorIndex := 10, attributes := #[] }])
  fields := #[{ name := "name", type := (.object "java/lang/String"), accessFlags := 18, slot := 0, constantValue := 0 }, { name := "ordinal", type := .int, accessFlags := 18, slot := 1, constantValue := 0 }, { name := "hash", type := .int, accessFlags := 2, slot := 2, constantValue := 0 }]
  methods := #[]
  instanceTypes := #[(.object "java/lang/String"), .int, .int]
  staticTypes := #[]
  resolved := Array.replicate 204 none
  statics := none }

def pool6 : Array CpInfo := pool [(1, .class_ 2), (0, u "com/example/theseus/theseus/language/ComparisonOperator"), (0, .fieldref 1 4), (0, .nameAndType 5 6), (0, u "EQUAL"), (0, u "Lcom/example/theseus/theseus/language/ComparisonOperator;"), (0, .fieldref 1 8), (0, .nameAndType 9 6), (0, u "NOT_EQUAL"), (2, u "LESS"), (2, u "LESS_OR_EQUAL"), (2, u "GREATER"), (2, u "GREATER_OR_EQUAL"), (0, .fieldref 1 23), (0, .nameAndType 24 6), (0, u "DISTINCT"), (0, .fieldref 1 26), (0, .nameAndType 27 6), (0, u "NOT_DISTINCT"), (2, u "$VALUES"), (0, u "[Lcom/example/theseus/theseus/language/ComparisonOperator;"), (6, .class_ 40), (1, u "java/lang/Enum"), (26, u "isEquality"), (0, u "()Z")] 5

def k6c0 : Code := { maxStack := 2, maxLocals := 1, code := prog_8_method_4_code, exceptionTable := #[], attributes := #[] }
def k6m0 : Method := { name := "isEquality", desc := "()Z", sig := { parameters := [], returnType := some .boolean }, accessFlags := 1, code := some k6c0 }
/-- com/example/theseus/theseus/language/ComparisonOperator -/
def k6 : Class := { plain "com/example/theseus/theseus/language/ComparisonOperator" (some 5) with
  accessFlags := 16433
  interfaces := #[]
  cf := some (fileOf pool6 1 #[] #[{ accessFlags := 1, nameIndex := 67, descriptorIndex := 68, attributes := #[] }] 16433 38 #[] #[{ accessFlags := 16409, nameIndex := 5, descriptorIndex := 6, attributes := #[] }, { accessFlags := 16409, nameIndex := 9, descriptorIndex := 6, attributes := #[] }, { accessFlags := 16409, nameIndex := 12, descriptorIndex := 6, attributes := #[] }, { accessFlags := 16409, nameIndex := 15, descriptorIndex := 6, attributes := #[] }, { accessFlags := 16409, nameIndex := 18, descriptorIndex := 6, attributes := #[] }, { accessFlags := 16409, nameIndex := 21, descriptorIndex := 6, attributes := #[] }, { accessFlags := 16409, nameIndex := 24, descriptorIndex := 6, attributes := #[] }, { accessFlags := 16409, nameIndex := 27, descriptorIndex := 6, attributes := #[] }, { accessFlags := 4122, nameIndex := 30, descriptorIndex := 31, attributes := #[] }])
  fields := #[{ name := "EQUAL", type := (.object "com/example/theseus/theseus/language/ComparisonOperator"), accessFlags := 16409, slot := 0, constantValue := 0 }, { name := "NOT_EQUAL", type := (.object "com/example/theseus/theseus/language/ComparisonOperator"), accessFlags := 16409, slot := 1, constantValue := 0 }, { name := "LESS", type := (.object "com/example/theseus/theseus/language/ComparisonOperator"), accessFlags := 16409, slot := 2, constantValue := 0 }, { name := "LESS_OR_EQUAL", type := (.object "com/example/theseus/theseus/language/ComparisonOperator"), accessFlags := 16409, slot := 3, constantValue := 0 }, { name := "GREATER", type := (.object "com/example/theseus/theseus/language/ComparisonOperator"), accessFlags := 16409, slot := 4, constantValue := 0 }, { name := "GREATER_OR_EQUAL", type := (.object "com/example/theseus/theseus/language/ComparisonOperator"), accessFlags := 16409, slot := 5, constantValue := 0 }, { name := "DISTINCT", type := (.object "com/example/theseus/theseus/language/ComparisonOperator"), accessFlags := 16409, slot := 6, constantValue := 0 }, { name := "NOT_DISTINCT", type := (.object "com/example/theseus/theseus/language/ComparisonOperator"), accessFlags := 16409, slot := 7, constantValue := 0 }, { name := "$VALUES", type := (.array (.object "com/example/theseus/theseus/language/ComparisonOperator")), accessFlags := 4122, slot := 8, constantValue := 0 }]
  methods := #[k6m0]
  instanceTypes := #[(.object "java/lang/String"), .int, .int]
  staticTypes := #[(.object "com/example/theseus/theseus/language/ComparisonOperator"), (.object "com/example/theseus/theseus/language/ComparisonOperator"), (.object "com/example/theseus/theseus/language/ComparisonOperator"), (.object "com/example/theseus/theseus/language/ComparisonOperator"), (.object "com/example/theseus/theseus/language/ComparisonOperator"), (.object "com/example/theseus/theseus/language/ComparisonOperator"), (.object "com/example/theseus/theseus/language/ComparisonOperator"), (.object "com/example/theseus/theseus/language/ComparisonOperator"), (.array (.object "com/example/theseus/theseus/language/ComparisonOperator"))]
  resolved := Array.replicate 74 none
  statics := some 0 }

def pool7 : Array CpInfo := pool [(1, u "java/lang/Cloneable"), (0, .class_ 1), (0, u "java/lang/Object"), (0, .class_ 3)] 3

/-- java/lang/Cloneable -/
def k7 : Class := { plain "java/lang/Cloneable" (some 0) with
  accessFlags := 1537
  interfaces := #[]
  cf := some (fileOf pool7 2 #[] #[] 1537 4 #[] #[])
  fields := #[]
  methods := #[]
  instanceTypes := #[]
  staticTypes := #[]
  resolved := Array.replicate 8 none
  statics := none }

/-- the primitive byte -/
def k8 : Class := { plain "byte" none with kind := .primitive 'B', accessFlags := 0x411 }
/-- [B -/
def k9 : Class := { plain "[B" (some 0) with kind := .array 8 .byte, interfaces := #[7, 4], accessFlags := 1041 }

/-- the primitive int -/
def k10 : Class := { plain "int" none with kind := .primitive 'I', accessFlags := 0x411 }
/-- [I -/
def k11 : Class := { plain "[I" (some 0) with kind := .array 10 .int, interfaces := #[7, 4], accessFlags := 1041 }

def heap : Heap := #[{ cls := 6, slots := #[.ref 1, .ref 2, .ref 3, .ref 4, .ref 5, .ref 6, .ref 7, .ref 8, .null], vm := .statics 6 },
  { cls := 6, slots := #[.null, .int 0, .int 0], vm := .none },
  { cls := 6, slots := #[.null, .int 1, .int 0], vm := .none },
  { cls := 6, slots := #[.null, .int 2, .int 0], vm := .none },
  { cls := 6, slots := #[.null, .int 3, .int 0], vm := .none },
  { cls := 6, slots := #[.null, .int 4, .int 0], vm := .none },
  { cls := 6, slots := #[.null, .int 5, .int 0], vm := .none },
  { cls := 6, slots := #[.null, .int 6, .int 0], vm := .none },
  { cls := 6, slots := #[.null, .int 7, .int 0], vm := .none }]
def classes : Array Class := #[k0, k1, k2, k3, k4, k5, k6, k7, k8, k9, k10, k11]
def interned : List (Array UInt16 × Addr) := []
def slotsUsed : Nat := 33
def theMethod : MethodId := ⟨1, 3⟩
def args0 : Array Value := #[.int 3]
def aboutOver (below : List Frame) : State where
  vm := { classes := classes, interned := interned.toArray }
  heap := heap
  slotsUsed := slotsUsed
  threads := #[{ frames := .invoking theMethod args0 :: below }]
def below0 : List Frame := [.native { method := ⟨0, 0⟩, args := #[] }]
def about1 : State := aboutOver below0
def p0 : Program := .bare "" "" ""
def e0 : Env := launch0.env 0 0 0
theorem w_frames : about1.frames = Frame.invoking theMethod args0 :: below0 := rfl
set_option maxRecDepth 65536 in
theorem w_args : argsFit about1.vm theMethod args0 = true := by decide +kernel
set_option maxRecDepth 65536 in
theorem w_heap : heapFits about1 = true := by decide +kernel
set_option maxRecDepth 65536 in
theorem w_runnable : about1.curStatus? = some .runnable := by decide +kernel
set_option maxRecDepth 65536 in
theorem w_alone : about1.alone = true := by decide +kernel
set_option maxRecDepth 65536 in
theorem w_named : about1.methodNamed? x = some theMethod := by decide +kernel
set_option maxRecDepth 65536 in
theorem w_hears : about1.hears theMethod below0 = true := by decide +kernel
set_option maxRecDepth 65536 in
theorem w_ripe : about1.ripe theMethod args0 below0 = true := by decide +kernel
theorem w_running : about1.status = .running := rfl
set_option maxRecDepth 65536 in
theorem w_room : about1.hasRoom e0.platform room_1 = true :=
  launch0.hasRoom_least _ room_1 (by decide +kernel) (by decide +kernel) (by decide +kernel) (by decide +kernel) (by decide +kernel) (by decide +kernel)
theorem allAtoms_all (ts : List Jvm.Cond) (a : Array Jvm.Value) (st : Jvm.State) : (allAtoms ts).before a st = ts.all (fun c => c.before a st) := by
  induction ts with
  | nil => rfl
  | cons c t ih =>
    show (Jvm.Cond.and c (allAtoms t)).before a st = _
    rw [Jvm.Cond.before_and, ih, List.all_cons]
def words1 : List Jvm.Cond := Jvm.Cond.code x code maxLocals ret :: tables_1
/-- a 'code' word, met by the world's own term for the bytes: nothing is compared byte by byte -/
theorem code_word {y : MethodName} {bytes : ByteArray} {mx : Nat} {rt : Option FieldType} {a : Array Value} {s : State} {m : MethodId} {meth : Method} {c : Code} (h1 : s.methodNamed? y = some m) (h2 : s.vm.method? m = some meth) (h3 : meth.code = some c) (h4 : c.code = bytes)
    (h5 : (c.maxLocals == mx && c.exceptionTable.isEmpty && decide (c.maxStack ≤ mostOperands) && decide (meth.sig.returnType = rt) && !meth.locks && decide (parseMethodDescriptor y.desc = some meth.sig)) = true) : (Jvm.Cond.code y bytes mx rt).before a s = true := by
  simp only [Bool.and_eq_true, beq_iff_eq, Bool.not_eq_true', decide_eq_true_eq] at h5
  obtain ⟨⟨⟨⟨⟨g1, g2⟩, g3⟩, g4⟩, g5⟩, g6⟩ := h5
  simp [Cond.before, Cond.holds, Cond.value, h1, h2, h3, h4, g1, g2, g3, g4, g5, g6]
def isCode : Jvm.Cond → Bool
  | .code _ _ _ _ => true
  | _ => false
theorem all_split {L : List Jvm.Cond} {P : Jvm.Cond → Bool} (h1 : L.all (fun c => isCode c || P c) = true) (h2 : ∀ c ∈ L.filter isCode, P c = true) : L.all P = true := by
  refine List.all_eq_true.mpr fun c hc => ?_
  have h := List.all_eq_true.mp h1 c hc
  rcases Bool.eq_false_or_eq_true (isCode c) with hi | hi
  · exact h2 c (List.mem_filter.mpr ⟨hc, hi⟩)
  · simpa [hi] using h
set_option maxRecDepth 65536 in
theorem w_c0 : (Jvm.Cond.code x code maxLocals ret).before args0 about1 = true := code_word (m := ⟨1, 3⟩) (meth := k1m3) (c := k1c3) (by decide +kernel) rfl rfl rfl (by decide +kernel)
set_option maxRecDepth 65536 in
theorem w_c1 : (Jvm.Cond.code ({ cls := "com/example/theseus/theseus/language/ComparisonOperatorIsEqualityPinLaw", name := "pick", desc := "(I)Lcom/example/theseus/theseus/language/ComparisonOperator;" } : Jvm.MethodName) method_2_code (1 : Nat) (Option.some (Jvm.ClassFile.FieldType.object "com/example/theseus/theseus/language/ComparisonOperator"))).before args0 about1 = true := code_word (m := ⟨1, 1⟩) (meth := k1m1) (c := k1c1) (by decide +kernel) rfl rfl rfl (by decide +kernel)
set_option maxRecDepth 65536 in
theorem w_c2 : (Jvm.Cond.code ({ cls := "com/example/theseus/theseus/language/ComparisonOperator", name := "isEquality", desc := "()Z" } : Jvm.MethodName) prog_8_method_4_code (1 : Nat) (Option.some Jvm.ClassFile.FieldType.boolean)).before args0 about1 = true := code_word (m := ⟨6, 0⟩) (meth := k6m0) (c := k6c0) (by decide +kernel) rfl rfl rfl (by decide +kernel)
set_option maxRecDepth 65536 in
theorem w_c3 : (Jvm.Cond.code ({ cls := "com/example/theseus/theseus/language/ComparisonOperatorIsEqualityPinLaw", name := "expected", desc := "(I)Z" } : Jvm.MethodName) method_3_code (1 : Nat) (Option.some Jvm.ClassFile.FieldType.boolean)).before args0 about1 = true := code_word (m := ⟨1, 2⟩) (meth := k1m2) (c := k1c2) (by decide +kernel) rfl rfl rfl (by decide +kernel)
def codes1 : List Jvm.Cond := [Jvm.Cond.code x code maxLocals ret, Jvm.Cond.code ({ cls := "com/example/theseus/theseus/language/ComparisonOperatorIsEqualityPinLaw", name := "pick", desc := "(I)Lcom/example/theseus/theseus/language/ComparisonOperator;" } : Jvm.MethodName) method_2_code (1 : Nat) (Option.some (Jvm.ClassFile.FieldType.object "com/example/theseus/theseus/language/ComparisonOperator")), Jvm.Cond.code ({ cls := "com/example/theseus/theseus/language/ComparisonOperator", name := "isEquality", desc := "()Z" } : Jvm.MethodName) prog_8_method_4_code (1 : Nat) (Option.some Jvm.ClassFile.FieldType.boolean), Jvm.Cond.code ({ cls := "com/example/theseus/theseus/language/ComparisonOperatorIsEqualityPinLaw", name := "expected", desc := "(I)Z" } : Jvm.MethodName) method_3_code (1 : Nat) (Option.some Jvm.ClassFile.FieldType.boolean)]
set_option maxRecDepth 65536 in
theorem codes_eq : words1.filter isCode = codes1 := rfl
theorem w_codes : ∀ c ∈ words1.filter isCode, c.before args0 about1 = true := by
  rw [codes_eq]
  intro c hc
  simp only [codes1, List.mem_cons, List.not_mem_nil, or_false] at hc
  rcases hc with rfl | rfl | rfl | rfl
  · exact w_c0
  · exact w_c1
  · exact w_c2
  · exact w_c3
set_option maxRecDepth 65536 in
theorem w_t1 : (words1.take 24).all (fun c => isCode c || c.before args0 about1) = true := by decide +kernel
set_option maxRecDepth 65536 in
theorem w_t2 : (words1.drop 24).all (fun c => isCode c || c.before args0 about1) = true := by decide +kernel
theorem w_tables : (allAtoms (Jvm.Cond.code x code maxLocals ret :: tables_1)).before args0 about1 = true := by
  rw [allAtoms_all]
  show words1.all (fun c => c.before args0 about1) = true
  refine all_split ?_ w_codes
  rw [← List.take_append_drop 24 words1, List.all_append, w_t1, w_t2]
  rfl
set_option maxRecDepth 65536 in
theorem w_case : (Jvm.Cond.and given_1 narrow_1).before args0 about1 = true := by decide +kernel
theorem w_applies : (headSpec (Jvm.Cond.code x code maxLocals ret :: tables_1) room_1).applies x e0.platform about1 = true :=
  (Spec.applies_iff w_frames).mpr ⟨w_running, w_runnable, w_alone, w_named, w_hears, w_ripe, w_room, w_tables⟩
theorem atStart : AtStart classFile x code maxLocals ret World_1 tables_1 room_1 Calls_1 rest_1 Pre_1 launch0 p0 e0 about1 theMethod args0 below0 :=
  ⟨lists_1, trivial, launch0.admits_env _ _ _, launch0.least_env, fairChoices_fair.cas, fairChoices_fair.clock, w_frames, w_args, w_heap, w_applies, trivial, trivial, w_case⟩
end start1
theorem witness_1 : WitnessClaimed_1 := ⟨start1.p0, start1.e0, start1.about1, start1.theMethod, start1.args0, start1.below0, start1.atStart⟩
end Jvm.Pilot.@@N@@
