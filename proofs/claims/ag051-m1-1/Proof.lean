import JvmDerived
import JvmDerived.Pilot.@@N@@Statement
import JvmDerived.Pilot.@@N@@Code
set_option linter.unusedVariables false
set_option linter.unusedSimpArgs false
@@BLOCK:NumsL.lean.txt@@
namespace Jvm.Pilot.@@N@@
open Jvm Jvm.ClassFile Sem Op Lib Jvm.Free Jvm.Stand Jvm.LawKit Jvm.RoadKit Bundle Jvm.Pilot.@@N@@.Jvm.D
section OwnKit
variable {p : Program} {l : Launch} {e : Env} {R : Room} {s : State} {m : MethodId} {args : Array Value} {below : List Frame} {meth : Method} {c : Code} {T : State} {locs : List Loc} {cells slots : Nat}
/-- from the state a the run comes to a state of which P holds -/
def Gen (p : Program) (e : Env) (below : List Frame) (P : State → Prop) (a : State) : Prop := ∃ s₂, Steps p.tables e below a s₂ ∧ P s₂
theorem Gen.on {P : State → Prop} {a b : State} (k : Gen p e below P b) (h : ∀ t, Steps p.tables e below b t → Steps p.tables e below a t) : Gen p e below P a := by
  obtain ⟨s2, h1, h2⟩ := k
  exact ⟨s2, h _ h1, h2⟩
/-- the body has returned, and Q holds of what it returns, leaves and has written -/
def OwnP (below : List Frame) (s : State) (Q : Option Value → Heap → List Loc → Prop) (C S : Nat) (s₂ : State) : Prop := ∃ o, s₂.status = .running ∧ Ended s₂ below o ∧ ∃ v L, o = .returned v ∧ Q v s₂.heap L ∧ FrameEnd s o s₂ L C S
def Own (p : Program) (e : Env) (below : List Frame) (s : State) (Q : Option Value → Heap → List Loc → Prop) (C S : Nat) (a : State) : Prop := Gen p e below (OwnP below s Q C S) a
variable {Q : Option Value → Heap → List Loc → Prop} {C S : Nat}
theorem own_start {a : State} (k : Own p e below s Q C S a) : ∃ s₂ o, Steps p.tables e below a s₂ ∧ s₂.status = .running ∧ Ended s₂ below o ∧ ∃ v L, o = .returned v ∧ Q v s₂.heap L ∧ FrameEnd s o s₂ L C S := by
  obtain ⟨s2, h1, o, h2⟩ := k
  exact ⟨s2, o, h1, h2⟩
/-- the walk stands in a frame F, the heap being H, with what X had written -/
def own_at (X : Stand p l e R s m args below meth c T locs cells slots) (H : Heap) (F : JFrame) (s₂ : State) : Prop := ∃ T', Stand p l e R s m args below meth c T' locs cells slots ∧ T'.heap = H ∧ s₂ = T'.setTop F
theorem own_ret (X : Stand p l e R s m args below meth c T locs cells slots) {g : JFrame} {v : Option Value} (hv : meth.sig.returnType = none → v = none) (hlocks : meth.locks = false) (hc : cells ≤ C) (hs : slots ≤ S) (hq : Q v T.heap locs)
    (st : ∀ fs, (∀ (f : JFrame) (acts : List Action), f.method = m → f.locked = none → f.entered = [] → (doReturn e (T.setTop f) acts v).1 = T.setFrames fs) → Steps p.tables e below (T.setTop g) (T.setFrames fs)) : Own p e below s Q C S (T.setTop g) := by
  obtain ⟨fs, hr, hrun, hended, hW, hsame⟩ := X.leave (v := v) hv hlocks
  exact ⟨_, st fs hr, _, hrun, hended, _, _, rfl, hq, ⟨_, rfl⟩, hW, hsame.mono hc hs⟩
theorem own_retI (X : Stand p l e R s m args below meth c T locs cells slots) (hx : p.tables.exec = Jvm.exec) {pc : Nat} {Ls : Array Slot} {z : Int32} {rest : List Value} (hret : meth.sig.returnType = some .int) (hd : decode c.code pc = .ok (.ireturn, 1)) (hc : cells ≤ C) (hs : slots ≤ S) (hq : Q (some (.int z)) T.heap locs) (hlocks : meth.locks = false := by first | assumption | exact BodyLoose.notSynchronized (by assumption)) : Own p e below s Q C S (T.setTop (mkF m pc Ls (.int z :: rest))) :=
  own_ret X (fun h => by rw [hret] at h; cases h) hlocks hc hs hq fun fs hr => retOut X hx hret rfl (Or.inl ⟨rfl, Or.inl rfl, z, rfl⟩) hd hr
theorem own_retN (X : Stand p l e R s m args below meth c T locs cells slots) (hx : p.tables.exec = Jvm.exec) {pc : Nat} {Ls : Array Slot} {z : Int32} {t : FieldType} {rest : List Value} (hret : meth.sig.returnType = some t) (ht : t = .boolean ∨ t = .byte ∨ t = .char ∨ t = .short) (hz : nar t z = z) (hd : decode c.code pc = .ok (.ireturn, 1)) (hc : cells ≤ C) (hs : slots ≤ S) (hq : Q (some (.int z)) T.heap locs) (hlocks : meth.locks = false := by first | assumption | exact BodyLoose.notSynchronized (by assumption)) : Own p e below s Q C S (T.setTop (mkF m pc Ls (.int z :: rest))) :=
  own_ret X (fun h => by rw [hret] at h; cases h) hlocks hc hs hq fun fs hr => retN X hx hret ht hd (by rw [hz]; exact hr)
theorem own_retJ (X : Stand p l e R s m args below meth c T locs cells slots) (hx : p.tables.exec = Jvm.exec) {pc : Nat} {Ls : Array Slot} {z : Int64} {rest : List Value} (hret : meth.sig.returnType = some .long) (hd : decode c.code pc = .ok (.lreturn, 1)) (hc : cells ≤ C) (hs : slots ≤ S) (hq : Q (some (.long z)) T.heap locs) (hlocks : meth.locks = false := by first | assumption | exact BodyLoose.notSynchronized (by assumption)) : Own p e below s Q C S (T.setTop (mkF m pc Ls (.long z :: rest))) :=
  own_ret X (fun h => by rw [hret] at h; cases h) hlocks hc hs hq fun fs hr => retOut X hx hret rfl (Or.inr (Or.inl ⟨rfl, rfl, z, rfl⟩)) hd hr
theorem own_retA (X : Stand p l e R s m args below meth c T locs cells slots) (hx : p.tables.exec = Jvm.exec) {pc : Nat} {Ls : Array Slot} {w : Value} {t : FieldType} {rest : List Value} (hret : meth.sig.returnType = some t) (ht : t.isReference = true) (hw : w.isRef = true) (hd : decode c.code pc = .ok (.areturn, 1)) (hc : cells ≤ C) (hs : slots ≤ S) (hq : Q (some w) T.heap locs) (hlocks : meth.locks = false := by first | assumption | exact BodyLoose.notSynchronized (by assumption)) : Own p e below s Q C S (T.setTop (mkF m pc Ls (w :: rest))) :=
  own_ret X (fun h => by rw [hret] at h; cases h) hlocks hc hs hq fun fs hr => retOut X hx hret (by cases t <;> cases w <;> simp [FieldType.isReference, Value.isRef] at ht hw <;> rfl) (Or.inr (Or.inr (Or.inr (Or.inr ⟨rfl, ht, hw⟩)))) hd hr
theorem own_ret0 (X : Stand p l e R s m args below meth c T locs cells slots) (hx : p.tables.exec = Jvm.exec) {pc : Nat} {Ls : Array Slot} (hret : meth.sig.returnType = none) (hd : decode c.code pc = .ok (.return_, 1)) (hc : cells ≤ C) (hs : slots ≤ S) (hq : Q none T.heap locs) (hlocks : meth.locks = false := by first | assumption | exact BodyLoose.notSynchronized (by assumption)) : Own p e below s Q C S (T.setTop (mkF m pc Ls [])) :=
  own_ret X (fun _ => rfl) hlocks hc hs hq fun fs hr => X.returnOut hx hret hd hr
theorem own_lt1 {a b : Int64} (h : a < b) : ifCond.holds .lt (lcmpW a b) = true ∧ ifCond.holds .ge (lcmpW a b) = false := by
  have h1 : ¬ a > b := fun q => by rw [gt_iff_lt, Int64.lt_iff_toInt_lt] at q; rw [Int64.lt_iff_toInt_lt] at h; omega
  have h2 : ¬ a = b := fun q => by subst q; exact h1 h
  rw [lcmpW, if_neg h1, if_neg h2]; exact ⟨rfl, rfl⟩
theorem own_lt0 {a b : Int64} (h : ¬ a < b) : ifCond.holds .lt (lcmpW a b) = false ∧ ifCond.holds .ge (lcmpW a b) = true := by
  rw [lcmpW]
  by_cases h1 : a > b
  · rw [if_pos h1]; exact ⟨rfl, rfl⟩
  · have h2 : a = b := by rw [gt_iff_lt, Int64.lt_iff_toInt_lt] at h1; rw [Int64.lt_iff_toInt_lt] at h; exact Int64.toInt_inj.mp (by omega)
    rw [if_neg h1, if_pos h2]; exact ⟨rfl, rfl⟩
theorem own_gt1 {a b : Int64} (h : b < a) : ifCond.holds .gt (lcmpW a b) = true ∧ ifCond.holds .le (lcmpW a b) = false := by
  rw [lcmpW, if_pos h]; exact ⟨rfl, rfl⟩
theorem own_gt0 {a b : Int64} (h : ¬ b < a) : ifCond.holds .gt (lcmpW a b) = false ∧ ifCond.holds .le (lcmpW a b) = true := by
  rw [lcmpW, if_neg h]
  by_cases h1 : a = b
  · rw [if_pos h1]; exact ⟨rfl, rfl⟩
  · rw [if_neg h1]; exact ⟨rfl, rfl⟩
theorem own_eq1 {a b : Int64} (h : a = b) : ifCond.holds .eq (lcmpW a b) = true ∧ ifCond.holds .ne (lcmpW a b) = false := by
  have h1 : ¬ a > b := fun q => by subst h; rw [gt_iff_lt, Int64.lt_iff_toInt_lt] at q; omega
  rw [lcmpW, if_neg h1, if_pos h]; exact ⟨rfl, rfl⟩
theorem own_eq0 {a b : Int64} (h : ¬ a = b) : ifCond.holds .eq (lcmpW a b) = false ∧ ifCond.holds .ne (lcmpW a b) = true := by
  rw [lcmpW]
  by_cases h1 : a > b
  · rw [if_pos h1]; exact ⟨rfl, rfl⟩
  · rw [if_neg h1, if_neg h]; exact ⟨rfl, rfl⟩
theorem own_sta_keep {Z : State} {h h' : Heap} {C n d : String} {w : Value} (F : Sta Z h C n d w) (K : Keep h h' []) : Sta Z h' C n d w := by
  obtain ⟨cf, i, k, f, st, cell, h1, h2, h3, h4, h5, h6⟩ := F
  exact ⟨cf, i, k, f, st, cell, h1, h2, h3, h4, K.2.1 st cell h5 nin0, h6⟩
theorem own_arr_keep {Z : State} {h h' : Heap} {a : Addr} {cl : Cell} {ty : FieldType} {ws : List Addr} (A : Arr Z h a cl ty) (K : Keep h h' ws) (q : a ∉ ws) : Arr Z h' a cl ty := ⟨K.2.1 a cl A.1 q, A.2⟩
end OwnKit

theorem d1_0 : decode prog_110_method_6_code 0 = .ok (.iload_n 0, 1) := by decide +kernel
theorem d1_1 : decode prog_110_method_6_code 1 = .ok (.bipush 32, 2) := by decide +kernel
theorem d1_3 : decode prog_110_method_6_code 3 = .ok (.if_icmp .lt 49, 3) := by decide +kernel
theorem d1_6 : decode prog_110_method_6_code 6 = .ok (.iload_n 0, 1) := by decide +kernel
theorem d1_7 : decode prog_110_method_6_code 7 = .ok (.bipush 127, 2) := by decide +kernel
theorem d1_9 : decode prog_110_method_6_code 9 = .ok (.if_icmp .lt 35, 3) := by decide +kernel
theorem d1_12 : decode prog_110_method_6_code 12 = .ok (.iload_n 0, 1) := by decide +kernel
theorem d1_13 : decode prog_110_method_6_code 13 = .ok (.sipush 159, 3) := by decide +kernel
theorem d1_16 : decode prog_110_method_6_code 16 = .ok (.if_icmp .le 16, 3) := by decide +kernel
theorem d1_19 : decode prog_110_method_6_code 19 = .ok (.iload_n 0, 1) := by decide +kernel
theorem d1_20 : decode prog_110_method_6_code 20 = .ok (.ldc 36, 2) := by decide +kernel
theorem d1_22 : decode prog_110_method_6_code 22 = .ok (.if_icmp .ge 10, 3) := by decide +kernel
theorem d1_25 : decode prog_110_method_6_code 25 = .ok (.iload_n 0, 1) := by decide +kernel
theorem d1_26 : decode prog_110_method_6_code 26 = .ok (.sipush 8232, 3) := by decide +kernel
theorem d1_29 : decode prog_110_method_6_code 29 = .ok (.if_icmp .ne 15, 3) := by decide +kernel
theorem d1_32 : decode prog_110_method_6_code 32 = .ok (.iload_n 0, 1) := by decide +kernel
theorem d1_33 : decode prog_110_method_6_code 33 = .ok (.ldc 37, 2) := by decide +kernel
theorem d1_35 : decode prog_110_method_6_code 35 = .ok (.if_icmp .le 13, 3) := by decide +kernel
theorem d1_38 : decode prog_110_method_6_code 38 = .ok (.iload_n 0, 1) := by decide +kernel
theorem d1_39 : decode prog_110_method_6_code 39 = .ok (.ldc 38, 2) := by decide +kernel
theorem d1_41 : decode prog_110_method_6_code 41 = .ok (.if_icmp .gt 7, 3) := by decide +kernel
theorem d1_44 : decode prog_110_method_6_code 44 = .ok (.iconst 1, 1) := by decide +kernel
theorem d1_45 : decode prog_110_method_6_code 45 = .ok (.goto 24, 3) := by decide +kernel
theorem d1_48 : decode prog_110_method_6_code 48 = .ok (.iconst 0, 1) := by decide +kernel
theorem d1_49 : decode prog_110_method_6_code 49 = .ok (.goto 20, 3) := by decide +kernel
theorem d1_52 : decode prog_110_method_6_code 52 = .ok (.iload_n 0, 1) := by decide +kernel
theorem d1_53 : decode prog_110_method_6_code 53 = .ok (.bipush 10, 2) := by decide +kernel
theorem d1_55 : decode prog_110_method_6_code 55 = .ok (.if_icmp .eq 9, 3) := by decide +kernel
theorem d1_58 : decode prog_110_method_6_code 58 = .ok (.iload_n 0, 1) := by decide +kernel
theorem d1_59 : decode prog_110_method_6_code 59 = .ok (.bipush 9, 2) := by decide +kernel
theorem d1_61 : decode prog_110_method_6_code 61 = .ok (.if_icmp .ne 7, 3) := by decide +kernel
theorem d1_64 : decode prog_110_method_6_code 64 = .ok (.iconst 1, 1) := by decide +kernel
theorem d1_65 : decode prog_110_method_6_code 65 = .ok (.goto 4, 3) := by decide +kernel
theorem d1_68 : decode prog_110_method_6_code 68 = .ok (.iconst 0, 1) := by decide +kernel
theorem d1_69 : decode prog_110_method_6_code 69 = .ok (.ireturn, 1) := by decide +kernel
theorem pn_1 : plainName "com/example/scheherazade/scheherazade/reader/XmlChars" = true := by first | (simp [plainName, overriddenIn]; done) | decide +kernel
theorem ef_1 (m : MethodId) (x0 : Int32) : entryFrame m #[(.int x0)] 1 = mkF m 0 #[.val (.int x0)] [] := by first | (simp [entryFrame, mkF, argsToLocals, Value.category]; done) | rfl
def f1_32 (p1 : Int32) : Int32 := (if (57343 : Int32) < p1 then (if (65533 : Int32) < p1 then (0 : Int32) else (1 : Int32)) else (0 : Int32))
def f1 (p1 : Int32) : Int32 := (if p1 < (32 : Int32) then (if p1 = (10 : Int32) then (1 : Int32) else (if p1 = (9 : Int32) then (1 : Int32) else (0 : Int32))) else (if p1 < (127 : Int32) then (1 : Int32) else (if (159 : Int32) < p1 then (if p1 < (55296 : Int32) then (if p1 = (8232 : Int32) then (f1_32 p1) else (1 : Int32)) else (f1_32 p1)) else (f1_32 p1))))
def Q1 (p1 : Int32) (h0 : Heap) (n0 : Nat) (v : Option Value) (h : Heap) (L : List Loc) : Prop := v = some (.int (f1 p1)) ∧ Fr n0 L ∧ h = h0
set_option maxRecDepth 65536 in
set_option maxHeartbeats 40000000 in
theorem rm1 (l : Launch) (Z : State) (a0 : Array Value) (hw : ∀ d ∈ tables_1, d.before a0 Z = true) (ws : List Jvm.Cond) (p1 : Int32) (h0 : Heap) (n0 : Nat) (Z0 : n0 ≤ h0.size)  :
    MetFree l (⟨"com/example/scheherazade/scheherazade/reader/XmlChars", "isPlain", "(C)Z"⟩ : MethodName) (head1 (Jvm.Cond.code (⟨"com/example/scheherazade/scheherazade/reader/XmlChars", "isPlain", "(C)Z"⟩ : MethodName) prog_110_method_6_code 1 (some .boolean) :: ws) ({ frames := 0, cells := 0, slots := 0, locals := 0 } : Room)) (fun a U => a = #[(.int p1)] ∧ Z.Warmed39 U.vm ∧ U.heap = h0) (fun _ _ _ _ _ => True) (fun _ U o U' => ∃ v L, o = .returned v ∧ Q1 p1 h0 n0 v U'.heap L ∧ FrameEnd U o U' L ({ frames := 0, cells := 0, slots := 0, locals := 0 } : Room).cells ({ frames := 0, cells := 0, slots := 0, locals := 0 } : Room).slots) := by
  refine MetFree.of_bodySF (plainFor_of_name pn_1) hisR ?_
  intro p e s m args below meth c s₁ Bd hml0 hP hK
  obtain ⟨rfl, hZ, hh⟩ := hP
  have hx := Bd.exec
  have hby := Bd.bytes
  have hml : c.maxLocals = 1 := hml0
  have hown : s.vm.findClass "com/example/scheherazade/scheherazade/reader/XmlChars" = some m.cls := findClass_of_methodNamed Bd.named
  have hnm := (name_of_methodNamed Bd.named Bd.method).1
  have X0 : Stand p l e ({ frames := 0, cells := 0, slots := 0, locals := 0 } : Room) s m #[(.int p1)] below meth c s₁ [] 0 0 := Stand.of_body Bd
  have e0 : s₁.heap = h0 := by rw [← hh, Bd.state]; rfl
  have N0 := Fr.nil n0
  refine own_start (Q := Q1 p1 h0 n0) (C := ({ frames := 0, cells := 0, slots := 0, locals := 0 } : Room).cells) (S := ({ frames := 0, cells := 0, slots := 0, locals := 0 } : Room).slots) ?_
  rw [ef_1 m p1]
  have j32 : ∀ Q' : Option Value → Heap → List Loc → Prop, (∀ v hh L, v = some (.int (f1_32 p1)) → Fr n0 L → hh = h0 → Q' v hh L) → Own p e below s Q' 0 0 (s₁.setTop (mkF m 32 #[.val (.int p1)] [])) := by
    intro Q' hq
    refine Gen.on (b := s₁.setTop (mkF m 33 #[.val (.int p1)] [(.int p1)])) ?_ (fun t k => XS.iloadN X0.here hx rfl (hb hby d1_32) rfl k)
    refine Gen.on (b := s₁.setTop (mkF m 35 #[.val (.int p1)] [(.int (57343 : Int32)), (.int p1)])) ?_ (fun t k => X0.ldcInt hx hown (mvT hZ (hw _ (List.mem_of_getElem? (i := 12) rfl))) (g := (mkF m 33 #[.val (.int p1)] [(.int p1)])) rfl (hb hby d1_33) t k)
    by_cases c35_1 : (57343 : Int32) < p1
    · refine Gen.on (b := s₁.setTop (mkF m 38 #[.val (.int p1)] [])) ?_ (fun t k => XS.icmpNo X0.here hx rfl (hb hby d1_35) rfl (tlt c35_1).2.2.2 k)
      refine Gen.on (b := s₁.setTop (mkF m 39 #[.val (.int p1)] [(.int p1)])) ?_ (fun t k => XS.iloadN X0.here hx rfl (hb hby d1_38) rfl k)
      refine Gen.on (b := s₁.setTop (mkF m 41 #[.val (.int p1)] [(.int (65533 : Int32)), (.int p1)])) ?_ (fun t k => X0.ldcInt hx hown (mvT hZ (hw _ (List.mem_of_getElem? (i := 13) rfl))) (g := (mkF m 39 #[.val (.int p1)] [(.int p1)])) rfl (hb hby d1_39) t k)
      by_cases c41_2 : (65533 : Int32) < p1
      · refine Gen.on (b := s₁.setTop (mkF m 48 #[.val (.int p1)] [])) ?_ (fun t k => XS.icmpYes X0.here hx rfl (pc0 := 41) (pc' := 48) rfl (hb hby d1_41) rfl (tlt c41_2).2.2.1 (by decide) (by decide) k)
        refine Gen.on (b := s₁.setTop (mkF m 49 #[.val (.int p1)] [(.int (0 : Int32))])) ?_ (fun t k => XS.iconst X0.here hx rfl (hb hby d1_48) k)
        refine Gen.on (b := s₁.setTop (mkF m 69 #[.val (.int p1)] [(.int (0 : Int32))])) ?_ (fun t k => XS.goto X0.here hx rfl (pc0 := 49) (pc' := 69) rfl (hb hby d1_49) (by decide) (by decide) k)
        refine own_retN (t := .boolean) X0 hx Bd.returns (by simp) (by decide) (hb hby d1_69) (by decide) (by decide) ?_
        exact hq _ _ _ (by simp only [f1_32, if_pos c35_1, if_pos c41_2]) N0 e0
      · refine Gen.on (b := s₁.setTop (mkF m 44 #[.val (.int p1)] [])) ?_ (fun t k => XS.icmpNo X0.here hx rfl (hb hby d1_41) rfl (flt c41_2).2.2.1 k)
        refine Gen.on (b := s₁.setTop (mkF m 45 #[.val (.int p1)] [(.int (1 : Int32))])) ?_ (fun t k => XS.iconst X0.here hx rfl (hb hby d1_44) k)
        refine Gen.on (b := s₁.setTop (mkF m 69 #[.val (.int p1)] [(.int (1 : Int32))])) ?_ (fun t k => XS.goto X0.here hx rfl (pc0 := 45) (pc' := 69) rfl (hb hby d1_45) (by decide) (by decide) k)
        refine own_retN (t := .boolean) X0 hx Bd.returns (by simp) (by decide) (hb hby d1_69) (by decide) (by decide) ?_
        exact hq _ _ _ (by simp only [f1_32, if_pos c35_1, if_neg c41_2]) N0 e0
    · refine Gen.on (b := s₁.setTop (mkF m 48 #[.val (.int p1)] [])) ?_ (fun t k => XS.icmpYes X0.here hx rfl (pc0 := 35) (pc' := 48) rfl (hb hby d1_35) rfl (flt c35_1).2.2.2 (by decide) (by decide) k)
      refine Gen.on (b := s₁.setTop (mkF m 49 #[.val (.int p1)] [(.int (0 : Int32))])) ?_ (fun t k => XS.iconst X0.here hx rfl (hb hby d1_48) k)
      refine Gen.on (b := s₁.setTop (mkF m 69 #[.val (.int p1)] [(.int (0 : Int32))])) ?_ (fun t k => XS.goto X0.here hx rfl (pc0 := 49) (pc' := 69) rfl (hb hby d1_49) (by decide) (by decide) k)
      refine own_retN (t := .boolean) X0 hx Bd.returns (by simp) (by decide) (hb hby d1_69) (by decide) (by decide) ?_
      exact hq _ _ _ (by simp only [f1_32, if_neg c35_1]) N0 e0
  have hq : ∀ v hh L, v = some (.int (f1 p1)) → Fr n0 L → hh = h0 → Q1 p1 h0 n0 v hh L := fun v hh L q1 q2 q3 => ⟨q1, q2, q3⟩
  refine Gen.on (b := s₁.setTop (mkF m 1 #[.val (.int p1)] [(.int p1)])) ?_ (fun t k => XS.iloadN X0.here hx rfl (hb hby d1_0) rfl k)
  refine Gen.on (b := s₁.setTop (mkF m 3 #[.val (.int p1)] [(.int (32 : Int32)), (.int p1)])) ?_ (fun t k => XS.bipush X0.here hx rfl (hb hby d1_1) k)
  by_cases c3_3 : p1 < (32 : Int32)
  · refine Gen.on (b := s₁.setTop (mkF m 52 #[.val (.int p1)] [])) ?_ (fun t k => XS.icmpYes X0.here hx rfl (pc0 := 3) (pc' := 52) rfl (hb hby d1_3) rfl (tlt c3_3).1 (by decide) (by decide) k)
    refine Gen.on (b := s₁.setTop (mkF m 53 #[.val (.int p1)] [(.int p1)])) ?_ (fun t k => XS.iloadN X0.here hx rfl (hb hby d1_52) rfl k)
    refine Gen.on (b := s₁.setTop (mkF m 55 #[.val (.int p1)] [(.int (10 : Int32)), (.int p1)])) ?_ (fun t k => XS.bipush X0.here hx rfl (hb hby d1_53) k)
    by_cases c55_4 : p1 = (10 : Int32)
    · refine Gen.on (b := s₁.setTop (mkF m 64 #[.val (.int p1)] [])) ?_ (fun t k => XS.icmpYes X0.here hx rfl (pc0 := 55) (pc' := 64) rfl (hb hby d1_55) rfl (teq c55_4).1 (by decide) (by decide) k)
      refine Gen.on (b := s₁.setTop (mkF m 65 #[.val (.int p1)] [(.int (1 : Int32))])) ?_ (fun t k => XS.iconst X0.here hx rfl (hb hby d1_64) k)
      refine Gen.on (b := s₁.setTop (mkF m 69 #[.val (.int p1)] [(.int (1 : Int32))])) ?_ (fun t k => XS.goto X0.here hx rfl (pc0 := 65) (pc' := 69) rfl (hb hby d1_65) (by decide) (by decide) k)
      refine own_retN (t := .boolean) X0 hx Bd.returns (by simp) (by decide) (hb hby d1_69) (by decide) (by decide) ?_
      exact hq _ _ _ (by simp only [f1, if_pos c3_3, if_pos c55_4]) N0 e0
    · refine Gen.on (b := s₁.setTop (mkF m 58 #[.val (.int p1)] [])) ?_ (fun t k => XS.icmpNo X0.here hx rfl (hb hby d1_55) rfl (feq c55_4).1 k)
      refine Gen.on (b := s₁.setTop (mkF m 59 #[.val (.int p1)] [(.int p1)])) ?_ (fun t k => XS.iloadN X0.here hx rfl (hb hby d1_58) rfl k)
      refine Gen.on (b := s₁.setTop (mkF m 61 #[.val (.int p1)] [(.int (9 : Int32)), (.int p1)])) ?_ (fun t k => XS.bipush X0.here hx rfl (hb hby d1_59) k)
      by_cases c61_5 : p1 = (9 : Int32)
      · refine Gen.on (b := s₁.setTop (mkF m 64 #[.val (.int p1)] [])) ?_ (fun t k => XS.icmpNo X0.here hx rfl (hb hby d1_61) rfl (teq c61_5).2 k)
        refine Gen.on (b := s₁.setTop (mkF m 65 #[.val (.int p1)] [(.int (1 : Int32))])) ?_ (fun t k => XS.iconst X0.here hx rfl (hb hby d1_64) k)
        refine Gen.on (b := s₁.setTop (mkF m 69 #[.val (.int p1)] [(.int (1 : Int32))])) ?_ (fun t k => XS.goto X0.here hx rfl (pc0 := 65) (pc' := 69) rfl (hb hby d1_65) (by decide) (by decide) k)
        refine own_retN (t := .boolean) X0 hx Bd.returns (by simp) (by decide) (hb hby d1_69) (by decide) (by decide) ?_
        exact hq _ _ _ (by simp only [f1, if_pos c3_3, if_neg c55_4, if_pos c61_5]) N0 e0
      · refine Gen.on (b := s₁.setTop (mkF m 68 #[.val (.int p1)] [])) ?_ (fun t k => XS.icmpYes X0.here hx rfl (pc0 := 61) (pc' := 68) rfl (hb hby d1_61) rfl (feq c61_5).2 (by decide) (by decide) k)
        refine Gen.on (b := s₁.setTop (mkF m 69 #[.val (.int p1)] [(.int (0 : Int32))])) ?_ (fun t k => XS.iconst X0.here hx rfl (hb hby d1_68) k)
        refine own_retN (t := .boolean) X0 hx Bd.returns (by simp) (by decide) (hb hby d1_69) (by decide) (by decide) ?_
        exact hq _ _ _ (by simp only [f1, if_pos c3_3, if_neg c55_4, if_neg c61_5]) N0 e0
  · refine Gen.on (b := s₁.setTop (mkF m 6 #[.val (.int p1)] [])) ?_ (fun t k => XS.icmpNo X0.here hx rfl (hb hby d1_3) rfl (flt c3_3).1 k)
    refine Gen.on (b := s₁.setTop (mkF m 7 #[.val (.int p1)] [(.int p1)])) ?_ (fun t k => XS.iloadN X0.here hx rfl (hb hby d1_6) rfl k)
    refine Gen.on (b := s₁.setTop (mkF m 9 #[.val (.int p1)] [(.int (127 : Int32)), (.int p1)])) ?_ (fun t k => XS.bipush X0.here hx rfl (hb hby d1_7) k)
    by_cases c9_6 : p1 < (127 : Int32)
    · refine Gen.on (b := s₁.setTop (mkF m 44 #[.val (.int p1)] [])) ?_ (fun t k => XS.icmpYes X0.here hx rfl (pc0 := 9) (pc' := 44) rfl (hb hby d1_9) rfl (tlt c9_6).1 (by decide) (by decide) k)
      refine Gen.on (b := s₁.setTop (mkF m 45 #[.val (.int p1)] [(.int (1 : Int32))])) ?_ (fun t k => XS.iconst X0.here hx rfl (hb hby d1_44) k)
      refine Gen.on (b := s₁.setTop (mkF m 69 #[.val (.int p1)] [(.int (1 : Int32))])) ?_ (fun t k => XS.goto X0.here hx rfl (pc0 := 45) (pc' := 69) rfl (hb hby d1_45) (by decide) (by decide) k)
      refine own_retN (t := .boolean) X0 hx Bd.returns (by simp) (by decide) (hb hby d1_69) (by decide) (by decide) ?_
      exact hq _ _ _ (by simp only [f1, if_neg c3_3, if_pos c9_6]) N0 e0
    · refine Gen.on (b := s₁.setTop (mkF m 12 #[.val (.int p1)] [])) ?_ (fun t k => XS.icmpNo X0.here hx rfl (hb hby d1_9) rfl (flt c9_6).1 k)
      refine Gen.on (b := s₁.setTop (mkF m 13 #[.val (.int p1)] [(.int p1)])) ?_ (fun t k => XS.iloadN X0.here hx rfl (hb hby d1_12) rfl k)
      refine Gen.on (b := s₁.setTop (mkF m 16 #[.val (.int p1)] [(.int (159 : Int32)), (.int p1)])) ?_ (fun t k => XS.sipush X0.here hx rfl (hb hby d1_13) k)
      by_cases c16_7 : (159 : Int32) < p1
      · refine Gen.on (b := s₁.setTop (mkF m 19 #[.val (.int p1)] [])) ?_ (fun t k => XS.icmpNo X0.here hx rfl (hb hby d1_16) rfl (tlt c16_7).2.2.2 k)
        refine Gen.on (b := s₁.setTop (mkF m 20 #[.val (.int p1)] [(.int p1)])) ?_ (fun t k => XS.iloadN X0.here hx rfl (hb hby d1_19) rfl k)
        refine Gen.on (b := s₁.setTop (mkF m 22 #[.val (.int p1)] [(.int (55296 : Int32)), (.int p1)])) ?_ (fun t k => X0.ldcInt hx hown (mvT hZ (hw _ (List.mem_of_getElem? (i := 11) rfl))) (g := (mkF m 20 #[.val (.int p1)] [(.int p1)])) rfl (hb hby d1_20) t k)
        by_cases c22_8 : p1 < (55296 : Int32)
        · refine Gen.on (b := s₁.setTop (mkF m 25 #[.val (.int p1)] [])) ?_ (fun t k => XS.icmpNo X0.here hx rfl (hb hby d1_22) rfl (tlt c22_8).2.1 k)
          refine Gen.on (b := s₁.setTop (mkF m 26 #[.val (.int p1)] [(.int p1)])) ?_ (fun t k => XS.iloadN X0.here hx rfl (hb hby d1_25) rfl k)
          refine Gen.on (b := s₁.setTop (mkF m 29 #[.val (.int p1)] [(.int (8232 : Int32)), (.int p1)])) ?_ (fun t k => XS.sipush X0.here hx rfl (hb hby d1_26) k)
          by_cases c29_9 : p1 = (8232 : Int32)
          · refine Gen.on (b := s₁.setTop (mkF m 32 #[.val (.int p1)] [])) ?_ (fun t k => XS.icmpNo X0.here hx rfl (hb hby d1_29) rfl (teq c29_9).2 k)
            exact j32 _ (fun v hh L q1 q2 q3 => hq v hh L (by rw [q1]; simp only [f1, if_neg c3_3, if_neg c9_6, if_pos c16_7, if_pos c22_8, if_pos c29_9]) q2 q3)
          · refine Gen.on (b := s₁.setTop (mkF m 44 #[.val (.int p1)] [])) ?_ (fun t k => XS.icmpYes X0.here hx rfl (pc0 := 29) (pc' := 44) rfl (hb hby d1_29) rfl (feq c29_9).2 (by decide) (by decide) k)
            refine Gen.on (b := s₁.setTop (mkF m 45 #[.val (.int p1)] [(.int (1 : Int32))])) ?_ (fun t k => XS.iconst X0.here hx rfl (hb hby d1_44) k)
            refine Gen.on (b := s₁.setTop (mkF m 69 #[.val (.int p1)] [(.int (1 : Int32))])) ?_ (fun t k => XS.goto X0.here hx rfl (pc0 := 45) (pc' := 69) rfl (hb hby d1_45) (by decide) (by decide) k)
            refine own_retN (t := .boolean) X0 hx Bd.returns (by simp) (by decide) (hb hby d1_69) (by decide) (by decide) ?_
            exact hq _ _ _ (by simp only [f1, if_neg c3_3, if_neg c9_6, if_pos c16_7, if_pos c22_8, if_neg c29_9]) N0 e0
        · refine Gen.on (b := s₁.setTop (mkF m 32 #[.val (.int p1)] [])) ?_ (fun t k => XS.icmpYes X0.here hx rfl (pc0 := 22) (pc' := 32) rfl (hb hby d1_22) rfl (flt c22_8).2.1 (by decide) (by decide) k)
          exact j32 _ (fun v hh L q1 q2 q3 => hq v hh L (by rw [q1]; simp only [f1, if_neg c3_3, if_neg c9_6, if_pos c16_7, if_neg c22_8]) q2 q3)
      · refine Gen.on (b := s₁.setTop (mkF m 32 #[.val (.int p1)] [])) ?_ (fun t k => XS.icmpYes X0.here hx rfl (pc0 := 16) (pc' := 32) rfl (hb hby d1_16) rfl (flt c16_7).2.2.2 (by decide) (by decide) k)
        exact j32 _ (fun v hh L q1 q2 q3 => hq v hh L (by rw [q1]; simp only [f1, if_neg c3_3, if_neg c9_6, if_neg c16_7]) q2 q3)
theorem d2_0 : decode method_3_code 0 = .ok (.iload_n 0, 1) := by decide +kernel
theorem d2_1 : decode method_3_code 1 = .ok (.istore_n 1, 1) := by decide +kernel
theorem d2_2 : decode method_3_code 2 = .ok (.iload_n 1, 1) := by decide +kernel
theorem d2_3 : decode method_3_code 3 = .ok (.bipush 32, 2) := by decide +kernel
theorem d2_5 : decode method_3_code 5 = .ok (.if_icmp .ge 21, 3) := by decide +kernel
theorem d2_8 : decode method_3_code 8 = .ok (.iload_n 1, 1) := by decide +kernel
theorem d2_9 : decode method_3_code 9 = .ok (.bipush 9, 2) := by decide +kernel
theorem d2_11 : decode method_3_code 11 = .ok (.if_icmp .eq 13, 3) := by decide +kernel
theorem d2_14 : decode method_3_code 14 = .ok (.iload_n 1, 1) := by decide +kernel
theorem d2_15 : decode method_3_code 15 = .ok (.bipush 10, 2) := by decide +kernel
theorem d2_17 : decode method_3_code 17 = .ok (.if_icmp .eq 7, 3) := by decide +kernel
theorem d2_20 : decode method_3_code 20 = .ok (.iconst 1, 1) := by decide +kernel
theorem d2_21 : decode method_3_code 21 = .ok (.goto 4, 3) := by decide +kernel
theorem d2_24 : decode method_3_code 24 = .ok (.iconst 0, 1) := by decide +kernel
theorem d2_25 : decode method_3_code 25 = .ok (.ireturn, 1) := by decide +kernel
theorem d2_26 : decode method_3_code 26 = .ok (.iload_n 1, 1) := by decide +kernel
theorem d2_27 : decode method_3_code 27 = .ok (.bipush 127, 2) := by decide +kernel
theorem d2_29 : decode method_3_code 29 = .ok (.if_icmp .lt 12, 3) := by decide +kernel
theorem d2_32 : decode method_3_code 32 = .ok (.iload_n 1, 1) := by decide +kernel
theorem d2_33 : decode method_3_code 33 = .ok (.sipush 159, 3) := by decide +kernel
theorem d2_36 : decode method_3_code 36 = .ok (.if_icmp .gt 5, 3) := by decide +kernel
theorem d2_39 : decode method_3_code 39 = .ok (.iconst 1, 1) := by decide +kernel
theorem d2_40 : decode method_3_code 40 = .ok (.ireturn, 1) := by decide +kernel
theorem d2_41 : decode method_3_code 41 = .ok (.iload_n 1, 1) := by decide +kernel
theorem d2_42 : decode method_3_code 42 = .ok (.sipush 8232, 3) := by decide +kernel
theorem d2_45 : decode method_3_code 45 = .ok (.if_icmp .ne 5, 3) := by decide +kernel
theorem d2_48 : decode method_3_code 48 = .ok (.iconst 1, 1) := by decide +kernel
theorem d2_49 : decode method_3_code 49 = .ok (.ireturn, 1) := by decide +kernel
theorem d2_50 : decode method_3_code 50 = .ok (.iload_n 1, 1) := by decide +kernel
theorem d2_51 : decode method_3_code 51 = .ok (.ldc 18, 2) := by decide +kernel
theorem d2_53 : decode method_3_code 53 = .ok (.if_icmp .lt 11, 3) := by decide +kernel
theorem d2_56 : decode method_3_code 56 = .ok (.iload_n 1, 1) := by decide +kernel
theorem d2_57 : decode method_3_code 57 = .ok (.ldc 19, 2) := by decide +kernel
theorem d2_59 : decode method_3_code 59 = .ok (.if_icmp .gt 5, 3) := by decide +kernel
theorem d2_62 : decode method_3_code 62 = .ok (.iconst 1, 1) := by decide +kernel
theorem d2_63 : decode method_3_code 63 = .ok (.ireturn, 1) := by decide +kernel
theorem d2_64 : decode method_3_code 64 = .ok (.iload_n 1, 1) := by decide +kernel
theorem d2_65 : decode method_3_code 65 = .ok (.ldc 20, 2) := by decide +kernel
theorem d2_67 : decode method_3_code 67 = .ok (.if_icmp .eq 9, 3) := by decide +kernel
theorem d2_70 : decode method_3_code 70 = .ok (.iload_n 1, 1) := by decide +kernel
theorem d2_71 : decode method_3_code 71 = .ok (.ldc 21, 2) := by decide +kernel
theorem d2_73 : decode method_3_code 73 = .ok (.if_icmp .ne 5, 3) := by decide +kernel
theorem d2_76 : decode method_3_code 76 = .ok (.iconst 1, 1) := by decide +kernel
theorem d2_77 : decode method_3_code 77 = .ok (.ireturn, 1) := by decide +kernel
theorem d2_78 : decode method_3_code 78 = .ok (.iconst 0, 1) := by decide +kernel
theorem d2_79 : decode method_3_code 79 = .ok (.ireturn, 1) := by decide +kernel
theorem pn_2 : plainName "com/example/scheherazade/scheherazade/reader/XmlCharsIsPlainPinLaw" = true := by first | (simp [plainName, overriddenIn]; done) | decide +kernel
theorem ef_2 (m : MethodId) (x0 : Int32) : entryFrame m #[(.int x0)] 2 = mkF m 0 #[.val (.int x0), .unset] [] := by first | (simp [entryFrame, mkF, argsToLocals, Value.category]; done) | rfl
def f2_64 (p1 : Int32) : Int32 := (if p1 = (65534 : Int32) then (1 : Int32) else (if p1 = (65535 : Int32) then (1 : Int32) else (0 : Int32)))
def f2_50 (p1 : Int32) : Int32 := (if p1 < (55296 : Int32) then (f2_64 p1) else (if (57343 : Int32) < p1 then (f2_64 p1) else (1 : Int32)))
def f2_41 (p1 : Int32) : Int32 := (if p1 = (8232 : Int32) then (1 : Int32) else (f2_50 p1))
def f2 (p1 : Int32) : Int32 := (if p1 < (32 : Int32) then (if p1 = (9 : Int32) then (0 : Int32) else (if p1 = (10 : Int32) then (0 : Int32) else (1 : Int32))) else (if p1 < (127 : Int32) then (f2_41 p1) else (if (159 : Int32) < p1 then (f2_41 p1) else (1 : Int32))))
def Q2 (p1 : Int32) (h0 : Heap) (n0 : Nat) (v : Option Value) (h : Heap) (L : List Loc) : Prop := v = some (.int (f2 p1)) ∧ Fr n0 L ∧ h = h0
set_option maxRecDepth 65536 in
set_option maxHeartbeats 40000000 in
theorem rm2 (l : Launch) (Z : State) (a0 : Array Value) (hw : ∀ d ∈ tables_1, d.before a0 Z = true) (ws : List Jvm.Cond) (p1 : Int32) (h0 : Heap) (n0 : Nat) (Z0 : n0 ≤ h0.size)  :
    MetFree l (⟨"com/example/scheherazade/scheherazade/reader/XmlCharsIsPlainPinLaw", "excluded", "(C)Z"⟩ : MethodName) (head1 (Jvm.Cond.code (⟨"com/example/scheherazade/scheherazade/reader/XmlCharsIsPlainPinLaw", "excluded", "(C)Z"⟩ : MethodName) method_3_code 2 (some .boolean) :: ws) ({ frames := 0, cells := 0, slots := 0, locals := 0 } : Room)) (fun a U => a = #[(.int p1)] ∧ Z.Warmed39 U.vm ∧ U.heap = h0) (fun _ _ _ _ _ => True) (fun _ U o U' => ∃ v L, o = .returned v ∧ Q2 p1 h0 n0 v U'.heap L ∧ FrameEnd U o U' L ({ frames := 0, cells := 0, slots := 0, locals := 0 } : Room).cells ({ frames := 0, cells := 0, slots := 0, locals := 0 } : Room).slots) := by
  refine MetFree.of_bodySF (plainFor_of_name pn_2) hisR ?_
  intro p e s m args below meth c s₁ Bd hml0 hP hK
  obtain ⟨rfl, hZ, hh⟩ := hP
  have hx := Bd.exec
  have hby := Bd.bytes
  have hml : c.maxLocals = 2 := hml0
  have hown : s.vm.findClass "com/example/scheherazade/scheherazade/reader/XmlCharsIsPlainPinLaw" = some m.cls := findClass_of_methodNamed Bd.named
  have hnm := (name_of_methodNamed Bd.named Bd.method).1
  have X0 : Stand p l e ({ frames := 0, cells := 0, slots := 0, locals := 0 } : Room) s m #[(.int p1)] below meth c s₁ [] 0 0 := Stand.of_body Bd
  have e0 : s₁.heap = h0 := by rw [← hh, Bd.state]; rfl
  have N0 := Fr.nil n0
  refine own_start (Q := Q2 p1 h0 n0) (C := ({ frames := 0, cells := 0, slots := 0, locals := 0 } : Room).cells) (S := ({ frames := 0, cells := 0, slots := 0, locals := 0 } : Room).slots) ?_
  rw [ef_2 m p1]
  have j64 : ∀ Q' : Option Value → Heap → List Loc → Prop, (∀ v hh L, v = some (.int (f2_64 p1)) → Fr n0 L → hh = h0 → Q' v hh L) → Own p e below s Q' 0 0 (s₁.setTop (mkF m 64 #[.val (.int p1), .val (.int p1)] [])) := by
    intro Q' hq
    refine Gen.on (b := s₁.setTop (mkF m 65 #[.val (.int p1), .val (.int p1)] [(.int p1)])) ?_ (fun t k => XS.iloadN X0.here hx rfl (hb hby d2_64) rfl k)
    refine Gen.on (b := s₁.setTop (mkF m 67 #[.val (.int p1), .val (.int p1)] [(.int (65534 : Int32)), (.int p1)])) ?_ (fun t k => X0.ldcInt hx hown (mvT hZ (hw _ (List.mem_of_getElem? (i := 9) rfl))) (g := (mkF m 65 #[.val (.int p1), .val (.int p1)] [(.int p1)])) rfl (hb hby d2_65) t k)
    by_cases c67_1 : p1 = (65534 : Int32)
    · refine Gen.on (b := s₁.setTop (mkF m 76 #[.val (.int p1), .val (.int p1)] [])) ?_ (fun t k => XS.icmpYes X0.here hx rfl (pc0 := 67) (pc' := 76) rfl (hb hby d2_67) rfl (teq c67_1).1 (by decide) (by decide) k)
      refine Gen.on (b := s₁.setTop (mkF m 77 #[.val (.int p1), .val (.int p1)] [(.int (1 : Int32))])) ?_ (fun t k => XS.iconst X0.here hx rfl (hb hby d2_76) k)
      refine own_retN (t := .boolean) X0 hx Bd.returns (by simp) (by decide) (hb hby d2_77) (by decide) (by decide) ?_
      exact hq _ _ _ (by simp only [f2_64, if_pos c67_1]) N0 e0
    · refine Gen.on (b := s₁.setTop (mkF m 70 #[.val (.int p1), .val (.int p1)] [])) ?_ (fun t k => XS.icmpNo X0.here hx rfl (hb hby d2_67) rfl (feq c67_1).1 k)
      refine Gen.on (b := s₁.setTop (mkF m 71 #[.val (.int p1), .val (.int p1)] [(.int p1)])) ?_ (fun t k => XS.iloadN X0.here hx rfl (hb hby d2_70) rfl k)
      refine Gen.on (b := s₁.setTop (mkF m 73 #[.val (.int p1), .val (.int p1)] [(.int (65535 : Int32)), (.int p1)])) ?_ (fun t k => X0.ldcInt hx hown (mvT hZ (hw _ (List.mem_of_getElem? (i := 10) rfl))) (g := (mkF m 71 #[.val (.int p1), .val (.int p1)] [(.int p1)])) rfl (hb hby d2_71) t k)
      by_cases c73_2 : p1 = (65535 : Int32)
      · refine Gen.on (b := s₁.setTop (mkF m 76 #[.val (.int p1), .val (.int p1)] [])) ?_ (fun t k => XS.icmpNo X0.here hx rfl (hb hby d2_73) rfl (teq c73_2).2 k)
        refine Gen.on (b := s₁.setTop (mkF m 77 #[.val (.int p1), .val (.int p1)] [(.int (1 : Int32))])) ?_ (fun t k => XS.iconst X0.here hx rfl (hb hby d2_76) k)
        refine own_retN (t := .boolean) X0 hx Bd.returns (by simp) (by decide) (hb hby d2_77) (by decide) (by decide) ?_
        exact hq _ _ _ (by simp only [f2_64, if_neg c67_1, if_pos c73_2]) N0 e0
      · refine Gen.on (b := s₁.setTop (mkF m 78 #[.val (.int p1), .val (.int p1)] [])) ?_ (fun t k => XS.icmpYes X0.here hx rfl (pc0 := 73) (pc' := 78) rfl (hb hby d2_73) rfl (feq c73_2).2 (by decide) (by decide) k)
        refine Gen.on (b := s₁.setTop (mkF m 79 #[.val (.int p1), .val (.int p1)] [(.int (0 : Int32))])) ?_ (fun t k => XS.iconst X0.here hx rfl (hb hby d2_78) k)
        refine own_retN (t := .boolean) X0 hx Bd.returns (by simp) (by decide) (hb hby d2_79) (by decide) (by decide) ?_
        exact hq _ _ _ (by simp only [f2_64, if_neg c67_1, if_neg c73_2]) N0 e0
  have j50 : ∀ Q' : Option Value → Heap → List Loc → Prop, (∀ v hh L, v = some (.int (f2_50 p1)) → Fr n0 L → hh = h0 → Q' v hh L) → Own p e below s Q' 0 0 (s₁.setTop (mkF m 50 #[.val (.int p1), .val (.int p1)] [])) := by
    intro Q' hq
    refine Gen.on (b := s₁.setTop (mkF m 51 #[.val (.int p1), .val (.int p1)] [(.int p1)])) ?_ (fun t k => XS.iloadN X0.here hx rfl (hb hby d2_50) rfl k)
    refine Gen.on (b := s₁.setTop (mkF m 53 #[.val (.int p1), .val (.int p1)] [(.int (55296 : Int32)), (.int p1)])) ?_ (fun t k => X0.ldcInt hx hown (mvT hZ (hw _ (List.mem_of_getElem? (i := 8) rfl))) (g := (mkF m 51 #[.val (.int p1), .val (.int p1)] [(.int p1)])) rfl (hb hby d2_51) t k)
    by_cases c53_3 : p1 < (55296 : Int32)
    · refine Gen.on (b := s₁.setTop (mkF m 64 #[.val (.int p1), .val (.int p1)] [])) ?_ (fun t k => XS.icmpYes X0.here hx rfl (pc0 := 53) (pc' := 64) rfl (hb hby d2_53) rfl (tlt c53_3).1 (by decide) (by decide) k)
      exact j64 _ (fun v hh L q1 q2 q3 => hq v hh L (by rw [q1]; simp only [f2_50, if_pos c53_3]) q2 q3)
    · refine Gen.on (b := s₁.setTop (mkF m 56 #[.val (.int p1), .val (.int p1)] [])) ?_ (fun t k => XS.icmpNo X0.here hx rfl (hb hby d2_53) rfl (flt c53_3).1 k)
      refine Gen.on (b := s₁.setTop (mkF m 57 #[.val (.int p1), .val (.int p1)] [(.int p1)])) ?_ (fun t k => XS.iloadN X0.here hx rfl (hb hby d2_56) rfl k)
      refine Gen.on (b := s₁.setTop (mkF m 59 #[.val (.int p1), .val (.int p1)] [(.int (57343 : Int32)), (.int p1)])) ?_ (fun t k => X0.ldcInt hx hown (mvT hZ (hw _ (List.mem_of_getElem? (i := 14) rfl))) (g := (mkF m 57 #[.val (.int p1), .val (.int p1)] [(.int p1)])) rfl (hb hby d2_57) t k)
      by_cases c59_4 : (57343 : Int32) < p1
      · refine Gen.on (b := s₁.setTop (mkF m 64 #[.val (.int p1), .val (.int p1)] [])) ?_ (fun t k => XS.icmpYes X0.here hx rfl (pc0 := 59) (pc' := 64) rfl (hb hby d2_59) rfl (tlt c59_4).2.2.1 (by decide) (by decide) k)
        exact j64 _ (fun v hh L q1 q2 q3 => hq v hh L (by rw [q1]; simp only [f2_50, if_neg c53_3, if_pos c59_4]) q2 q3)
      · refine Gen.on (b := s₁.setTop (mkF m 62 #[.val (.int p1), .val (.int p1)] [])) ?_ (fun t k => XS.icmpNo X0.here hx rfl (hb hby d2_59) rfl (flt c59_4).2.2.1 k)
        refine Gen.on (b := s₁.setTop (mkF m 63 #[.val (.int p1), .val (.int p1)] [(.int (1 : Int32))])) ?_ (fun t k => XS.iconst X0.here hx rfl (hb hby d2_62) k)
        refine own_retN (t := .boolean) X0 hx Bd.returns (by simp) (by decide) (hb hby d2_63) (by decide) (by decide) ?_
        exact hq _ _ _ (by simp only [f2_50, if_neg c53_3, if_neg c59_4]) N0 e0
  have j41 : ∀ Q' : Option Value → Heap → List Loc → Prop, (∀ v hh L, v = some (.int (f2_41 p1)) → Fr n0 L → hh = h0 → Q' v hh L) → Own p e below s Q' 0 0 (s₁.setTop (mkF m 41 #[.val (.int p1), .val (.int p1)] [])) := by
    intro Q' hq
    refine Gen.on (b := s₁.setTop (mkF m 42 #[.val (.int p1), .val (.int p1)] [(.int p1)])) ?_ (fun t k => XS.iloadN X0.here hx rfl (hb hby d2_41) rfl k)
    refine Gen.on (b := s₁.setTop (mkF m 45 #[.val (.int p1), .val (.int p1)] [(.int (8232 : Int32)), (.int p1)])) ?_ (fun t k => XS.sipush X0.here hx rfl (hb hby d2_42) k)
    by_cases c45_5 : p1 = (8232 : Int32)
    · refine Gen.on (b := s₁.setTop (mkF m 48 #[.val (.int p1), .val (.int p1)] [])) ?_ (fun t k => XS.icmpNo X0.here hx rfl (hb hby d2_45) rfl (teq c45_5).2 k)
      refine Gen.on (b := s₁.setTop (mkF m 49 #[.val (.int p1), .val (.int p1)] [(.int (1 : Int32))])) ?_ (fun t k => XS.iconst X0.here hx rfl (hb hby d2_48) k)
      refine own_retN (t := .boolean) X0 hx Bd.returns (by simp) (by decide) (hb hby d2_49) (by decide) (by decide) ?_
      exact hq _ _ _ (by simp only [f2_41, if_pos c45_5]) N0 e0
    · refine Gen.on (b := s₁.setTop (mkF m 50 #[.val (.int p1), .val (.int p1)] [])) ?_ (fun t k => XS.icmpYes X0.here hx rfl (pc0 := 45) (pc' := 50) rfl (hb hby d2_45) rfl (feq c45_5).2 (by decide) (by decide) k)
      exact j50 _ (fun v hh L q1 q2 q3 => hq v hh L (by rw [q1]; simp only [f2_41, if_neg c45_5]) q2 q3)
  have hq : ∀ v hh L, v = some (.int (f2 p1)) → Fr n0 L → hh = h0 → Q2 p1 h0 n0 v hh L := fun v hh L q1 q2 q3 => ⟨q1, q2, q3⟩
  refine Gen.on (b := s₁.setTop (mkF m 1 #[.val (.int p1), .unset] [(.int p1)])) ?_ (fun t k => XS.iloadN X0.here hx rfl (hb hby d2_0) rfl k)
  refine Gen.on (b := s₁.setTop (mkF m 2 #[.val (.int p1), .val (.int p1)] [])) ?_ (fun t k => XS.istoreN X0.here hx rfl (hb hby d2_1) rfl (l' := #[.val (.int p1), .val (.int p1)]) rfl k)
  refine Gen.on (b := s₁.setTop (mkF m 3 #[.val (.int p1), .val (.int p1)] [(.int p1)])) ?_ (fun t k => XS.iloadN X0.here hx rfl (hb hby d2_2) rfl k)
  refine Gen.on (b := s₁.setTop (mkF m 5 #[.val (.int p1), .val (.int p1)] [(.int (32 : Int32)), (.int p1)])) ?_ (fun t k => XS.bipush X0.here hx rfl (hb hby d2_3) k)
  by_cases c5_6 : p1 < (32 : Int32)
  · refine Gen.on (b := s₁.setTop (mkF m 8 #[.val (.int p1), .val (.int p1)] [])) ?_ (fun t k => XS.icmpNo X0.here hx rfl (hb hby d2_5) rfl (tlt c5_6).2.1 k)
    refine Gen.on (b := s₁.setTop (mkF m 9 #[.val (.int p1), .val (.int p1)] [(.int p1)])) ?_ (fun t k => XS.iloadN X0.here hx rfl (hb hby d2_8) rfl k)
    refine Gen.on (b := s₁.setTop (mkF m 11 #[.val (.int p1), .val (.int p1)] [(.int (9 : Int32)), (.int p1)])) ?_ (fun t k => XS.bipush X0.here hx rfl (hb hby d2_9) k)
    by_cases c11_7 : p1 = (9 : Int32)
    · refine Gen.on (b := s₁.setTop (mkF m 24 #[.val (.int p1), .val (.int p1)] [])) ?_ (fun t k => XS.icmpYes X0.here hx rfl (pc0 := 11) (pc' := 24) rfl (hb hby d2_11) rfl (teq c11_7).1 (by decide) (by decide) k)
      refine Gen.on (b := s₁.setTop (mkF m 25 #[.val (.int p1), .val (.int p1)] [(.int (0 : Int32))])) ?_ (fun t k => XS.iconst X0.here hx rfl (hb hby d2_24) k)
      refine own_retN (t := .boolean) X0 hx Bd.returns (by simp) (by decide) (hb hby d2_25) (by decide) (by decide) ?_
      exact hq _ _ _ (by simp only [f2, if_pos c5_6, if_pos c11_7]) N0 e0
    · refine Gen.on (b := s₁.setTop (mkF m 14 #[.val (.int p1), .val (.int p1)] [])) ?_ (fun t k => XS.icmpNo X0.here hx rfl (hb hby d2_11) rfl (feq c11_7).1 k)
      refine Gen.on (b := s₁.setTop (mkF m 15 #[.val (.int p1), .val (.int p1)] [(.int p1)])) ?_ (fun t k => XS.iloadN X0.here hx rfl (hb hby d2_14) rfl k)
      refine Gen.on (b := s₁.setTop (mkF m 17 #[.val (.int p1), .val (.int p1)] [(.int (10 : Int32)), (.int p1)])) ?_ (fun t k => XS.bipush X0.here hx rfl (hb hby d2_15) k)
      by_cases c17_8 : p1 = (10 : Int32)
      · refine Gen.on (b := s₁.setTop (mkF m 24 #[.val (.int p1), .val (.int p1)] [])) ?_ (fun t k => XS.icmpYes X0.here hx rfl (pc0 := 17) (pc' := 24) rfl (hb hby d2_17) rfl (teq c17_8).1 (by decide) (by decide) k)
        refine Gen.on (b := s₁.setTop (mkF m 25 #[.val (.int p1), .val (.int p1)] [(.int (0 : Int32))])) ?_ (fun t k => XS.iconst X0.here hx rfl (hb hby d2_24) k)
        refine own_retN (t := .boolean) X0 hx Bd.returns (by simp) (by decide) (hb hby d2_25) (by decide) (by decide) ?_
        exact hq _ _ _ (by simp only [f2, if_pos c5_6, if_neg c11_7, if_pos c17_8]) N0 e0
      · refine Gen.on (b := s₁.setTop (mkF m 20 #[.val (.int p1), .val (.int p1)] [])) ?_ (fun t k => XS.icmpNo X0.here hx rfl (hb hby d2_17) rfl (feq c17_8).1 k)
        refine Gen.on (b := s₁.setTop (mkF m 21 #[.val (.int p1), .val (.int p1)] [(.int (1 : Int32))])) ?_ (fun t k => XS.iconst X0.here hx rfl (hb hby d2_20) k)
        refine Gen.on (b := s₁.setTop (mkF m 25 #[.val (.int p1), .val (.int p1)] [(.int (1 : Int32))])) ?_ (fun t k => XS.goto X0.here hx rfl (pc0 := 21) (pc' := 25) rfl (hb hby d2_21) (by decide) (by decide) k)
        refine own_retN (t := .boolean) X0 hx Bd.returns (by simp) (by decide) (hb hby d2_25) (by decide) (by decide) ?_
        exact hq _ _ _ (by simp only [f2, if_pos c5_6, if_neg c11_7, if_neg c17_8]) N0 e0
  · refine Gen.on (b := s₁.setTop (mkF m 26 #[.val (.int p1), .val (.int p1)] [])) ?_ (fun t k => XS.icmpYes X0.here hx rfl (pc0 := 5) (pc' := 26) rfl (hb hby d2_5) rfl (flt c5_6).2.1 (by decide) (by decide) k)
    refine Gen.on (b := s₁.setTop (mkF m 27 #[.val (.int p1), .val (.int p1)] [(.int p1)])) ?_ (fun t k => XS.iloadN X0.here hx rfl (hb hby d2_26) rfl k)
    refine Gen.on (b := s₁.setTop (mkF m 29 #[.val (.int p1), .val (.int p1)] [(.int (127 : Int32)), (.int p1)])) ?_ (fun t k => XS.bipush X0.here hx rfl (hb hby d2_27) k)
    by_cases c29_9 : p1 < (127 : Int32)
    · refine Gen.on (b := s₁.setTop (mkF m 41 #[.val (.int p1), .val (.int p1)] [])) ?_ (fun t k => XS.icmpYes X0.here hx rfl (pc0 := 29) (pc' := 41) rfl (hb hby d2_29) rfl (tlt c29_9).1 (by decide) (by decide) k)
      exact j41 _ (fun v hh L q1 q2 q3 => hq v hh L (by rw [q1]; simp only [f2, if_neg c5_6, if_pos c29_9]) q2 q3)
    · refine Gen.on (b := s₁.setTop (mkF m 32 #[.val (.int p1), .val (.int p1)] [])) ?_ (fun t k => XS.icmpNo X0.here hx rfl (hb hby d2_29) rfl (flt c29_9).1 k)
      refine Gen.on (b := s₁.setTop (mkF m 33 #[.val (.int p1), .val (.int p1)] [(.int p1)])) ?_ (fun t k => XS.iloadN X0.here hx rfl (hb hby d2_32) rfl k)
      refine Gen.on (b := s₁.setTop (mkF m 36 #[.val (.int p1), .val (.int p1)] [(.int (159 : Int32)), (.int p1)])) ?_ (fun t k => XS.sipush X0.here hx rfl (hb hby d2_33) k)
      by_cases c36_10 : (159 : Int32) < p1
      · refine Gen.on (b := s₁.setTop (mkF m 41 #[.val (.int p1), .val (.int p1)] [])) ?_ (fun t k => XS.icmpYes X0.here hx rfl (pc0 := 36) (pc' := 41) rfl (hb hby d2_36) rfl (tlt c36_10).2.2.1 (by decide) (by decide) k)
        exact j41 _ (fun v hh L q1 q2 q3 => hq v hh L (by rw [q1]; simp only [f2, if_neg c5_6, if_neg c29_9, if_pos c36_10]) q2 q3)
      · refine Gen.on (b := s₁.setTop (mkF m 39 #[.val (.int p1), .val (.int p1)] [])) ?_ (fun t k => XS.icmpNo X0.here hx rfl (hb hby d2_36) rfl (flt c36_10).2.2.1 k)
        refine Gen.on (b := s₁.setTop (mkF m 40 #[.val (.int p1), .val (.int p1)] [(.int (1 : Int32))])) ?_ (fun t k => XS.iconst X0.here hx rfl (hb hby d2_39) k)
        refine own_retN (t := .boolean) X0 hx Bd.returns (by simp) (by decide) (hb hby d2_40) (by decide) (by decide) ?_
        exact hq _ _ _ (by simp only [f2, if_neg c5_6, if_neg c29_9, if_neg c36_10]) N0 e0

theorem own_char (x : Int32) : 0 ≤ (x.toUInt32.toUInt16.toUInt32.toInt32).toInt ∧ (x.toUInt32.toUInt16.toUInt32.toInt32).toInt ≤ 65535 := by
  have hlt : x.toUInt32.toUInt16.toNat < 65536 := x.toUInt32.toUInt16.toNat_lt
  have e : (x.toUInt32.toUInt16.toUInt32.toInt32).toInt = (x.toUInt32.toUInt16.toNat : Int) := by
    rw [← Int32.toInt_toBitVec, UInt32.toBitVec_toInt32, BitVec.toInt_eq_toNat_of_lt]
    · simp; rfl
    · simp only [UInt32.toNat_toBitVec, UInt16.toNat_toUInt32]; omega
  omega
def own_P (n : Int) : Prop := (n = 9 ∨ n = 10) ∨ (32 ≤ n ∧ n < 127) ∨ (159 < n ∧ n < 55296 ∧ n ≠ 8232) ∨ (57343 < n ∧ n ≤ 65533)
instance (n : Int) : Decidable (own_P n) := by unfold own_P; infer_instance
theorem own_f1 (c : Int32) : f1 c = if own_P c.toInt then 1 else 0 := by
  have e : ∀ k : Int32, (c = k) = (c.toInt = k.toInt) := fun k => by rw [Int32.toInt_inj]
  simp only [f1, f1_32, e, Int32.lt_iff_toInt_lt, Int32.reduceToInt]
  by_cases h : own_P c.toInt
  · rw [if_pos h]; unfold own_P at h
    repeat' split
    all_goals first | rfl | (exfalso; omega)
  · rw [if_neg h]; unfold own_P at h
    repeat' split
    all_goals first | rfl | (exfalso; omega)
theorem own_f2 (c : Int32) (h0 : 0 ≤ c.toInt) (h1 : c.toInt ≤ 65535) : f2 c = if own_P c.toInt then 0 else 1 := by
  have e : ∀ k : Int32, (c = k) = (c.toInt = k.toInt) := fun k => by rw [Int32.toInt_inj]
  simp only [f2, f2_41, f2_50, f2_64, e, Int32.lt_iff_toInt_lt, Int32.reduceToInt]
  by_cases h : own_P c.toInt
  · rw [if_pos h]; unfold own_P at h
    repeat' split
    all_goals first | rfl | (exfalso; omega)
  · rw [if_neg h]; unfold own_P at h
    repeat' split
    all_goals first | rfl | (exfalso; omega)
theorem own_y (x : Int32) (h : f2 x.toUInt32.toUInt16.toUInt32.toInt32 = 0) : f1 x.toUInt32.toUInt16.toUInt32.toInt32 = 1 := by
  have b := own_char x
  rw [own_f2 _ b.1 b.2] at h
  rw [own_f1]
  split at h
  · rename_i q; rw [if_pos q]
  · exact absurd h (by decide)
theorem own_n (x : Int32) (h : ¬ f2 x.toUInt32.toUInt16.toUInt32.toInt32 = 0) : f1 x.toUInt32.toUInt16.toUInt32.toInt32 = 0 := by
  have b := own_char x
  rw [own_f2 _ b.1 b.2] at h
  rw [own_f1]
  split at h
  · exact absurd rfl h
  · rename_i q; rw [if_neg q]

theorem pn_0 : plainName "com/example/scheherazade/scheherazade/reader/XmlCharsIsPlainPinLaw" = true := by first | (simp [plainName, overriddenIn]; done) | decide +kernel
theorem pd_0_0 : parseMethodDescriptor "(C)Z" = some ⟨[.char], some .boolean⟩ := by decide +kernel
theorem ef_0 (m : MethodId) (x0 : Int32) : entryFrame m #[(.int x0)] maxLocals = mkF m 0 #[.val (.int x0), .unset] [] := by first | (simp [entryFrame, mkF, argsToLocals, Value.category, maxLocals]; done) | rfl
def Q0 (n0 : Nat) (v : Option Value) (h : Heap) (L : List Loc) : Prop := v = some (.int 1) ∧ Fr n0 L
set_option maxRecDepth 65536 in
set_option maxHeartbeats 40000000 in
theorem rm0 (l : Launch) (Z : State) (a0 : Array Value) (hw : ∀ d ∈ tables_1, d.before a0 Z = true) (ws : List Jvm.Cond) (p1 : Int32) (h0 : Heap) (n0 : Nat) (Z0 : n0 ≤ h0.size)  :
    MetFree l x (head1 (Jvm.Cond.code x code maxLocals ret :: ws) room_1) (fun a U => a = #[(.int p1)] ∧ Z.Warmed39 U.vm ∧ U.heap = h0) (fun _ _ _ _ _ => True) (fun _ U o U' => ∃ v L, o = .returned v ∧ Q0 n0 v U'.heap L ∧ FrameEnd U o U' L room_1.cells room_1.slots) := by
  refine MetFree.of_bodySF (plainFor_of_name pn_0) hisR ?_
  intro p e s m args below meth c s₁ Bd hml0 hP hK
  obtain ⟨rfl, hZ, hh⟩ := hP
  have hx := Bd.exec
  have hby := Bd.bytes
  have hml : c.maxLocals = 2 := hml0
  have hown : s.vm.findClass "com/example/scheherazade/scheherazade/reader/XmlCharsIsPlainPinLaw" = some m.cls := findClass_of_methodNamed Bd.named
  have hnm := (name_of_methodNamed Bd.named Bd.method).1
  have X0 : Stand p l e room_1 s m #[(.int p1)] below meth c s₁ [] 0 0 := Stand.of_body Bd
  have e0 : s₁.heap = h0 := by rw [← hh, Bd.state]; rfl
  have N0 := Fr.nil n0
  refine own_start (Q := Q0 n0) (C := room_1.cells) (S := room_1.slots) ?_
  rw [ef_0 m p1]
  refine Gen.on (b := s₁.setTop (mkF m 1 #[.val (.int p1), .unset] [(.int p1)])) ?_ (fun t k => XS.iloadN X0.here hx rfl (hb hby at_0) rfl k)
  refine Gen.on (b := s₁.setTop (mkF m 2 #[.val (.int p1), .unset] [(.int p1.toUInt32.toUInt16.toUInt32.toInt32)])) ?_ (fun t k => XS.i2c X0.here hx rfl (hb hby at_1) rfl k)
  refine Gen.on (b := s₁.setTop (mkF m 3 #[.val (.int p1), .val (.int p1.toUInt32.toUInt16.toUInt32.toInt32)] [])) ?_ (fun t k => XS.istoreN X0.here hx rfl (hb hby at_2) rfl (l' := #[.val (.int p1), .val (.int p1.toUInt32.toUInt16.toUInt32.toInt32)]) rfl k)
  refine Gen.on (b := s₁.setTop (mkF m 4 #[.val (.int p1), .val (.int p1.toUInt32.toUInt16.toUInt32.toInt32)] [(.int p1.toUInt32.toUInt16.toUInt32.toInt32)])) ?_ (fun t k => XS.iloadN X0.here hx rfl (hb hby at_3) rfl k)
  obtain ⟨_, _, ⟨T1, L1, k1, n1⟩, -, X1, ⟨Lc1, hQ1, l1, y1, z1⟩, st1⟩ := Jvm.LawKit.callS X0 hx (y := (⟨"com/example/scheherazade/scheherazade/reader/XmlChars", "isPlain", "(C)Z"⟩ : MethodName)) hown (mvT hZ (hw _ (List.mem_of_getElem? (i := 0) rfl))) (mvT hZ (hw _ (List.mem_of_getElem? (i := 1) rfl))) (mvT hZ (hw _ (List.mem_of_getElem? (i := 2) rfl))) (mvT hZ (hw _ (List.mem_of_getElem? (i := 3) rfl))) (by decide) (backOf (W := 0) (rm1 l Z a0 hw [] p1.toUInt32.toUInt16.toUInt32.toInt32  h0 n0 Z0 ) hZ (hw _ (List.mem_of_getElem? (i := 3) rfl)) (hw _ (List.mem_of_getElem? (i := 2) rfl)) (by decide) (by decide)) (g := (mkF m 4 #[.val (.int p1), .val (.int p1.toUInt32.toUInt16.toUInt32.toInt32)] [(.int p1.toUInt32.toUInt16.toUInt32.toInt32)])) rfl (by rw [hml]; rfl) (argsL := [(.int p1.toUInt32.toUInt16.toUInt32.toInt32)]) (rest := []) (lenOf pd_0_0 rfl) rfl (by show 2 * 0 + _ ≤ _; exact Nat.le_of_eq rfl) (hb hby at_4) (fun _ _ => ⟨rfl, e0, (by decide : 0 + 0 ≤ _), (by decide : 0 + 0 ≤ _)⟩)
  dsimp only [Pt.U, Pt.locs, Pt.cells, Pt.slots] at X1 l1 y1 z1 st1 hQ1
  subst l1 y1 z1
  obtain ⟨rfl, N1q, e1⟩ := hQ1
  have N1 := Fr.app N0 N1q
  refine Gen.on (b := T1.setTop (mkF m 7 #[.val (.int p1), .val (.int p1.toUInt32.toUInt16.toUInt32.toInt32)] [(.int (f1 p1.toUInt32.toUInt16.toUInt32.toInt32))])) ?_ (fun t k => st1 t k)
  refine Gen.on (b := T1.setTop (mkF m 8 #[.val (.int p1), .val (.int p1.toUInt32.toUInt16.toUInt32.toInt32)] [(.int p1.toUInt32.toUInt16.toUInt32.toInt32), (.int (f1 p1.toUInt32.toUInt16.toUInt32.toInt32))])) ?_ (fun t k => XS.iloadN X1.here hx rfl (hb hby at_7) rfl k)
  obtain ⟨_, _, ⟨T2, L2, k2, n2⟩, -, X2, ⟨Lc2, hQ2, l2, y2, z2⟩, st2⟩ := Jvm.LawKit.callS X1 hx (y := (⟨"com/example/scheherazade/scheherazade/reader/XmlCharsIsPlainPinLaw", "excluded", "(C)Z"⟩ : MethodName)) hown (mvT hZ (hw _ (List.mem_of_getElem? (i := 4) rfl))) (mvT hZ (hw _ (List.mem_of_getElem? (i := 5) rfl))) (mvT hZ (hw _ (List.mem_of_getElem? (i := 6) rfl))) (mvT hZ (hw _ (List.mem_of_getElem? (i := 7) rfl))) (by decide) (backOf (W := 1) (rm2 l Z a0 hw [] p1.toUInt32.toUInt16.toUInt32.toInt32  h0 n0 Z0 ) hZ (hw _ (List.mem_of_getElem? (i := 7) rfl)) (hw _ (List.mem_of_getElem? (i := 6) rfl)) (by decide) (by decide)) (g := (mkF m 8 #[.val (.int p1), .val (.int p1.toUInt32.toUInt16.toUInt32.toInt32)] [(.int p1.toUInt32.toUInt16.toUInt32.toInt32), (.int (f1 p1.toUInt32.toUInt16.toUInt32.toInt32))])) rfl (by rw [hml]; rfl) (argsL := [(.int p1.toUInt32.toUInt16.toUInt32.toInt32)]) (rest := [(.int (f1 p1.toUInt32.toUInt16.toUInt32.toInt32))]) (lenOf pd_0_0 rfl) rfl (by show 2 * 0 + _ ≤ _; exact Nat.le_of_eq rfl) (hb hby at_8) (fun _ _ => ⟨rfl, e1, (by decide : 0 + 0 ≤ _), (by decide : 0 + 0 ≤ _)⟩)
  dsimp only [Pt.U, Pt.locs, Pt.cells, Pt.slots] at X2 l2 y2 z2 st2 hQ2
  subst l2 y2 z2
  obtain ⟨rfl, N2q, e2⟩ := hQ2
  have N2 := Fr.app N1 N2q
  refine Gen.on (b := T2.setTop (mkF m 11 #[.val (.int p1), .val (.int p1.toUInt32.toUInt16.toUInt32.toInt32)] [(.int (f2 p1.toUInt32.toUInt16.toUInt32.toInt32)), (.int (f1 p1.toUInt32.toUInt16.toUInt32.toInt32))])) ?_ (fun t k => st2 t k)
  by_cases c11_1 : (f2 p1.toUInt32.toUInt16.toUInt32.toInt32) = (0 : Int32)
  · refine Gen.on (b := T2.setTop (mkF m 14 #[.val (.int p1), .val (.int p1.toUInt32.toUInt16.toUInt32.toInt32)] [(.int (f1 p1.toUInt32.toUInt16.toUInt32.toInt32))])) ?_ (fun t k => XS.ifNo X2.here hx rfl (hb hby at_11) rfl ((if0 _ _).trans (teq c11_1).2) k)
    refine Gen.on (b := T2.setTop (mkF m 15 #[.val (.int p1), .val (.int p1.toUInt32.toUInt16.toUInt32.toInt32)] [(.int (1 : Int32)), (.int (f1 p1.toUInt32.toUInt16.toUInt32.toInt32))])) ?_ (fun t k => XS.iconst X2.here hx rfl (hb hby at_14) k)
    refine Gen.on (b := T2.setTop (mkF m 19 #[.val (.int p1), .val (.int p1.toUInt32.toUInt16.toUInt32.toInt32)] [(.int (1 : Int32)), (.int (f1 p1.toUInt32.toUInt16.toUInt32.toInt32))])) ?_ (fun t k => XS.goto X2.here hx rfl (pc0 := 15) (pc' := 19) rfl (hb hby at_15) (by decide) (by decide) k)
    refine Gen.on (b := T2.setTop (mkF m 22 #[.val (.int p1), .val (.int p1.toUInt32.toUInt16.toUInt32.toInt32)] [])) ?_ (fun t k => XS.icmpNo X2.here hx rfl (hb hby at_19) rfl (teq (own_y p1 c11_1)).2 k)
    refine Gen.on (b := T2.setTop (mkF m 23 #[.val (.int p1), .val (.int p1.toUInt32.toUInt16.toUInt32.toInt32)] [(.int (1 : Int32))])) ?_ (fun t k => XS.iconst X2.here hx rfl (hb hby at_22) k)
    refine Gen.on (b := T2.setTop (mkF m 27 #[.val (.int p1), .val (.int p1.toUInt32.toUInt16.toUInt32.toInt32)] [(.int (1 : Int32))])) ?_ (fun t k => XS.goto X2.here hx rfl (pc0 := 23) (pc' := 27) rfl (hb hby at_23) (by decide) (by decide) k)
    refine own_retN (t := .boolean) X2 hx Bd.returns (by simp) (by decide) (hb hby at_27) (by decide) (by decide) ?_
    exact ⟨rfl, N2⟩
  · refine Gen.on (b := T2.setTop (mkF m 18 #[.val (.int p1), .val (.int p1.toUInt32.toUInt16.toUInt32.toInt32)] [(.int (f1 p1.toUInt32.toUInt16.toUInt32.toInt32))])) ?_ (fun t k => XS.ifYes X2.here hx rfl (pc0 := 11) (pc' := 18) rfl (hb hby at_11) rfl ((if0 _ _).trans (feq c11_1).2) (by decide) (by decide) k)
    refine Gen.on (b := T2.setTop (mkF m 19 #[.val (.int p1), .val (.int p1.toUInt32.toUInt16.toUInt32.toInt32)] [(.int (0 : Int32)), (.int (f1 p1.toUInt32.toUInt16.toUInt32.toInt32))])) ?_ (fun t k => XS.iconst X2.here hx rfl (hb hby at_18) k)
    refine Gen.on (b := T2.setTop (mkF m 22 #[.val (.int p1), .val (.int p1.toUInt32.toUInt16.toUInt32.toInt32)] [])) ?_ (fun t k => XS.icmpNo X2.here hx rfl (hb hby at_19) rfl (teq (own_n p1 c11_1)).2 k)
    refine Gen.on (b := T2.setTop (mkF m 23 #[.val (.int p1), .val (.int p1.toUInt32.toUInt16.toUInt32.toInt32)] [(.int (1 : Int32))])) ?_ (fun t k => XS.iconst X2.here hx rfl (hb hby at_22) k)
    refine Gen.on (b := T2.setTop (mkF m 27 #[.val (.int p1), .val (.int p1.toUInt32.toUInt16.toUInt32.toInt32)] [(.int (1 : Int32))])) ?_ (fun t k => XS.goto X2.here hx rfl (pc0 := 23) (pc' := 27) rfl (hb hby at_23) (by decide) (by decide) k)
    refine own_retN (t := .boolean) X2 hx Bd.returns (by simp) (by decide) (hb hby at_27) (by decide) (by decide) ?_
    exact ⟨rfl, N2⟩
set_option maxRecDepth 65536 in
set_option maxHeartbeats 40000000 in
theorem comes_1 {Post : Tables → Env → Array Value → State → Outcome → State → Prop} (hpost : ∀ tb e args s v u, (limb_1_1.after args s (.returned v) u = true ∧ limb_1_2.after args s (.returned v) u = true ∧ True) → FrameEnd s (.returned v) u (Jvm.fieldLocs frame_1_writes args s ++ Jvm.arrayLocs frame_1_arrays args s ++ Jvm.staticLocs frame_1_statics s) 0 0 → Post tb e args s (.returned v) u) :
    ArmFor flags0 classFile x code maxLocals ret World_1 tables_1 room_1 Calls_1 rest_1 Pre_1 Post := by
  intro l hfl _ _ p e ha hc hk s m args below hf hA hF happ hP
  obtain ⟨hcalls, hrest, hpre⟩ := hP
  obtain ⟨-, -, -, hnamed, -, -, -, hat⟩ := (Spec.applies_iff hf).mp happ
  obtain ⟨hg, hn⟩ := and_e (Cond.before_iff.mp (show (Jvm.Cond.and given_1 narrow_1).before args s = true from hpre))
  obtain ⟨hcount, hr1⟩ := and_e hg
  obtain ⟨w0, rfl⟩ : ∃ w0 : Value, args = #[w0] := by
    have hs : args.size = 1 := by simpa [Cond.value, given_1] using hcount
    obtain ⟨L⟩ := args
    match L, hs with
    | [w0], _ => exact ⟨w0, rfl⟩
  have hw := fun d (hd : d ∈ tables_1) => atoms_spec (ws := Jvm.Cond.code x code maxLocals ret :: tables_1) hat d (List.mem_cons_of_mem _ hd)
  have hfit : Fit s := fun {y c} hc i hi => by
    obtain ⟨ha, rfl⟩ := Array.getElem?_eq_some_iff.mp hc
    have q := List.all_eq_true.mp ((Array.all_eq_true_iff_forall_mem.mp hF) _ (Array.getElem_mem ha)) i (List.mem_range.mpr hi)
    simpa [Array.getElem?_eq_getElem hi] using q
  obtain ⟨i0, ei0⟩ := is_v hr1
  obtain rfl : w0 = (.int i0) := Option.some.inj ei0
  obtain ⟨n, o, h1, h2, h3, _, L, rfl, ⟨rfl, N⟩, hq⟩ := rm0 l s _ hw tables_1 i0 s.heap s.heap.size (Nat.le_refl _)  p e ha hc hk s m _ below hf ((Spec.applies_iff_loose hf).mp happ).1 ⟨rfl, State.Warmed39.refl s, rfl⟩ trivial
  refine ⟨n, _, h1, h2, h3, hpost _ _ _ _ _ _ ⟨Cond.after_iff.mpr rfl, Cond.after_iff.mpr (eq_i res_at (Term.int_eval (1)) rfl), trivial⟩ ⟨hq.1, hq.2.1, (hq.2.2.sift fun y hy => Or.inr (N y hy)).mono (by decide) (by decide)⟩⟩
theorem main_1_1 : Claimed_1_1 := comes_1 fun _ _ _ _ _ _ h hF => ⟨h.1, hF⟩
theorem main_1_2 : Claimed_1_2 := comes_1 fun _ _ _ _ _ _ h hF => ⟨h.2.1, hF⟩
end Jvm.Pilot.@@N@@
namespace Jvm.Pilot.@@N@@
open Jvm Jvm.ClassFile Sem Op Lib Jvm.Free Jvm.Stand Jvm.Pilot.@@N@@.Jvm.D
/-! MADE BY PROGRAM (witnessworld.py) out of the Statement's table words and the real class files: 9 classes; the members and pool entries that the words name. The judged class is class 1, her method 1. -/
namespace start1
open Jvm.ClassFile
def u (s : String) : CpInfo := .utf8 (stringToUtf16 s)
/-- a pool by its gaps: so many unusable entries, then the entry; so many at the end -/
def gap : Nat → List CpInfo → List CpInfo
  | 0, r => r
  | n + 1, r => .unusable :: gap n r
def poolList (es : List (Nat × CpInfo)) (last : Nat) : List CpInfo := es.foldr (fun e r => gap e.1 (e.2 :: r)) (gap last [])
def pool (es : List (Nat × CpInfo)) (last : Nat) : Array CpInfo := ⟨poolList es last⟩
def fileOf (pool : Array CpInfo) (this : Nat) (attrs : Array Attribute := #[]) (ms : Array MethodInfo := #[]) (fl : Nat := 33) (sup : Nat := 0) (ifs : Array Nat := #[]) (fds : Array FieldInfo := #[]) : ClassFile where
  minorVersion := 0
  majorVersion := 65
  constantPool := pool
  accessFlags := fl
  thisClass := this
  superClass := sup
  interfaces := ifs
  fields := fds
  methods := ms
  attributes := attrs
def plain (name : String) (sup : Option ClassId) : Class where
  name := name
  kind := .ordinary
  loader := none
  accessFlags := 33
  super := sup
  interfaces := #[]
  cf := none
  fields := #[]
  methods := #[]
  instanceTypes := #[]
  staticTypes := #[]
  resolved := #[]
  callSites := []
  init := .initialized
  statics := none
  mirror := none

def pool0 : Array CpInfo := pool [(5, u "<init>"), (0, u "()V"), (1, .class_ 10), (1, u "java/lang/Object")] 113

def k0m0 : Method := { name := "<init>", desc := "()V", sig := { parameters := [], returnType := none }, accessFlags := 1, code := none }
/-- java/lang/Object -/
def k0 : Class := { plain "java/lang/Object" none with
  accessFlags := 33
  interfaces := #[]
  cf := some (fileOf pool0 8 #[] #[{ accessFlags := 1, nameIndex := 5, descriptorIndex := 6, attributes := #[] }] 33 0 #[] #[])
  fields := #[]
  methods := #[k0m0]
  instanceTypes := #[]
  staticTypes := #[]
  resolved := Array.replicate 124 none
  statics := none }

def pool1 : Array CpInfo := pool [(2, .class_ 4), (1, u "java/lang/Object"), (0, u "<init>"), (0, u "()V"), (0, .methodref 8 9), (0, .class_ 10), (0, .nameAndType 11 12), (0, u "com/example/scheherazade/scheherazade/reader/XmlChars"), (0, u "isPlain"), (0, u "(C)Z"), (0, .methodref 14 15), (0, .class_ 16), (0, .nameAndType 17 12), (0, u "com/example/scheherazade/scheherazade/reader/XmlCharsIsPlainPinLaw"), (0, u "excluded"), (0, .integer 55296), (0, .integer 57343), (0, .integer 65534), (0, .integer 65535), (2, u "law"), (0, u "(I)Z")] 3

def k1m0 : Method := { name := "<init>", desc := "()V", sig := { parameters := [], returnType := none }, accessFlags := 2, code := none }
def k1c1 : Code := { maxStack := 2, maxLocals := 2, code := code, exceptionTable := #[], attributes := #[] }
def k1m1 : Method := { name := "law", desc := "(I)Z", sig := { parameters := [.int], returnType := some .boolean }, accessFlags := 9, code := some k1c1 }
def k1c2 : Code := { maxStack := 2, maxLocals := 2, code := method_3_code, exceptionTable := #[], attributes := #[] }
def k1m2 : Method := { name := "excluded", desc := "(C)Z", sig := { parameters := [.char], returnType := some .boolean }, accessFlags := 10, code := some k1c2 }
/-- com/example/scheherazade/scheherazade/reader/XmlCharsIsPlainPinLaw -/
def k1 : Class := { plain "com/example/scheherazade/scheherazade/reader/XmlCharsIsPlainPinLaw" (some 0) with
  accessFlags := 49
  interfaces := #[]
  cf := some (fileOf pool1 14 #[] #[{ accessFlags := 2, nameIndex := 5, descriptorIndex := 6, attributes := #[] }, { accessFlags := 9, nameIndex := 24, descriptorIndex := 25, attributes := #[] }, { accessFlags := 10, nameIndex := 17, descriptorIndex := 12, attributes := #[] }] 49 2 #[] #[])
  fields := #[]
  methods := #[k1m0, k1m1, k1m2]
  instanceTypes := #[]
  staticTypes := #[]
  resolved := Array.replicate 29 none
  statics := none }

def pool2 : Array CpInfo := pool [(2, .class_ 4), (1, u "java/lang/Object"), (0, u "<init>"), (0, u "()V"), (0, .class_ 8), (0, u "com/example/scheherazade/scheherazade/reader/XmlChars"), (6, u "CHAR_RANGES"), (0, u "[I"), (19, .integer 55296), (0, .integer 57343), (0, .integer 65533), (2, u "NAME_START_RANGES"), (2, u "NAME_ONLY_RANGES"), (2, u "ASCII_CLASSES"), (35, u "ASCII_LIMIT"), (0, u "I"), (2, u "LAST_BMP_CHAR"), (0, u "C"), (0, u "DELETE"), (1, u "NEXT_LINE"), (1, u "LAST_C1_CONTROL"), (1, u "LINE_SEPARATOR"), (1, u "CHAR"), (1, u "SPACE"), (1, u "NAME_START"), (1, u "NAME"), (1, u "PUBID"), (6, u "isPlain"), (0, u "(C)Z")] 12

def k2m0 : Method := { name := "<init>", desc := "()V", sig := { parameters := [], returnType := none }, accessFlags := 2, code := none }
def k2c1 : Code := { maxStack := 2, maxLocals := 1, code := prog_110_method_6_code, exceptionTable := #[], attributes := #[] }
def k2m1 : Method := { name := "isPlain", desc := "(C)Z", sig := { parameters := [.char], returnType := some .boolean }, accessFlags := 8, code := some k2c1 }
/-- com/example/scheherazade/scheherazade/reader/XmlChars -/
def k2 : Class := { plain "com/example/scheherazade/scheherazade/reader/XmlChars" (some 0) with
  accessFlags := 49
  interfaces := #[]
  cf := some (fileOf pool2 7 #[] #[{ accessFlags := 2, nameIndex := 5, descriptorIndex := 6, attributes := #[] }, { accessFlags := 8, nameIndex := 112, descriptorIndex := 113, attributes := #[] }] 49 2 #[] #[{ accessFlags := 26, nameIndex := 83, descriptorIndex := 84, attributes := #[] }, { accessFlags := 26, nameIndex := 87, descriptorIndex := 88, attributes := #[] }, { accessFlags := 26, nameIndex := 89, descriptorIndex := 88, attributes := #[] }, { accessFlags := 26, nameIndex := 91, descriptorIndex := 88, attributes := #[] }, { accessFlags := 26, nameIndex := 93, descriptorIndex := 88, attributes := #[] }, { accessFlags := 26, nameIndex := 95, descriptorIndex := 88, attributes := #[] }, { accessFlags := 26, nameIndex := 97, descriptorIndex := 84, attributes := #[] }, { accessFlags := 26, nameIndex := 99, descriptorIndex := 84, attributes := #[] }, { accessFlags := 26, nameIndex := 101, descriptorIndex := 84, attributes := #[] }, { accessFlags := 26, nameIndex := 103, descriptorIndex := 84, attributes := #[] }, { accessFlags := 26, nameIndex := 105, descriptorIndex := 84, attributes := #[] }, { accessFlags := 26, nameIndex := 47, descriptorIndex := 16, attributes := #[] }, { accessFlags := 26, nameIndex := 15, descriptorIndex := 16, attributes := #[] }, { accessFlags := 26, nameIndex := 41, descriptorIndex := 16, attributes := #[] }, { accessFlags := 26, nameIndex := 44, descriptorIndex := 16, attributes := #[] }])
  fields := #[{ name := "ASCII_LIMIT", type := .int, accessFlags := 26, slot := 0, constantValue := 0 }, { name := "LAST_BMP_CHAR", type := .char, accessFlags := 26, slot := 1, constantValue := 0 }, { name := "DELETE", type := .char, accessFlags := 26, slot := 2, constantValue := 0 }, { name := "NEXT_LINE", type := .char, accessFlags := 26, slot := 3, constantValue := 0 }, { name := "LAST_C1_CONTROL", type := .char, accessFlags := 26, slot := 4, constantValue := 0 }, { name := "LINE_SEPARATOR", type := .char, accessFlags := 26, slot := 5, constantValue := 0 }, { name := "CHAR", type := .int, accessFlags := 26, slot := 6, constantValue := 0 }, { name := "SPACE", type := .int, accessFlags := 26, slot := 7, constantValue := 0 }, { name := "NAME_START", type := .int, accessFlags := 26, slot := 8, constantValue := 0 }, { name := "NAME", type := .int, accessFlags := 26, slot := 9, constantValue := 0 }, { name := "PUBID", type := .int, accessFlags := 26, slot := 10, constantValue := 0 }, { name := "ASCII_CLASSES", type := (.array .int), accessFlags := 26, slot := 11, constantValue := 0 }, { name := "CHAR_RANGES", type := (.array .int), accessFlags := 26, slot := 12, constantValue := 0 }, { name := "NAME_START_RANGES", type := (.array .int), accessFlags := 26, slot := 13, constantValue := 0 }, { name := "NAME_ONLY_RANGES", type := (.array .int), accessFlags := 26, slot := 14, constantValue := 0 }]
  methods := #[k2m0, k2m1]
  instanceTypes := #[]
  staticTypes := #[.int, .char, .char, .char, .char, .char, .int, .int, .int, .int, .int, (.array .int), (.array .int), (.array .int), (.array .int)]
  resolved := Array.replicate 126 none
  statics := none }

def pool3 : Array CpInfo := pool [(1, u "java/lang/Cloneable"), (0, .class_ 1), (0, u "java/lang/Object"), (0, .class_ 3)] 3

/-- java/lang/Cloneable -/
def k3 : Class := { plain "java/lang/Cloneable" (some 0) with
  accessFlags := 1537
  interfaces := #[]
  cf := some (fileOf pool3 2 #[] #[] 1537 4 #[] #[])
  fields := #[]
  methods := #[]
  instanceTypes := #[]
  staticTypes := #[]
  resolved := Array.replicate 8 none
  statics := none }

def pool4 : Array CpInfo := pool [(1, u "java/io/Serializable"), (0, .class_ 1), (0, u "java/lang/Object"), (0, .class_ 3)] 3

/-- java/io/Serializable -/
def k4 : Class := { plain "java/io/Serializable" (some 0) with
  accessFlags := 1537
  interfaces := #[]
  cf := some (fileOf pool4 2 #[] #[] 1537 4 #[] #[])
  fields := #[]
  methods := #[]
  instanceTypes := #[]
  staticTypes := #[]
  resolved := Array.replicate 8 none
  statics := none }

/-- the primitive byte -/
def k5 : Class := { plain "byte" none with kind := .primitive 'B', accessFlags := 0x411 }
/-- [B -/
def k6 : Class := { plain "[B" (some 0) with kind := .array 5 .byte, interfaces := #[3, 4], accessFlags := 1041 }

/-- the primitive int -/
def k7 : Class := { plain "int" none with kind := .primitive 'I', accessFlags := 0x411 }
/-- [I -/
def k8 : Class := { plain "[I" (some 0) with kind := .array 7 .int, interfaces := #[3, 4], accessFlags := 1041 }

def heap : Heap := #[]
def classes : Array Class := #[k0, k1, k2, k3, k4, k5, k6, k7, k8]
def interned : List (Array UInt16 × Addr) := []
def slotsUsed : Nat := 0
def theMethod : MethodId := ⟨1, 1⟩
def args0 : Array Value := #[.int 65]
def aboutOver (below : List Frame) : State where
  vm := { classes := classes, interned := interned.toArray }
  heap := heap
  slotsUsed := slotsUsed
  threads := #[{ frames := .invoking theMethod args0 :: below }]
def below0 : List Frame := [.native { method := ⟨0, 0⟩, args := #[] }]
def about1 : State := aboutOver below0
def p0 : Program := .bare "" "" ""
def e0 : Env := launch0.env 0 0 0
theorem w_frames : about1.frames = Frame.invoking theMethod args0 :: below0 := rfl
set_option maxRecDepth 65536 in
theorem w_args : argsFit about1.vm theMethod args0 = true := by decide +kernel
set_option maxRecDepth 65536 in
theorem w_heap : heapFits about1 = true := by decide +kernel
set_option maxRecDepth 65536 in
theorem w_runnable : about1.curStatus? = some .runnable := by decide +kernel
set_option maxRecDepth 65536 in
theorem w_alone : about1.alone = true := by decide +kernel
set_option maxRecDepth 65536 in
theorem w_named : about1.methodNamed? x = some theMethod := by decide +kernel
set_option maxRecDepth 65536 in
theorem w_hears : about1.hears theMethod below0 = true := by decide +kernel
set_option maxRecDepth 65536 in
theorem w_ripe : about1.ripe theMethod args0 below0 = true := by decide +kernel
theorem w_running : about1.status = .running := rfl
set_option maxRecDepth 65536 in
theorem w_room : about1.hasRoom e0.platform room_1 = true :=
  launch0.hasRoom_least _ room_1 (by decide +kernel) (by decide +kernel) (by decide +kernel) (by decide +kernel) (by decide +kernel) (by decide +kernel)
theorem allAtoms_all (ts : List Jvm.Cond) (a : Array Jvm.Value) (st : Jvm.State) : (allAtoms ts).before a st = ts.all (fun c => c.before a st) := by
  induction ts with
  | nil => rfl
  | cons c t ih =>
    show (Jvm.Cond.and c (allAtoms t)).before a st = _
    rw [Jvm.Cond.before_and, ih, List.all_cons]
def words1 : List Jvm.Cond := Jvm.Cond.code x code maxLocals ret :: tables_1
/-- a 'code' word, met by the world's own term for the bytes: nothing is compared byte by byte -/
theorem code_word {y : MethodName} {bytes : ByteArray} {mx : Nat} {rt : Option FieldType} {a : Array Value} {s : State} {m : MethodId} {meth : Method} {c : Code} (h1 : s.methodNamed? y = some m) (h2 : s.vm.method? m = some meth) (h3 : meth.code = some c) (h4 : c.code = bytes)
    (h5 : (c.maxLocals == mx && c.exceptionTable.isEmpty && decide (c.maxStack ≤ mostOperands) && decide (meth.sig.returnType = rt) && !meth.locks && decide (parseMethodDescriptor y.desc = some meth.sig)) = true) : (Jvm.Cond.code y bytes mx rt).before a s = true := by
  simp only [Bool.and_eq_true, beq_iff_eq, Bool.not_eq_true', decide_eq_true_eq] at h5
  obtain ⟨⟨⟨⟨⟨g1, g2⟩, g3⟩, g4⟩, g5⟩, g6⟩ := h5
  simp [Cond.before, Cond.holds, Cond.value, h1, h2, h3, h4, g1, g2, g3, g4, g5, g6]
def isCode : Jvm.Cond → Bool
  | .code _ _ _ _ => true
  | _ => false
theorem all_split {L : List Jvm.Cond} {P : Jvm.Cond → Bool} (h1 : L.all (fun c => isCode c || P c) = true) (h2 : ∀ c ∈ L.filter isCode, P c = true) : L.all P = true := by
  refine List.all_eq_true.mpr fun c hc => ?_
  have h := List.all_eq_true.mp h1 c hc
  rcases Bool.eq_false_or_eq_true (isCode c) with hi | hi
  · exact h2 c (List.mem_filter.mpr ⟨hc, hi⟩)
  · simpa [hi] using h
set_option maxRecDepth 65536 in
theorem w_c0 : (Jvm.Cond.code x code maxLocals ret).before args0 about1 = true := code_word (m := ⟨1, 1⟩) (meth := k1m1) (c := k1c1) (by decide +kernel) rfl rfl rfl (by decide +kernel)
set_option maxRecDepth 65536 in
theorem w_c1 : (Jvm.Cond.code ({ cls := "com/example/scheherazade/scheherazade/reader/XmlChars", name := "isPlain", desc := "(C)Z" } : Jvm.MethodName) prog_110_method_6_code (1 : Nat) (Option.some Jvm.ClassFile.FieldType.boolean)).before args0 about1 = true := code_word (m := ⟨2, 1⟩) (meth := k2m1) (c := k2c1) (by decide +kernel) rfl rfl rfl (by decide +kernel)
set_option maxRecDepth 65536 in
theorem w_c2 : (Jvm.Cond.code ({ cls := "com/example/scheherazade/scheherazade/reader/XmlCharsIsPlainPinLaw", name := "excluded", desc := "(C)Z" } : Jvm.MethodName) method_3_code (2 : Nat) (Option.some Jvm.ClassFile.FieldType.boolean)).before args0 about1 = true := code_word (m := ⟨1, 2⟩) (meth := k1m2) (c := k1c2) (by decide +kernel) rfl rfl rfl (by decide +kernel)
def codes1 : List Jvm.Cond := [Jvm.Cond.code x code maxLocals ret, Jvm.Cond.code ({ cls := "com/example/scheherazade/scheherazade/reader/XmlChars", name := "isPlain", desc := "(C)Z" } : Jvm.MethodName) prog_110_method_6_code (1 : Nat) (Option.some Jvm.ClassFile.FieldType.boolean), Jvm.Cond.code ({ cls := "com/example/scheherazade/scheherazade/reader/XmlCharsIsPlainPinLaw", name := "excluded", desc := "(C)Z" } : Jvm.MethodName) method_3_code (2 : Nat) (Option.some Jvm.ClassFile.FieldType.boolean)]
set_option maxRecDepth 65536 in
theorem codes_eq : words1.filter isCode = codes1 := rfl
theorem w_codes : ∀ c ∈ words1.filter isCode, c.before args0 about1 = true := by
  rw [codes_eq]
  intro c hc
  simp only [codes1, List.mem_cons, List.not_mem_nil, or_false] at hc
  rcases hc with rfl | rfl | rfl
  · exact w_c0
  · exact w_c1
  · exact w_c2
set_option maxRecDepth 65536 in
theorem w_t1 : words1.all (fun c => isCode c || c.before args0 about1) = true := by decide +kernel
theorem w_tables : (allAtoms (Jvm.Cond.code x code maxLocals ret :: tables_1)).before args0 about1 = true := by
  rw [allAtoms_all]
  show words1.all (fun c => c.before args0 about1) = true
  refine all_split ?_ w_codes
  rw [w_t1]
set_option maxRecDepth 65536 in
theorem w_case : (Jvm.Cond.and given_1 narrow_1).before args0 about1 = true := by decide +kernel
theorem w_applies : (headSpec (Jvm.Cond.code x code maxLocals ret :: tables_1) room_1).applies x e0.platform about1 = true :=
  (Spec.applies_iff w_frames).mpr ⟨w_running, w_runnable, w_alone, w_named, w_hears, w_ripe, w_room, w_tables⟩
theorem atStart : AtStart classFile x code maxLocals ret World_1 tables_1 room_1 Calls_1 rest_1 Pre_1 launch0 p0 e0 about1 theMethod args0 below0 :=
  ⟨lists_1, trivial, launch0.admits_env _ _ _, launch0.least_env, fairChoices_fair.cas, fairChoices_fair.clock, w_frames, w_args, w_heap, w_applies, trivial, trivial, w_case⟩
end start1
theorem witness_1 : WitnessClaimed_1 := ⟨start1.p0, start1.e0, start1.about1, start1.theMethod, start1.args0, start1.below0, start1.atStart⟩
end Jvm.Pilot.@@N@@
