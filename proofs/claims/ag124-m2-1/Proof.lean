import JvmDerived
import JvmDerived.Pilot.@@N@@Statement
import JvmDerived.Pilot.@@N@@Code
set_option linter.unusedVariables false
set_option linter.unusedSimpArgs false
@@BLOCK:NumsL.lean.txt@@
namespace Jvm.Pilot.@@N@@
open Jvm Jvm.ClassFile Sem Op Lib Jvm.Free Jvm.Stand Jvm.LawKit Jvm.RoadKit Bundle Jvm.Pilot.@@N@@.Jvm.D
section OwnKit
variable {p : Program} {l : Launch} {e : Env} {R : Room} {s : State} {m : MethodId} {args : Array Value} {below : List Frame} {meth : Method} {c : Code} {T : State} {locs : List Loc} {cells slots : Nat}
/-- from the state a the run comes to a state of which P holds -/
def Gen (p : Program) (e : Env) (below : List Frame) (P : State → Prop) (a : State) : Prop := ∃ s₂, Steps p.tables e below a s₂ ∧ P s₂
theorem Gen.on {P : State → Prop} {a b : State} (k : Gen p e below P b) (h : ∀ t, Steps p.tables e below b t → Steps p.tables e below a t) : Gen p e below P a := by
  obtain ⟨s2, h1, h2⟩ := k
  exact ⟨s2, h _ h1, h2⟩
/-- the body has returned, and Q holds of what it returns, leaves and has written -/
def OwnP (below : List Frame) (s : State) (Q : Option Value → Heap → List Loc → Prop) (C S : Nat) (s₂ : State) : Prop := ∃ o, s₂.status = .running ∧ Ended s₂ below o ∧ ∃ v L, o = .returned v ∧ Q v s₂.heap L ∧ FrameEnd s o s₂ L C S
def Own (p : Program) (e : Env) (below : List Frame) (s : State) (Q : Option Value → Heap → List Loc → Prop) (C S : Nat) (a : State) : Prop := Gen p e below (OwnP below s Q C S) a
variable {Q : Option Value → Heap → List Loc → Prop} {C S : Nat}
theorem own_start {a : State} (k : Own p e below s Q C S a) : ∃ s₂ o, Steps p.tables e below a s₂ ∧ s₂.status = .running ∧ Ended s₂ below o ∧ ∃ v L, o = .returned v ∧ Q v s₂.heap L ∧ FrameEnd s o s₂ L C S := by
  obtain ⟨s2, h1, o, h2⟩ := k
  exact ⟨s2, o, h1, h2⟩
/-- the walk stands in a frame F, the heap being H, with what X had written -/
def own_at (X : Stand p l e R s m args below meth c T locs cells slots) (H : Heap) (F : JFrame) (s₂ : State) : Prop := ∃ T', Stand p l e R s m args below meth c T' locs cells slots ∧ T'.heap = H ∧ s₂ = T'.setTop F
theorem own_ret (X : Stand p l e R s m args below meth c T locs cells slots) {g : JFrame} {v : Option Value} (hv : meth.sig.returnType = none → v = none) (hlocks : meth.locks = false) (hc : cells ≤ C) (hs : slots ≤ S) (hq : Q v T.heap locs)
    (st : ∀ fs, (∀ (f : JFrame) (acts : List Action), f.method = m → f.locked = none → f.entered = [] → (doReturn e (T.setTop f) acts v).1 = T.setFrames fs) → Steps p.tables e below (T.setTop g) (T.setFrames fs)) : Own p e below s Q C S (T.setTop g) := by
  obtain ⟨fs, hr, hrun, hended, hW, hsame⟩ := X.leave (v := v) hv hlocks
  exact ⟨_, st fs hr, _, hrun, hended, _, _, rfl, hq, ⟨_, rfl⟩, hW, hsame.mono hc hs⟩
theorem own_retI (X : Stand p l e R s m args below meth c T locs cells slots) (hx : p.tables.exec = Jvm.exec) {pc : Nat} {Ls : Array Slot} {z : Int32} {rest : List Value} (hret : meth.sig.returnType = some .int) (hd : decode c.code pc = .ok (.ireturn, 1)) (hc : cells ≤ C) (hs : slots ≤ S) (hq : Q (some (.int z)) T.heap locs) (hlocks : meth.locks = false := by first | assumption | exact BodyLoose.notSynchronized (by assumption)) : Own p e below s Q C S (T.setTop (mkF m pc Ls (.int z :: rest))) :=
  own_ret X (fun h => by rw [hret] at h; cases h) hlocks hc hs hq fun fs hr => retOut X hx hret rfl (Or.inl ⟨rfl, Or.inl rfl, z, rfl⟩) hd hr
theorem own_retN (X : Stand p l e R s m args below meth c T locs cells slots) (hx : p.tables.exec = Jvm.exec) {pc : Nat} {Ls : Array Slot} {z : Int32} {t : FieldType} {rest : List Value} (hret : meth.sig.returnType = some t) (ht : t = .boolean ∨ t = .byte ∨ t = .char ∨ t = .short) (hz : nar t z = z) (hd : decode c.code pc = .ok (.ireturn, 1)) (hc : cells ≤ C) (hs : slots ≤ S) (hq : Q (some (.int z)) T.heap locs) (hlocks : meth.locks = false := by first | assumption | exact BodyLoose.notSynchronized (by assumption)) : Own p e below s Q C S (T.setTop (mkF m pc Ls (.int z :: rest))) :=
  own_ret X (fun h => by rw [hret] at h; cases h) hlocks hc hs hq fun fs hr => retN X hx hret ht hd (by rw [hz]; exact hr)
theorem own_retJ (X : Stand p l e R s m args below meth c T locs cells slots) (hx : p.tables.exec = Jvm.exec) {pc : Nat} {Ls : Array Slot} {z : Int64} {rest : List Value} (hret : meth.sig.returnType = some .long) (hd : decode c.code pc = .ok (.lreturn, 1)) (hc : cells ≤ C) (hs : slots ≤ S) (hq : Q (some (.long z)) T.heap locs) (hlocks : meth.locks = false := by first | assumption | exact BodyLoose.notSynchronized (by assumption)) : Own p e below s Q C S (T.setTop (mkF m pc Ls (.long z :: rest))) :=
  own_ret X (fun h => by rw [hret] at h; cases h) hlocks hc hs hq fun fs hr => retOut X hx hret rfl (Or.inr (Or.inl ⟨rfl, rfl, z, rfl⟩)) hd hr
theorem own_retA (X : Stand p l e R s m args below meth c T locs cells slots) (hx : p.tables.exec = Jvm.exec) {pc : Nat} {Ls : Array Slot} {w : Value} {t : FieldType} {rest : List Value} (hret : meth.sig.returnType = some t) (ht : t.isReference = true) (hw : w.isRef = true) (hd : decode c.code pc = .ok (.areturn, 1)) (hc : cells ≤ C) (hs : slots ≤ S) (hq : Q (some w) T.heap locs) (hlocks : meth.locks = false := by first | assumption | exact BodyLoose.notSynchronized (by assumption)) : Own p e below s Q C S (T.setTop (mkF m pc Ls (w :: rest))) :=
  own_ret X (fun h => by rw [hret] at h; cases h) hlocks hc hs hq fun fs hr => retOut X hx hret (by cases t <;> cases w <;> simp [FieldType.isReference, Value.isRef] at ht hw <;> rfl) (Or.inr (Or.inr (Or.inr (Or.inr ⟨rfl, ht, hw⟩)))) hd hr
theorem own_ret0 (X : Stand p l e R s m args below meth c T locs cells slots) (hx : p.tables.exec = Jvm.exec) {pc : Nat} {Ls : Array Slot} (hret : meth.sig.returnType = none) (hd : decode c.code pc = .ok (.return_, 1)) (hc : cells ≤ C) (hs : slots ≤ S) (hq : Q none T.heap locs) (hlocks : meth.locks = false := by first | assumption | exact BodyLoose.notSynchronized (by assumption)) : Own p e below s Q C S (T.setTop (mkF m pc Ls [])) :=
  own_ret X (fun _ => rfl) hlocks hc hs hq fun fs hr => X.returnOut hx hret hd hr
theorem own_lt1 {a b : Int64} (h : a < b) : ifCond.holds .lt (lcmpW a b) = true ∧ ifCond.holds .ge (lcmpW a b) = false := by
  have h1 : ¬ a > b := fun q => by rw [gt_iff_lt, Int64.lt_iff_toInt_lt] at q; rw [Int64.lt_iff_toInt_lt] at h; omega
  have h2 : ¬ a = b := fun q => by subst q; exact h1 h
  rw [lcmpW, if_neg h1, if_neg h2]; exact ⟨rfl, rfl⟩
theorem own_lt0 {a b : Int64} (h : ¬ a < b) : ifCond.holds .lt (lcmpW a b) = false ∧ ifCond.holds .ge (lcmpW a b) = true := by
  rw [lcmpW]
  by_cases h1 : a > b
  · rw [if_pos h1]; exact ⟨rfl, rfl⟩
  · have h2 : a = b := by rw [gt_iff_lt, Int64.lt_iff_toInt_lt] at h1; rw [Int64.lt_iff_toInt_lt] at h; exact Int64.toInt_inj.mp (by omega)
    rw [if_neg h1, if_pos h2]; exact ⟨rfl, rfl⟩
theorem own_gt1 {a b : Int64} (h : b < a) : ifCond.holds .gt (lcmpW a b) = true ∧ ifCond.holds .le (lcmpW a b) = false := by
  rw [lcmpW, if_pos h]; exact ⟨rfl, rfl⟩
theorem own_gt0 {a b : Int64} (h : ¬ b < a) : ifCond.holds .gt (lcmpW a b) = false ∧ ifCond.holds .le (lcmpW a b) = true := by
  rw [lcmpW, if_neg h]
  by_cases h1 : a = b
  · rw [if_pos h1]; exact ⟨rfl, rfl⟩
  · rw [if_neg h1]; exact ⟨rfl, rfl⟩
theorem own_eq1 {a b : Int64} (h : a = b) : ifCond.holds .eq (lcmpW a b) = true ∧ ifCond.holds .ne (lcmpW a b) = false := by
  have h1 : ¬ a > b := fun q => by subst h; rw [gt_iff_lt, Int64.lt_iff_toInt_lt] at q; omega
  rw [lcmpW, if_neg h1, if_pos h]; exact ⟨rfl, rfl⟩
theorem own_eq0 {a b : Int64} (h : ¬ a = b) : ifCond.holds .eq (lcmpW a b) = false ∧ ifCond.holds .ne (lcmpW a b) = true := by
  rw [lcmpW]
  by_cases h1 : a > b
  · rw [if_pos h1]; exact ⟨rfl, rfl⟩
  · rw [if_neg h1, if_neg h]; exact ⟨rfl, rfl⟩
theorem own_sta_keep {Z : State} {h h' : Heap} {C n d : String} {w : Value} (F : Sta Z h C n d w) (K : Keep h h' []) : Sta Z h' C n d w := by
  obtain ⟨cf, i, k, f, st, cell, h1, h2, h3, h4, h5, h6⟩ := F
  exact ⟨cf, i, k, f, st, cell, h1, h2, h3, h4, K.2.1 st cell h5 nin0, h6⟩
theorem own_arr_keep {Z : State} {h h' : Heap} {a : Addr} {cl : Cell} {ty : FieldType} {ws : List Addr} (A : Arr Z h a cl ty) (K : Keep h h' ws) (q : a ∉ ws) : Arr Z h' a cl ty := ⟨K.2.1 a cl A.1 q, A.2⟩
end OwnKit

theorem d2_0 : decode jdk_43_method_3_code 0 = .ok (.iload_n 0, 1) := by decide +kernel
theorem d2_1 : decode jdk_43_method_3_code 1 = .ok (.sipush 255, 3) := by decide +kernel
theorem d2_4 : decode jdk_43_method_3_code 4 = .ok (.if_icmp .gt 7, 3) := by decide +kernel
theorem d2_7 : decode jdk_43_method_3_code 7 = .ok (.iconst 1, 1) := by decide +kernel
theorem d2_8 : decode jdk_43_method_3_code 8 = .ok (.goto 4, 3) := by decide +kernel
theorem d2_11 : decode jdk_43_method_3_code 11 = .ok (.iconst 0, 1) := by decide +kernel
theorem d2_12 : decode jdk_43_method_3_code 12 = .ok (.ireturn, 1) := by decide +kernel
theorem pn_2 : plainName "java/lang/StringLatin1" = true := by first | (simp [plainName, overriddenIn]; done) | decide +kernel
theorem ef_2 (m : MethodId) (x0 : Int32) : entryFrame m #[(.int x0)] 1 = mkF m 0 #[.val (.int x0)] [] := by first | (simp [entryFrame, mkF, argsToLocals, Value.category]; done) | rfl
def f2 (p1 : Int32) : Int32 := (if (255 : Int32) < p1 then (0 : Int32) else (1 : Int32))
def Q2 (p1 : Int32) (h0 : Heap) (n0 : Nat) (v : Option Value) (h : Heap) (L : List Loc) : Prop := v = some (.int (f2 p1)) ∧ Fr n0 L ∧ h = h0
set_option maxRecDepth 65536 in
set_option maxHeartbeats 40000000 in
theorem rm2 (l : Launch) (Z : State) (a0 : Array Value) (hw : ∀ d ∈ tables_1, d.before a0 Z = true) (wds : List Jvm.Cond) (p1 : Int32) (h0 : Heap) (n0 : Nat) (Z0 : n0 ≤ h0.size)  :
    MetFree l (⟨"java/lang/StringLatin1", "canEncode", "(C)Z"⟩ : MethodName) (head1 (Jvm.Cond.code (⟨"java/lang/StringLatin1", "canEncode", "(C)Z"⟩ : MethodName) jdk_43_method_3_code 1 (some .boolean) :: wds) ({ frames := 0, cells := 0, slots := 0, locals := 0 } : Room)) (fun a U => a = #[(.int p1)] ∧ Z.Warmed39 U.vm ∧ U.heap = h0) (fun _ _ _ _ _ => True) (fun _ U o U' => ∃ v L, o = .returned v ∧ Q2 p1 h0 n0 v U'.heap L ∧ FrameEnd U o U' L ({ frames := 0, cells := 0, slots := 0, locals := 0 } : Room).cells ({ frames := 0, cells := 0, slots := 0, locals := 0 } : Room).slots) := by
  refine MetFree.of_bodySF (plainFor_of_name pn_2) hisR ?_
  intro p e s m args below meth c s₁ Bd hml0 hP hK
  obtain ⟨rfl, hZ, hh⟩ := hP
  have hx := Bd.exec
  have hby := Bd.bytes
  have hml : c.maxLocals = 1 := hml0
  have hown : s.vm.findClass "java/lang/StringLatin1" = some m.cls := findClass_of_methodNamed Bd.named
  have hnm := (name_of_methodNamed Bd.named Bd.method).1
  have X0 : Stand p l e ({ frames := 0, cells := 0, slots := 0, locals := 0 } : Room) s m #[(.int p1)] below meth c s₁ [] 0 0 := Stand.of_body Bd
  have e0 : s₁.heap = h0 := by rw [← hh, Bd.state]; rfl
  have N0 := Fr.nil n0
  refine own_start (Q := Q2 p1 h0 n0) (C := ({ frames := 0, cells := 0, slots := 0, locals := 0 } : Room).cells) (S := ({ frames := 0, cells := 0, slots := 0, locals := 0 } : Room).slots) ?_
  rw [ef_2 m p1]
  have hq : ∀ v hh L, v = some (.int (f2 p1)) → Fr n0 L → hh = h0 → Q2 p1 h0 n0 v hh L := fun v hh L q1 q2 q3 => ⟨q1, q2, q3⟩
  refine Gen.on (b := s₁.setTop (mkF m 1 #[.val (.int p1)] [(.int p1)])) ?_ (fun t k => XS.iloadN X0.here hx rfl (hb hby d2_0) rfl k)
  refine Gen.on (b := s₁.setTop (mkF m 4 #[.val (.int p1)] [(.int (255 : Int32)), (.int p1)])) ?_ (fun t k => XS.sipush X0.here hx rfl (hb hby d2_1) k)
  by_cases c4_1 : (255 : Int32) < p1
  · refine Gen.on (b := s₁.setTop (mkF m 11 #[.val (.int p1)] [])) ?_ (fun t k => XS.icmpYes X0.here hx rfl (pc0 := 4) (pc' := 11) rfl (hb hby d2_4) rfl (tlt c4_1).2.2.1 (by decide) (by decide) k)
    refine Gen.on (b := s₁.setTop (mkF m 12 #[.val (.int p1)] [(.int (0 : Int32))])) ?_ (fun t k => XS.iconst X0.here hx rfl (hb hby d2_11) k)
    refine own_retN (t := .boolean) X0 hx Bd.returns (by simp) (by decide) (hb hby d2_12) (by decide) (by decide) ?_
    exact hq _ _ _ (by simp only [f2, if_pos c4_1]) N0 e0
  · refine Gen.on (b := s₁.setTop (mkF m 7 #[.val (.int p1)] [])) ?_ (fun t k => XS.icmpNo X0.here hx rfl (hb hby d2_4) rfl (flt c4_1).2.2.1 k)
    refine Gen.on (b := s₁.setTop (mkF m 8 #[.val (.int p1)] [(.int (1 : Int32))])) ?_ (fun t k => XS.iconst X0.here hx rfl (hb hby d2_7) k)
    refine Gen.on (b := s₁.setTop (mkF m 12 #[.val (.int p1)] [(.int (1 : Int32))])) ?_ (fun t k => XS.goto X0.here hx rfl (pc0 := 8) (pc' := 12) rfl (hb hby d2_8) (by decide) (by decide) k)
    refine own_retN (t := .boolean) X0 hx Bd.returns (by simp) (by decide) (hb hby d2_12) (by decide) (by decide) ?_
    exact hq _ _ _ (by simp only [f2, if_neg c4_1]) N0 e0

theorem own_enc (x : Int32) (h : ¬ (255 : Int32) < x) : ¬ f2 x = (0 : Int32) := by
  rw [f2, if_neg h]; decide


theorem d3_0 : decode jdk_43_method_46_code 0 = .ok (.iconst 1, 1) := by decide +kernel
theorem d3_1 : decode jdk_43_method_46_code 1 = .ok (.newarray .byte, 2) := by decide +kernel
theorem d3_3 : decode jdk_43_method_46_code 3 = .ok (.dup, 1) := by decide +kernel
theorem d3_4 : decode jdk_43_method_46_code 4 = .ok (.iconst 0, 1) := by decide +kernel
theorem d3_5 : decode jdk_43_method_46_code 5 = .ok (.iload_n 0, 1) := by decide +kernel
theorem d3_6 : decode jdk_43_method_46_code 6 = .ok (.i2b, 1) := by decide +kernel
theorem d3_7 : decode jdk_43_method_46_code 7 = .ok (.bastore, 1) := by decide +kernel
theorem d3_8 : decode jdk_43_method_46_code 8 = .ok (.areturn, 1) := by decide +kernel
theorem pn_3 : plainName "java/lang/StringLatin1" = true := by first | (simp [plainName, overriddenIn]; done) | decide +kernel
theorem ef_3 (m : MethodId) (x0 : Int32) : entryFrame m #[(.int x0)] 1 = mkF m 0 #[.val (.int x0)] [] := by first | (simp [entryFrame, mkF, argsToLocals, Value.category]; done) | rfl
def Q3 (Z : State) (p1 : Int32) (h0 : Heap) (n0 : Nat) (v : Option Value) (h : Heap) (L : List Loc) : Prop := ∃ xr : Addr, v = some (.ref xr) ∧ Fr n0 L ∧ Keep h0 h []
set_option maxRecDepth 65536 in
set_option maxHeartbeats 40000000 in
theorem rm3 (l : Launch) (Z : State) (a0 : Array Value) (hw : ∀ d ∈ tables_1, d.before a0 Z = true) (wds : List Jvm.Cond) (p1 : Int32) (h0 : Heap) (n0 : Nat) (Z0 : n0 ≤ h0.size)  :
    MetFree l (⟨"java/lang/StringLatin1", "toBytes", "(C)[B"⟩ : MethodName) (head1 (Jvm.Cond.code (⟨"java/lang/StringLatin1", "toBytes", "(C)[B"⟩ : MethodName) jdk_43_method_46_code 1 (some (.array .byte)) :: wds) ({ frames := 0, cells := 1, slots := 1, locals := 0 } : Room)) (fun a U => a = #[(.int p1)] ∧ Z.Warmed39 U.vm ∧ U.heap = h0) (fun _ _ _ _ _ => True) (fun _ U o U' => ∃ v L, o = .returned v ∧ Q3 Z p1 h0 n0 v U'.heap L ∧ FrameEnd U o U' L ({ frames := 0, cells := 1, slots := 1, locals := 0 } : Room).cells ({ frames := 0, cells := 1, slots := 1, locals := 0 } : Room).slots) := by
  refine MetFree.of_bodySF (plainFor_of_name pn_3) hisR ?_
  intro p e s m args below meth c s₁ Bd hml0 hP hK
  obtain ⟨rfl, hZ, hh⟩ := hP
  have hx := Bd.exec
  have hby := Bd.bytes
  have hml : c.maxLocals = 1 := hml0
  have hown : s.vm.findClass "java/lang/StringLatin1" = some m.cls := findClass_of_methodNamed Bd.named
  have hnm := (name_of_methodNamed Bd.named Bd.method).1
  have X0 : Stand p l e ({ frames := 0, cells := 1, slots := 1, locals := 0 } : Room) s m #[(.int p1)] below meth c s₁ [] 0 0 := Stand.of_body Bd
  have e0 : s₁.heap = h0 := by rw [← hh, Bd.state]; rfl
  have N0 := Fr.nil n0
  refine own_start (Q := Q3 Z p1 h0 n0) (C := ({ frames := 0, cells := 1, slots := 1, locals := 0 } : Room).cells) (S := ({ frames := 0, cells := 1, slots := 1, locals := 0 } : Room).slots) ?_
  rw [ef_3 m p1]
  have K0 : Keep h0 h0 [] := Keep.refl h0 []
  refine Gen.on (b := s₁.setTop (mkF m 1 #[.val (.int p1)] [(.int (1 : Int32))])) ?_ (fun t k => XS.iconst X0.here hx rfl (hb hby d3_0) k)
  obtain ⟨b1, g1⟩ : ∃ z, z = h0.size := ⟨_, rfl⟩
  have g_b1 : n0 ≤ b1 := Nat.le_trans Z0 (Nat.le_of_eq g1.symm)
  have sz_b1 : h0.size ≤ b1 := Nat.le_trans K0.1 (Nat.le_of_eq g1.symm)
  obtain ⟨T1, h1, k1, X1, e1, E1, A1, st1⟩ := newP X0 hx hZ (hw _ (List.mem_of_getElem? (i := 17) rfl)) e0 (g := (mkF m 1 #[.val (.int p1)] [(.int (1 : Int32))])) rfl (hb hby d3_1) rfl (by decide) (cap := 1) (by decide) (by decide) (by decide) (by decide)
  rw [← g1] at A1 st1
  have Z1 : n0 ≤ h1.size := Nat.le_trans Z0 E1.1
  have K1 : Keep h0 h1 [] := K0.ext E1
  have V1 : Arv Z h1 b1 k1 .byte (1 : Int32) [(.int (0 : Int32))] (.int (0 : Int32)) := (Arv.new A1 (by decide)).pad (pad_rep [] (.int (0 : Int32)) 1)
  refine Gen.on (b := T1.setTop (mkF m 3 #[.val (.int p1)] [(.ref b1)])) ?_ (fun t k => st1 t k)
  refine Gen.on (b := T1.setTop (mkF m 4 #[.val (.int p1)] [(.ref b1), (.ref b1)])) ?_ (fun t k => XS.dup X1.here hx rfl (hb hby d3_3) rfl rfl k)
  refine Gen.on (b := T1.setTop (mkF m 5 #[.val (.int p1)] [(.int (0 : Int32)), (.ref b1), (.ref b1)])) ?_ (fun t k => XS.iconst X1.here hx rfl (hb hby d3_4) k)
  refine Gen.on (b := T1.setTop (mkF m 6 #[.val (.int p1)] [(.int p1), (.int (0 : Int32)), (.ref b1), (.ref b1)])) ?_ (fun t k => XS.iloadN X1.here hx rfl (hb hby d3_5) rfl k)
  refine Gen.on (b := T1.setTop (mkF m 7 #[.val (.int p1)] [(.int p1.toInt8.toInt32), (.int (0 : Int32)), (.ref b1), (.ref b1)])) ?_ (fun t k => XS.i2b X1.here hx rfl (hb hby d3_6) rfl k)
  obtain ⟨cl2, Ar2, qA2, SA2, NA2, HA2, GA2⟩ := id V1
  have hin2 : ¬ ((0 : Int32) < 0 ∨ cl2.slots.size ≤ ((0 : Int32)).toNatClampNeg) := inb_of SA2 ⟨by decide, by decide⟩
  obtain ⟨T2, h2, X2, e2, W2, st2⟩ := stB X1 hx hZ e1 Ar2 (j := (0 : Int32)) hin2 (g := (mkF m 7 #[.val (.int p1)] [(.int p1.toInt8.toInt32), (.int (0 : Int32)), (.ref b1), (.ref b1)])) rfl rfl (hb hby d3_7)
  have V2 := Arv.set Ar2 qA2 SA2 NA2 HA2 GA2 (fits_nar_byte _) W2 0 rfl (Nat.le_of_ble_eq_true rfl)
  have Z2 : n0 ≤ h2.size := Nat.le_trans Z1 (Keep.of_wr W2).1
  have K2 : Keep h0 h2 [] := K1.wr W2 (Or.inr sz_b1)
  have N2 := Fr.snoc X2 N0 g_b1
  have V2t : Arv Z h2 b1 k1 .byte (1 : Int32) [(.int (nar .byte p1.toInt8.toInt32))] (.int (0 : Int32)) := V2
  refine Gen.on (b := T2.setTop (mkF m 8 #[.val (.int p1)] [(.ref b1)])) ?_ (fun t k => st2 t k)
  refine own_retA X2 hx Bd.returns rfl rfl (hb hby d3_8) (by decide) (by decide) ?_
  show Q3 Z p1 h0 n0 _ T2.heap _
  rw [e2]
  exact ⟨_, rfl, N2, K2⟩

theorem d4_0 : decode jdk_42_method_151_code 0 = .ok (.aload_n 0, 1) := by decide +kernel
theorem d4_1 : decode jdk_42_method_151_code 1 = .ok (.invokespecial 1, 3) := by decide +kernel
theorem d4_4 : decode jdk_42_method_151_code 4 = .ok (.aload_n 0, 1) := by decide +kernel
theorem d4_5 : decode jdk_42_method_151_code 5 = .ok (.aload_n 1, 1) := by decide +kernel
theorem d4_6 : decode jdk_42_method_151_code 6 = .ok (.putfield 9, 3) := by decide +kernel
theorem d4_9 : decode jdk_42_method_151_code 9 = .ok (.aload_n 0, 1) := by decide +kernel
theorem d4_10 : decode jdk_42_method_151_code 10 = .ok (.iload_n 2, 1) := by decide +kernel
theorem d4_11 : decode jdk_42_method_151_code 11 = .ok (.putfield 15, 3) := by decide +kernel
theorem d4_14 : decode jdk_42_method_151_code 14 = .ok (.return_, 1) := by decide +kernel
theorem pn_4 : plainName "java/lang/String" = true := by first | (simp [plainName, overriddenIn]; done) | decide +kernel
theorem ef_4 (m : MethodId) (x0 : Addr) (x1 : Addr) (x2 : Int32) : entryFrame m #[(.ref x0), (.ref x1), (.int x2)] 3 = mkF m 0 #[.val (.ref x0), .val (.ref x1), .val (.int x2)] [] := by first | (simp [entryFrame, mkF, argsToLocals, Value.category]; done) | rfl
def Q4 (Z : State) (a1 : Addr) (a2 : Addr) (p3 : Int32) (u1 : Value) (u2 : Value) (h0 : Heap) (n0 : Nat) (v : Option Value) (h : Heap) (L : List Loc) : Prop := v = none ∧ Fr n0 L ∧ Keep h0 h [a1] ∧ Exa Z h a1 "java/lang/String"
set_option maxRecDepth 65536 in
set_option maxHeartbeats 40000000 in
theorem rm4 (l : Launch) (Z : State) (a0 : Array Value) (hw : ∀ d ∈ tables_1, d.before a0 Z = true) (wds : List Jvm.Cond) (a1 : Addr) (a2 : Addr) (p3 : Int32) (u1 : Value) (u2 : Value) (h0 : Heap) (n0 : Nat) (Z0 : n0 ≤ h0.size) (P0 : Exa Z h0 a1 "java/lang/String") (P1 : Fld Z h0 a1 "java/lang/String" "value" "[B" u1) (P2 : Fld Z h0 a1 "java/lang/String" "coder" "B" u2) (g_a1 : n0 ≤ a1) :
    MetFree l (⟨"java/lang/String", "<init>", "([BB)V"⟩ : MethodName) (head1 (Jvm.Cond.code (⟨"java/lang/String", "<init>", "([BB)V"⟩ : MethodName) jdk_42_method_151_code 3 none :: wds) ({ frames := 1, cells := 0, slots := 0, locals := 12 } : Room)) (fun a U => a = #[(.ref a1), (.ref a2), (.int p3)] ∧ Z.Warmed39 U.vm ∧ U.heap = h0) (fun _ _ _ _ _ => True) (fun _ U o U' => ∃ v L, o = .returned v ∧ Q4 Z a1 a2 p3 u1 u2 h0 n0 v U'.heap L ∧ FrameEnd U o U' L ({ frames := 1, cells := 0, slots := 0, locals := 12 } : Room).cells ({ frames := 1, cells := 0, slots := 0, locals := 12 } : Room).slots) := by
  refine MetFree.of_bodySF (plainFor_of_name pn_4) hisR ?_
  intro p e s m args below meth c s₁ Bd hml0 hP hK
  obtain ⟨rfl, hZ, hh⟩ := hP
  have hx := Bd.exec
  have hby := Bd.bytes
  have hml : c.maxLocals = 3 := hml0
  have hown : s.vm.findClass "java/lang/String" = some m.cls := findClass_of_methodNamed Bd.named
  have hnm := (name_of_methodNamed Bd.named Bd.method).1
  have X0 : Stand p l e ({ frames := 1, cells := 0, slots := 0, locals := 12 } : Room) s m #[(.ref a1), (.ref a2), (.int p3)] below meth c s₁ [] 0 0 := Stand.of_body Bd
  have e0 : s₁.heap = h0 := by rw [← hh, Bd.state]; rfl
  have N0 := Fr.nil n0
  refine own_start (Q := Q4 Z a1 a2 p3 u1 u2 h0 n0) (C := ({ frames := 1, cells := 0, slots := 0, locals := 12 } : Room).cells) (S := ({ frames := 1, cells := 0, slots := 0, locals := 12 } : Room).slots) ?_
  rw [ef_4 m a1 a2 p3]
  have K0 : Keep h0 h0 [a1] := Keep.refl h0 [a1]
  refine Gen.on (b := s₁.setTop (mkF m 1 #[.val (.ref a1), .val (.ref a2), .val (.int p3)] [(.ref a1)])) ?_ (fun t k => XS.aloadN X0.here hx rfl (hb hby d4_0) rfl rfl k)
  obtain ⟨T1, X1, e1, st1⟩ := initO X0 hx hZ hown (hw _ (List.mem_of_getElem? (i := 22) rfl)) (hw _ (List.mem_of_getElem? (i := 23) rfl)) (hw _ (List.mem_of_getElem? (i := 24) rfl)) e0 (g := (mkF m 1 #[.val (.ref a1), .val (.ref a2), .val (.int p3)] [(.ref a1)])) rfl (by rw [hml]; rfl) rfl (hb hby d4_1) (by decide) (W := 0) (by show 2 * 0 + _ ≤ _; exact Nat.le_of_eq rfl) (by decide)
  refine Gen.on (b := T1.setTop (mkF m 4 #[.val (.ref a1), .val (.ref a2), .val (.int p3)] [])) ?_ (fun t k => st1 t k)
  refine Gen.on (b := T1.setTop (mkF m 5 #[.val (.ref a1), .val (.ref a2), .val (.int p3)] [(.ref a1)])) ?_ (fun t k => XS.aloadN X1.here hx rfl (hb hby d4_4) rfl rfl k)
  refine Gen.on (b := T1.setTop (mkF m 6 #[.val (.ref a1), .val (.ref a2), .val (.int p3)] [(.ref a2), (.ref a1)])) ?_ (fun t k => XS.aloadN X1.here hx rfl (hb hby d4_5) rfl rfl k)
  obtain ⟨T2, h2, X2, e2, W2, st2⟩ := putF X1 hx hZ hown (host := "") (Or.inl (hw _ (List.mem_of_getElem? (i := 25) rfl))) Via.refl e1 P1 P0 (Or.inr ⟨(hw _ (List.mem_of_getElem? (i := 26) rfl)), rfl, hnm⟩) (hw _ (List.mem_of_getElem? (i := 13) rfl)) (ty := (.array .byte)) (by decide) rfl rfl (g := (mkF m 6 #[.val (.ref a1), .val (.ref a2), .val (.int p3)] [(.ref a2), (.ref a1)])) rfl rfl (hb hby d4_6)
  have Fw2 := P1.same W2
  have Z2 : n0 ≤ h2.size := Nat.le_trans Z0 (Keep.of_wr W2).1
  have K2 : Keep h0 h2 [a1] := K0.wr W2 (Or.inl (List.mem_of_getElem? (i := 0) rfl))
  have N2 := Fr.snoc X2 N0 g_a1
  refine Gen.on (b := T2.setTop (mkF m 9 #[.val (.ref a1), .val (.ref a2), .val (.int p3)] [])) ?_ (fun t k => st2 t k)
  refine Gen.on (b := T2.setTop (mkF m 10 #[.val (.ref a1), .val (.ref a2), .val (.int p3)] [(.ref a1)])) ?_ (fun t k => XS.aloadN X2.here hx rfl (hb hby d4_9) rfl rfl k)
  refine Gen.on (b := T2.setTop (mkF m 11 #[.val (.ref a1), .val (.ref a2), .val (.int p3)] [(.int p3), (.ref a1)])) ?_ (fun t k => XS.iloadN X2.here hx rfl (hb hby d4_10) rfl k)
  have fa3 := (P2.other W2 (Or.inr (slot_ne (Or.inr (hw _ (List.mem_of_getElem? (i := 28) rfl))) (Or.inr (hw _ (List.mem_of_getElem? (i := 26) rfl))) (by decide) (t := .byte) (t' := (.array .byte)) (by decide) (by decide))))
  have fa4 := (P0.wr W2)
  obtain ⟨T5, h5, X5, e5, W5, st5⟩ := putFN X2 hx hZ hown (hw _ (List.mem_of_getElem? (i := 27) rfl)) Via.refl e2 fa3 fa4 (Or.inr ⟨(hw _ (List.mem_of_getElem? (i := 28) rfl)), rfl, hnm⟩) (hw _ (List.mem_of_getElem? (i := 13) rfl)) (ty := .byte) (v' := (.int (nar .byte p3))) (by decide) rfl (fits_nar_byte _) (g := (mkF m 11 #[.val (.ref a1), .val (.ref a2), .val (.int p3)] [(.int p3), (.ref a1)])) rfl rfl (hb hby d4_11)
  have Fw5 := fa3.same W5
  have Z5 : n0 ≤ h5.size := Nat.le_trans Z2 (Keep.of_wr W5).1
  have K5 : Keep h0 h5 [a1] := K2.wr W5 (Or.inl (List.mem_of_getElem? (i := 0) rfl))
  have N5 := Fr.snoc X5 N2 g_a1
  refine Gen.on (b := T5.setTop (mkF m 14 #[.val (.ref a1), .val (.ref a2), .val (.int p3)] [])) ?_ (fun t k => st5 t k)
  refine own_ret0 X5 hx Bd.returns (hb hby d4_14) (by decide) (by decide) ?_
  have fa6 := (fa4.wr W5)
  show Q4 Z a1 a2 p3 u1 u2 h0 n0 _ T5.heap _
  rw [e5]
  exact ⟨rfl, N5, K5, fa6⟩

theorem d1_0 : decode jdk_42_method_139_code 0 = .ok (.getstatic 38, 3) := by decide +kernel
theorem d1_3 : decode jdk_42_method_139_code 3 = .ok (.ifCond .eq 23, 3) := by decide +kernel
theorem d1_6 : decode jdk_42_method_139_code 6 = .ok (.iload_n 0, 1) := by decide +kernel
theorem d1_7 : decode jdk_42_method_139_code 7 = .ok (.invokestatic 1015, 3) := by decide +kernel
theorem d1_10 : decode jdk_42_method_139_code 10 = .ok (.ifCond .eq 16, 3) := by decide +kernel
theorem d1_13 : decode jdk_42_method_139_code 13 = .ok (.new 10, 3) := by decide +kernel
theorem d1_16 : decode jdk_42_method_139_code 16 = .ok (.dup, 1) := by decide +kernel
theorem d1_17 : decode jdk_42_method_139_code 17 = .ok (.iload_n 0, 1) := by decide +kernel
theorem d1_18 : decode jdk_42_method_139_code 18 = .ok (.invokestatic 1018, 3) := by decide +kernel
theorem d1_21 : decode jdk_42_method_139_code 21 = .ok (.iconst 0, 1) := by decide +kernel
theorem d1_22 : decode jdk_42_method_139_code 22 = .ok (.invokespecial 209, 3) := by decide +kernel
theorem d1_25 : decode jdk_42_method_139_code 25 = .ok (.areturn, 1) := by decide +kernel
theorem pn_1 : plainName "java/lang/String" = true := by first | (simp [plainName, overriddenIn]; done) | decide +kernel
theorem pd_1_0 : parseMethodDescriptor "(C)Z" = some ⟨[.char], some .boolean⟩ := by decide +kernel
theorem pd_1_1 : parseMethodDescriptor "(C)[B" = some ⟨[.char], some (.array .byte)⟩ := by decide +kernel
theorem pd_1_2 : parseMethodDescriptor "([BB)V" = some ⟨[(.array .byte), .byte], none⟩ := by decide +kernel
theorem ef_1 (m : MethodId) (x0 : Int32) : entryFrame m #[(.int x0)] 1 = mkF m 0 #[.val (.int x0)] [] := by first | (simp [entryFrame, mkF, argsToLocals, Value.category]; done) | rfl
def Q1 (Z : State) (p1 : Int32) (w0 : Int32) (h0 : Heap) (n0 : Nat) (v : Option Value) (h : Heap) (L : List Loc) : Prop := ∃ xr : Addr, v = some (.ref xr) ∧ Fr n0 L ∧ Keep h0 h []
set_option maxRecDepth 65536 in
set_option maxHeartbeats 40000000 in
theorem rm1 (l : Launch) (Z : State) (a0 : Array Value) (hw : ∀ d ∈ tables_1, d.before a0 Z = true) (wds : List Jvm.Cond) (p1 : Int32) (w0 : Int32) (h0 : Heap) (n0 : Nat) (Z0 : n0 ≤ h0.size) (P0 : Sta Z h0 "java/lang/String" "COMPACT_STRINGS" "Z" (.int w0)) (hw0 : ¬ w0 = (0 : Int32)) (hp : ¬ (255 : Int32) < p1) :
    MetFree l (⟨"java/lang/String", "valueOf", "(C)Ljava/lang/String;"⟩ : MethodName) (head1 (Jvm.Cond.code (⟨"java/lang/String", "valueOf", "(C)Ljava/lang/String;"⟩ : MethodName) jdk_42_method_139_code 1 (some (.object "java/lang/String")) :: wds) ({ frames := 2, cells := 2, slots := 5, locals := 27 } : Room)) (fun a U => a = #[(.int p1)] ∧ Z.Warmed39 U.vm ∧ U.heap = h0) (fun _ _ _ _ _ => True) (fun _ U o U' => ∃ v L, o = .returned v ∧ Q1 Z p1 w0 h0 n0 v U'.heap L ∧ FrameEnd U o U' L ({ frames := 2, cells := 2, slots := 5, locals := 27 } : Room).cells ({ frames := 2, cells := 2, slots := 5, locals := 27 } : Room).slots) := by
  refine MetFree.of_bodySF (plainFor_of_name pn_1) hisR ?_
  intro p e s m args below meth c s₁ Bd hml0 hP hK
  obtain ⟨rfl, hZ, hh⟩ := hP
  have hx := Bd.exec
  have hby := Bd.bytes
  have hml : c.maxLocals = 1 := hml0
  have hown : s.vm.findClass "java/lang/String" = some m.cls := findClass_of_methodNamed Bd.named
  have hnm := (name_of_methodNamed Bd.named Bd.method).1
  have X0 : Stand p l e ({ frames := 2, cells := 2, slots := 5, locals := 27 } : Room) s m #[(.int p1)] below meth c s₁ [] 0 0 := Stand.of_body Bd
  have e0 : s₁.heap = h0 := by rw [← hh, Bd.state]; rfl
  have N0 := Fr.nil n0
  refine own_start (Q := Q1 Z p1 w0 h0 n0) (C := ({ frames := 2, cells := 2, slots := 5, locals := 27 } : Room).cells) (S := ({ frames := 2, cells := 2, slots := 5, locals := 27 } : Room).slots) ?_
  rw [ef_1 m p1]
  have K0 : Keep h0 h0 [] := Keep.refl h0 []
  obtain ⟨T1, X1, e1, st1⟩ := getS2 X0 hx hZ hown (host := "") (Or.inl (hw _ (List.mem_of_getElem? (i := 7) rfl))) Via.refl e0 P0 (g := (mkF m 0 #[.val (.int p1)] [])) rfl (hb hby d1_0)
  refine Gen.on (b := T1.setTop (mkF m 3 #[.val (.int p1)] [(.int w0)])) ?_ (fun t k => st1 t k)
  refine Gen.on (b := T1.setTop (mkF m 6 #[.val (.int p1)] [])) ?_ (fun t k => XS.ifNo X1.here hx rfl (hb hby d1_3) rfl ((if0 _ _).trans (feq hw0).1) k)
  refine Gen.on (b := T1.setTop (mkF m 7 #[.val (.int p1)] [(.int p1)])) ?_ (fun t k => XS.iloadN X1.here hx rfl (hb hby d1_6) rfl k)
  obtain ⟨_, _, ⟨T2, L2, k2, n2⟩, -, X2, ⟨Lc2, hQ2, l2, y2, z2⟩, st2⟩ := Jvm.LawKit.callS X1 hx (y := (⟨"java/lang/StringLatin1", "canEncode", "(C)Z"⟩ : MethodName)) hown (mvT hZ (hw _ (List.mem_of_getElem? (i := 8) rfl))) (mvT hZ (hw _ (List.mem_of_getElem? (i := 9) rfl))) (mvT hZ (hw _ (List.mem_of_getElem? (i := 10) rfl))) (mvT hZ (hw _ (List.mem_of_getElem? (i := 11) rfl))) (by decide) (backOf (W := 0) (rm2 l Z a0 hw [] p1  h0 n0 Z0 ) hZ (hw _ (List.mem_of_getElem? (i := 11) rfl)) (hw _ (List.mem_of_getElem? (i := 10) rfl)) (by decide) (by decide)) (g := (mkF m 7 #[.val (.int p1)] [(.int p1)])) rfl (by rw [hml]; rfl) (argsL := [(.int p1)]) (rest := []) (lenOf pd_1_0 rfl) rfl (by show 2 * 0 + _ ≤ _; exact Nat.le_of_eq rfl) (hb hby d1_7) (fun _ _ => ⟨rfl, e1, (by decide : 0 + 0 ≤ _), (by decide : 0 + 0 ≤ _)⟩)
  dsimp only [Pt.U, Pt.locs, Pt.cells, Pt.slots] at X2 l2 y2 z2 st2 hQ2
  subst l2 y2 z2
  obtain ⟨rfl, N2q, e2⟩ := hQ2
  have N2 := Fr.app N0 N2q
  refine Gen.on (b := T2.setTop (mkF m 10 #[.val (.int p1)] [(.int (f2 p1))])) ?_ (fun t k => st2 t k)
  refine Gen.on (b := T2.setTop (mkF m 13 #[.val (.int p1)] [])) ?_ (fun t k => XS.ifNo X2.here hx rfl (hb hby d1_10) rfl ((if0 _ _).trans (feq (own_enc p1 hp)).1) k)
  obtain ⟨b3, g3⟩ : ∃ z, z = h0.size := ⟨_, rfl⟩
  have g_b3 : n0 ≤ b3 := Nat.le_trans Z0 (Nat.le_of_eq g3.symm)
  have sz_b3 : h0.size ≤ b3 := Nat.le_trans K0.1 (Nat.le_of_eq g3.symm)
  obtain ⟨T3, h3, X3, e3, E3, A3, D3, -, st3⟩ := newO X2 hx hZ hown (hw _ (List.mem_of_getElem? (i := 12) rfl)) (hw _ (List.mem_of_getElem? (i := 13) rfl)) (hw _ (List.mem_of_getElem? (i := 5) rfl)) e2 (g := (mkF m 13 #[.val (.int p1)] [])) rfl (hb hby d1_13) (by decide) (by decide)
  rw [← g3] at A3 D3 st3
  have Z3 : n0 ≤ h3.size := Nat.le_trans Z0 E3.1
  have K3 : Keep h0 h3 [] := K0.ext E3
  have F3_value : Fld Z h3 b3 "java/lang/String" "value" "[B" .null := D3 (Or.inr (hw _ (List.mem_of_getElem? (i := 26) rfl))) (ty := (.array .byte)) (by decide)
  have F3_coder : Fld Z h3 b3 "java/lang/String" "coder" "B" (.int (0 : Int32)) := D3 (Or.inr (hw _ (List.mem_of_getElem? (i := 28) rfl))) (ty := .byte) (by decide)
  refine Gen.on (b := T3.setTop (mkF m 16 #[.val (.int p1)] [(.ref b3)])) ?_ (fun t k => st3 t k)
  refine Gen.on (b := T3.setTop (mkF m 17 #[.val (.int p1)] [(.ref b3), (.ref b3)])) ?_ (fun t k => XS.dup X3.here hx rfl (hb hby d1_16) rfl rfl k)
  refine Gen.on (b := T3.setTop (mkF m 18 #[.val (.int p1)] [(.int p1), (.ref b3), (.ref b3)])) ?_ (fun t k => XS.iloadN X3.here hx rfl (hb hby d1_17) rfl k)
  obtain ⟨_, _, ⟨T4, L4, k4, n4⟩, -, X4, ⟨Lc4, hQ4, l4, y4, z4⟩, st4⟩ := Jvm.LawKit.callS X3 hx (y := (⟨"java/lang/StringLatin1", "toBytes", "(C)[B"⟩ : MethodName)) hown (mvT hZ (hw _ (List.mem_of_getElem? (i := 14) rfl))) (mvT hZ (hw _ (List.mem_of_getElem? (i := 15) rfl))) (mvT hZ (hw _ (List.mem_of_getElem? (i := 10) rfl))) (mvT hZ (hw _ (List.mem_of_getElem? (i := 16) rfl))) (by decide) (backOf (W := 2) (rm3 l Z a0 hw [] p1  h3 n0 Z3 ) hZ (hw _ (List.mem_of_getElem? (i := 16) rfl)) (hw _ (List.mem_of_getElem? (i := 10) rfl)) (by decide) (by decide)) (g := (mkF m 18 #[.val (.int p1)] [(.int p1), (.ref b3), (.ref b3)])) rfl (by rw [hml]; rfl) (argsL := [(.int p1)]) (rest := [(.ref b3), (.ref b3)]) (lenOf pd_1_1 rfl) rfl (by show 2 * 0 + _ ≤ _; exact Nat.le_of_eq rfl) (hb hby d1_18) (fun _ _ => ⟨rfl, e3, (by decide : 1 + 1 ≤ _), (by decide : 4 + 1 ≤ _)⟩)
  dsimp only [Pt.U, Pt.locs, Pt.cells, Pt.slots] at X4 l4 y4 z4 st4 hQ4
  subst l4 y4 z4
  obtain ⟨xr4, rfl, N4q, Kc4⟩ := hQ4
  have N4 := Fr.app N2 N4q
  have Z4 : n0 ≤ T4.heap.size := Nat.le_trans Z3 Kc4.1
  have K4 : Keep h0 T4.heap [] := K3.trans Kc4 all0
  refine Gen.on (b := T4.setTop (mkF m 21 #[.val (.int p1)] [(.ref xr4), (.ref b3), (.ref b3)])) ?_ (fun t k => st4 t k)
  refine Gen.on (b := T4.setTop (mkF m 22 #[.val (.int p1)] [(.int (0 : Int32)), (.ref xr4), (.ref b3), (.ref b3)])) ?_ (fun t k => XS.iconst X4.here hx rfl (hb hby d1_21) k)
  have fa6 := (A3.keep Kc4)
  have fa7 := (F3_value.keep Kc4 nin0)
  have fa8 := (F3_coder.keep Kc4 nin0)
  obtain ⟨_, _, ⟨T5, L5, k5, n5⟩, -, X5, ⟨Lc5, hQ5, l5, y5, z5⟩, st5⟩ := X4.specialBack hx (y := (⟨"java/lang/String", "<init>", "([BB)V"⟩ : MethodName)) rfl hown (mvT hZ (hw _ (List.mem_of_getElem? (i := 18) rfl))) (mvT hZ (hw _ (List.mem_of_getElem? (i := 19) rfl))) (mvT hZ (hw _ (List.mem_of_getElem? (i := 21) rfl))) (by decide) (backOf (W := 1) (rm4 l Z a0 hw [] b3 xr4 (0 : Int32) .null (.int (0 : Int32)) T4.heap n0 Z4 fa6 fa7 fa8 g_b3) hZ (hw _ (List.mem_of_getElem? (i := 21) rfl)) (hw _ (List.mem_of_getElem? (i := 5) rfl)) (by decide) (by decide)) (g := (mkF m 22 #[.val (.int p1)] [(.int (0 : Int32)), (.ref xr4), (.ref b3), (.ref b3)])) rfl (by rw [hml]; rfl) (Steps.refl _) (a := b3) (argsL := [(.ref xr4), (.int (0 : Int32))]) (rest := [(.ref b3)]) (lenOf pd_1_2 rfl) rfl (by show 2 * 0 + _ ≤ _; exact Nat.le_of_eq rfl) (hb hby d1_22) (fun _ _ => ⟨rfl, rfl, (by decide : 2 + 0 ≤ _), (by decide : 5 + 0 ≤ _)⟩)
  dsimp only [Pt.U, Pt.locs, Pt.cells, Pt.slots] at X5 l5 y5 z5 st5 hQ5
  subst l5 y5 z5
  obtain ⟨rfl, N5q, Kc5, hf5_0⟩ := hQ5
  have N5 := Fr.app N4 N5q
  have Z5 : n0 ≤ T5.heap.size := Nat.le_trans Z4 Kc5.1
  have K5 : Keep h0 T5.heap [] := K4.trans Kc5 (allS (Or.inr sz_b3) all0)
  refine Gen.on (b := T5.setTop (mkF m 25 #[.val (.int p1)] [(.ref b3)])) ?_ (fun t k => st5.trans k)
  refine own_retA X5 hx Bd.returns rfl rfl (hb hby d1_25) (by decide) (by decide) ?_
  show Q1 Z p1 w0 h0 n0 _ T5.heap _
  exact ⟨_, rfl, N5, K5⟩

theorem d7_0 : decode jdk_30_method_1_code 0 = .ok (.aload_n 0, 1) := by decide +kernel
theorem d7_1 : decode jdk_30_method_1_code 1 = .ok (.invokespecial 1, 3) := by decide +kernel
theorem d7_4 : decode jdk_30_method_1_code 4 = .ok (.return_, 1) := by decide +kernel
theorem pn_7 : plainName "java/lang/Record" = true := by first | (simp [plainName, overriddenIn]; done) | decide +kernel
theorem ef_7 (m : MethodId) (x0 : Addr) : entryFrame m #[(.ref x0)] 1 = mkF m 0 #[.val (.ref x0)] [] := by first | (simp [entryFrame, mkF, argsToLocals, Value.category]; done) | rfl
def Q7 (Z : State) (a1 : Addr) (h0 : Heap) (n0 : Nat) (v : Option Value) (h : Heap) (L : List Loc) : Prop := v = none ∧ Fr n0 L ∧ h = h0
set_option maxRecDepth 65536 in
set_option maxHeartbeats 40000000 in
theorem rm7 (l : Launch) (Z : State) (a0 : Array Value) (hw : ∀ d ∈ tables_1, d.before a0 Z = true) (wds : List Jvm.Cond) (a1 : Addr) (h0 : Heap) (n0 : Nat) (Z0 : n0 ≤ h0.size)  :
    MetFree l (⟨"java/lang/Record", "<init>", "()V"⟩ : MethodName) (head1 (Jvm.Cond.code (⟨"java/lang/Record", "<init>", "()V"⟩ : MethodName) jdk_30_method_1_code 1 none :: wds) ({ frames := 1, cells := 0, slots := 0, locals := 12 } : Room)) (fun a U => a = #[(.ref a1)] ∧ Z.Warmed39 U.vm ∧ U.heap = h0) (fun _ _ _ _ _ => True) (fun _ U o U' => ∃ v L, o = .returned v ∧ Q7 Z a1 h0 n0 v U'.heap L ∧ FrameEnd U o U' L ({ frames := 1, cells := 0, slots := 0, locals := 12 } : Room).cells ({ frames := 1, cells := 0, slots := 0, locals := 12 } : Room).slots) := by
  refine MetFree.of_bodySF (plainFor_of_name pn_7) hisR ?_
  intro p e s m args below meth c s₁ Bd hml0 hP hK
  obtain ⟨rfl, hZ, hh⟩ := hP
  have hx := Bd.exec
  have hby := Bd.bytes
  have hml : c.maxLocals = 1 := hml0
  have hown : s.vm.findClass "java/lang/Record" = some m.cls := findClass_of_methodNamed Bd.named
  have hnm := (name_of_methodNamed Bd.named Bd.method).1
  have X0 : Stand p l e ({ frames := 1, cells := 0, slots := 0, locals := 12 } : Room) s m #[(.ref a1)] below meth c s₁ [] 0 0 := Stand.of_body Bd
  have e0 : s₁.heap = h0 := by rw [← hh, Bd.state]; rfl
  have N0 := Fr.nil n0
  refine own_start (Q := Q7 Z a1 h0 n0) (C := ({ frames := 1, cells := 0, slots := 0, locals := 12 } : Room).cells) (S := ({ frames := 1, cells := 0, slots := 0, locals := 12 } : Room).slots) ?_
  rw [ef_7 m a1]
  refine Gen.on (b := s₁.setTop (mkF m 1 #[.val (.ref a1)] [(.ref a1)])) ?_ (fun t k => XS.aloadN X0.here hx rfl (hb hby d7_0) rfl rfl k)
  obtain ⟨T1, X1, e1, st1⟩ := initO X0 hx hZ hown (hw _ (List.mem_of_getElem? (i := 42) rfl)) (hw _ (List.mem_of_getElem? (i := 23) rfl)) (hw _ (List.mem_of_getElem? (i := 24) rfl)) e0 (g := (mkF m 1 #[.val (.ref a1)] [(.ref a1)])) rfl (by rw [hml]; rfl) rfl (hb hby d7_1) (by decide) (W := 0) (by show 2 * 0 + _ ≤ _; exact Nat.le_of_eq rfl) (by decide)
  refine Gen.on (b := T1.setTop (mkF m 4 #[.val (.ref a1)] [])) ?_ (fun t k => st1 t k)
  refine own_ret0 X1 hx Bd.returns (hb hby d7_4) (by decide) (by decide) ?_
  exact ⟨rfl, N0, e1⟩

theorem d6_0 : decode prog_31_method_1_code 0 = .ok (.aload_n 0, 1) := by decide +kernel
theorem d6_1 : decode prog_31_method_1_code 1 = .ok (.invokespecial 1, 3) := by decide +kernel
theorem d6_4 : decode prog_31_method_1_code 4 = .ok (.aload_n 0, 1) := by decide +kernel
theorem d6_5 : decode prog_31_method_1_code 5 = .ok (.lload_n 1, 1) := by decide +kernel
theorem d6_6 : decode prog_31_method_1_code 6 = .ok (.putfield 7, 3) := by decide +kernel
theorem d6_9 : decode prog_31_method_1_code 9 = .ok (.aload_n 0, 1) := by decide +kernel
theorem d6_10 : decode prog_31_method_1_code 10 = .ok (.iload_n 3, 1) := by decide +kernel
theorem d6_11 : decode prog_31_method_1_code 11 = .ok (.putfield 13, 3) := by decide +kernel
theorem d6_14 : decode prog_31_method_1_code 14 = .ok (.aload_n 0, 1) := by decide +kernel
theorem d6_15 : decode prog_31_method_1_code 15 = .ok (.aload 4, 2) := by decide +kernel
theorem d6_17 : decode prog_31_method_1_code 17 = .ok (.putfield 17, 3) := by decide +kernel
theorem d6_20 : decode prog_31_method_1_code 20 = .ok (.aload_n 0, 1) := by decide +kernel
theorem d6_21 : decode prog_31_method_1_code 21 = .ok (.iload 5, 2) := by decide +kernel
theorem d6_23 : decode prog_31_method_1_code 23 = .ok (.putfield 21, 3) := by decide +kernel
theorem d6_26 : decode prog_31_method_1_code 26 = .ok (.aload_n 0, 1) := by decide +kernel
theorem d6_27 : decode prog_31_method_1_code 27 = .ok (.aload 6, 2) := by decide +kernel
theorem d6_29 : decode prog_31_method_1_code 29 = .ok (.putfield 24, 3) := by decide +kernel
theorem d6_32 : decode prog_31_method_1_code 32 = .ok (.return_, 1) := by decide +kernel
theorem pn_6 : plainName "com/example/epochwise/epochwise/trace/Event" = true := by first | (simp [plainName, overriddenIn]; done) | decide +kernel
theorem pd_6_0 : parseMethodDescriptor "()V" = some ⟨[], none⟩ := by decide +kernel
theorem ef_6 (m : MethodId) (x0 : Addr) (x1 : Int64) (x2 : Int32) (x3 : Addr) (x4 : Int32) (x5 : Addr) : entryFrame m #[(.ref x0), (.long x1), (.int x2), (.ref x3), (.int x4), (.ref x5)] 7 = mkF m 0 #[.val (.ref x0), .val (.long x1), .second, .val (.int x2), .val (.ref x3), .val (.int x4), .val (.ref x5)] [] := by first | (simp [entryFrame, mkF, argsToLocals, Value.category]; done) | rfl
def Q6 (Z : State) (a1 : Addr) (q2 : Int64) (p3 : Int32) (a4 : Addr) (p5 : Int32) (a6 : Addr) (u1 : Value) (u2 : Value) (u3 : Value) (u4 : Value) (u5 : Value) (h0 : Heap) (n0 : Nat) (v : Option Value) (h : Heap) (L : List Loc) : Prop := v = none ∧ Fr n0 L ∧ Keep h0 h [a1] ∧ Exa Z h a1 "com/example/epochwise/epochwise/trace/Event" ∧ Fld Z h a1 "com/example/epochwise/epochwise/trace/Event" "thread" "I" (.int p3)
set_option maxRecDepth 65536 in
set_option maxHeartbeats 40000000 in
theorem rm6 (l : Launch) (Z : State) (a0 : Array Value) (hw : ∀ d ∈ tables_1, d.before a0 Z = true) (wds : List Jvm.Cond) (a1 : Addr) (q2 : Int64) (p3 : Int32) (a4 : Addr) (p5 : Int32) (a6 : Addr) (u1 : Value) (u2 : Value) (u3 : Value) (u4 : Value) (u5 : Value) (h0 : Heap) (n0 : Nat) (Z0 : n0 ≤ h0.size) (P0 : Exa Z h0 a1 "com/example/epochwise/epochwise/trace/Event") (P1 : Fld Z h0 a1 "com/example/epochwise/epochwise/trace/Event" "index" "J" u1) (P2 : Fld Z h0 a1 "com/example/epochwise/epochwise/trace/Event" "thread" "I" u2) (P3 : Fld Z h0 a1 "com/example/epochwise/epochwise/trace/Event" "op" "Lcom/example/epochwise/epochwise/trace/Op;" u3) (P4 : Fld Z h0 a1 "com/example/epochwise/epochwise/trace/Event" "operand" "I" u4) (P5 : Fld Z h0 a1 "com/example/epochwise/epochwise/trace/Event" "loc" "Ljava/lang/String;" u5) (g_a1 : n0 ≤ a1) :
    MetFree l (⟨"com/example/epochwise/epochwise/trace/Event", "<init>", "(JILcom/example/epochwise/epochwise/trace/Op;ILjava/lang/String;)V"⟩ : MethodName) (head1 (Jvm.Cond.code (⟨"com/example/epochwise/epochwise/trace/Event", "<init>", "(JILcom/example/epochwise/epochwise/trace/Op;ILjava/lang/String;)V"⟩ : MethodName) prog_31_method_1_code 7 none :: wds) ({ frames := 2, cells := 0, slots := 0, locals := 24 } : Room)) (fun a U => a = #[(.ref a1), (.long q2), (.int p3), (.ref a4), (.int p5), (.ref a6)] ∧ Z.Warmed39 U.vm ∧ U.heap = h0) (fun _ _ _ _ _ => True) (fun _ U o U' => ∃ v L, o = .returned v ∧ Q6 Z a1 q2 p3 a4 p5 a6 u1 u2 u3 u4 u5 h0 n0 v U'.heap L ∧ FrameEnd U o U' L ({ frames := 2, cells := 0, slots := 0, locals := 24 } : Room).cells ({ frames := 2, cells := 0, slots := 0, locals := 24 } : Room).slots) := by
  refine MetFree.of_bodySF (plainFor_of_name pn_6) hisR ?_
  intro p e s m args below meth c s₁ Bd hml0 hP hK
  obtain ⟨rfl, hZ, hh⟩ := hP
  have hx := Bd.exec
  have hby := Bd.bytes
  have hml : c.maxLocals = 7 := hml0
  have hown : s.vm.findClass "com/example/epochwise/epochwise/trace/Event" = some m.cls := findClass_of_methodNamed Bd.named
  have hnm := (name_of_methodNamed Bd.named Bd.method).1
  have X0 : Stand p l e ({ frames := 2, cells := 0, slots := 0, locals := 24 } : Room) s m #[(.ref a1), (.long q2), (.int p3), (.ref a4), (.int p5), (.ref a6)] below meth c s₁ [] 0 0 := Stand.of_body Bd
  have e0 : s₁.heap = h0 := by rw [← hh, Bd.state]; rfl
  have N0 := Fr.nil n0
  refine own_start (Q := Q6 Z a1 q2 p3 a4 p5 a6 u1 u2 u3 u4 u5 h0 n0) (C := ({ frames := 2, cells := 0, slots := 0, locals := 24 } : Room).cells) (S := ({ frames := 2, cells := 0, slots := 0, locals := 24 } : Room).slots) ?_
  rw [ef_6 m a1 q2 p3 a4 p5 a6]
  have K0 : Keep h0 h0 [a1] := Keep.refl h0 [a1]
  refine Gen.on (b := s₁.setTop (mkF m 1 #[.val (.ref a1), .val (.long q2), .second, .val (.int p3), .val (.ref a4), .val (.int p5), .val (.ref a6)] [(.ref a1)])) ?_ (fun t k => XS.aloadN X0.here hx rfl (hb hby d6_0) rfl rfl k)
  obtain ⟨_, _, ⟨T1, L1, k1, n1⟩, -, X1, ⟨Lc1, hQ1, l1, y1, z1⟩, st1⟩ := X0.specialBack hx (y := (⟨"java/lang/Record", "<init>", "()V"⟩ : MethodName)) rfl hown (mvT hZ (hw _ (List.mem_of_getElem? (i := 37) rfl))) (mvT hZ (hw _ (List.mem_of_getElem? (i := 38) rfl))) (mvT hZ (hw _ (List.mem_of_getElem? (i := 41) rfl))) (by decide) (backOf (W := 0) (rm7 l Z a0 hw [] a1  h0 n0 Z0 ) hZ (hw _ (List.mem_of_getElem? (i := 41) rfl)) (hw _ (List.mem_of_getElem? (i := 40) rfl)) (by decide) (by decide)) (g := (mkF m 1 #[.val (.ref a1), .val (.long q2), .second, .val (.int p3), .val (.ref a4), .val (.int p5), .val (.ref a6)] [(.ref a1)])) rfl (by rw [hml]; rfl) (Steps.refl _) (a := a1) (argsL := []) (rest := []) (lenOf pd_6_0 rfl) rfl (by show 2 * 0 + _ ≤ _; exact Nat.le_of_eq rfl) (hb hby d6_1) (fun _ _ => ⟨rfl, e0, (by decide : 0 + 0 ≤ _), (by decide : 0 + 0 ≤ _)⟩)
  dsimp only [Pt.U, Pt.locs, Pt.cells, Pt.slots] at X1 l1 y1 z1 st1 hQ1
  subst l1 y1 z1
  obtain ⟨rfl, N1q, e1⟩ := hQ1
  have N1 := Fr.app N0 N1q
  refine Gen.on (b := T1.setTop (mkF m 4 #[.val (.ref a1), .val (.long q2), .second, .val (.int p3), .val (.ref a4), .val (.int p5), .val (.ref a6)] [])) ?_ (fun t k => st1.trans k)
  refine Gen.on (b := T1.setTop (mkF m 5 #[.val (.ref a1), .val (.long q2), .second, .val (.int p3), .val (.ref a4), .val (.int p5), .val (.ref a6)] [(.ref a1)])) ?_ (fun t k => XS.aloadN X1.here hx rfl (hb hby d6_4) rfl rfl k)
  refine Gen.on (b := T1.setTop (mkF m 6 #[.val (.ref a1), .val (.long q2), .second, .val (.int p3), .val (.ref a4), .val (.int p5), .val (.ref a6)] [(.long q2), (.ref a1)])) ?_ (fun t k => XS.lloadN X1.here hx rfl (hb hby d6_5) rfl k)
  obtain ⟨T2, h2, X2, e2, W2, st2⟩ := putF X1 hx hZ hown (host := "") (Or.inl (hw _ (List.mem_of_getElem? (i := 43) rfl))) Via.refl e1 P1 P0 (Or.inr ⟨(hw _ (List.mem_of_getElem? (i := 44) rfl)), rfl, hnm⟩) (hw _ (List.mem_of_getElem? (i := 32) rfl)) (ty := .long) (by decide) rfl rfl (g := (mkF m 6 #[.val (.ref a1), .val (.long q2), .second, .val (.int p3), .val (.ref a4), .val (.int p5), .val (.ref a6)] [(.long q2), (.ref a1)])) rfl rfl (hb hby d6_6)
  have Fw2 := P1.same W2
  have Z2 : n0 ≤ h2.size := Nat.le_trans Z0 (Keep.of_wr W2).1
  have K2 : Keep h0 h2 [a1] := K0.wr W2 (Or.inl (List.mem_of_getElem? (i := 0) rfl))
  have N2 := Fr.snoc X2 N1 g_a1
  refine Gen.on (b := T2.setTop (mkF m 9 #[.val (.ref a1), .val (.long q2), .second, .val (.int p3), .val (.ref a4), .val (.int p5), .val (.ref a6)] [])) ?_ (fun t k => st2 t k)
  refine Gen.on (b := T2.setTop (mkF m 10 #[.val (.ref a1), .val (.long q2), .second, .val (.int p3), .val (.ref a4), .val (.int p5), .val (.ref a6)] [(.ref a1)])) ?_ (fun t k => XS.aloadN X2.here hx rfl (hb hby d6_9) rfl rfl k)
  refine Gen.on (b := T2.setTop (mkF m 11 #[.val (.ref a1), .val (.long q2), .second, .val (.int p3), .val (.ref a4), .val (.int p5), .val (.ref a6)] [(.int p3), (.ref a1)])) ?_ (fun t k => XS.iloadN X2.here hx rfl (hb hby d6_10) rfl k)
  have fa3 := (P2.other W2 (Or.inr (slot_ne (Or.inr (hw _ (List.mem_of_getElem? (i := 46) rfl))) (Or.inr (hw _ (List.mem_of_getElem? (i := 44) rfl))) (by decide) (t := .int) (t' := .long) (by decide) (by decide))))
  have fa4 := (P0.wr W2)
  obtain ⟨T5, h5, X5, e5, W5, st5⟩ := putF X2 hx hZ hown (host := "") (Or.inl (hw _ (List.mem_of_getElem? (i := 45) rfl))) Via.refl e2 fa3 fa4 (Or.inr ⟨(hw _ (List.mem_of_getElem? (i := 46) rfl)), rfl, hnm⟩) (hw _ (List.mem_of_getElem? (i := 32) rfl)) (ty := .int) (by decide) rfl rfl (g := (mkF m 11 #[.val (.ref a1), .val (.long q2), .second, .val (.int p3), .val (.ref a4), .val (.int p5), .val (.ref a6)] [(.int p3), (.ref a1)])) rfl rfl (hb hby d6_11)
  have Fw5 := fa3.same W5
  have Z5 : n0 ≤ h5.size := Nat.le_trans Z2 (Keep.of_wr W5).1
  have K5 : Keep h0 h5 [a1] := K2.wr W5 (Or.inl (List.mem_of_getElem? (i := 0) rfl))
  have N5 := Fr.snoc X5 N2 g_a1
  refine Gen.on (b := T5.setTop (mkF m 14 #[.val (.ref a1), .val (.long q2), .second, .val (.int p3), .val (.ref a4), .val (.int p5), .val (.ref a6)] [])) ?_ (fun t k => st5 t k)
  refine Gen.on (b := T5.setTop (mkF m 15 #[.val (.ref a1), .val (.long q2), .second, .val (.int p3), .val (.ref a4), .val (.int p5), .val (.ref a6)] [(.ref a1)])) ?_ (fun t k => XS.aloadN X5.here hx rfl (hb hby d6_14) rfl rfl k)
  refine Gen.on (b := T5.setTop (mkF m 17 #[.val (.ref a1), .val (.long q2), .second, .val (.int p3), .val (.ref a4), .val (.int p5), .val (.ref a6)] [(.ref a4), (.ref a1)])) ?_ (fun t k => XS.aload X5.here hx rfl (hb hby d6_15) rfl rfl k)
  have fa6 := ((P3.other W2 (Or.inr (slot_ne (Or.inr (hw _ (List.mem_of_getElem? (i := 48) rfl))) (Or.inr (hw _ (List.mem_of_getElem? (i := 44) rfl))) (by decide) (t := (.object "com/example/epochwise/epochwise/trace/Op")) (t' := .long) (by decide) (by decide)))).other W5 (Or.inr (slot_ne (Or.inr (hw _ (List.mem_of_getElem? (i := 48) rfl))) (Or.inr (hw _ (List.mem_of_getElem? (i := 46) rfl))) (by decide) (t := (.object "com/example/epochwise/epochwise/trace/Op")) (t' := .int) (by decide) (by decide))))
  have fa7 := (fa4.wr W5)
  obtain ⟨T8, h8, X8, e8, W8, st8⟩ := putF X5 hx hZ hown (host := "") (Or.inl (hw _ (List.mem_of_getElem? (i := 47) rfl))) Via.refl e5 fa6 fa7 (Or.inr ⟨(hw _ (List.mem_of_getElem? (i := 48) rfl)), rfl, hnm⟩) (hw _ (List.mem_of_getElem? (i := 32) rfl)) (ty := (.object "com/example/epochwise/epochwise/trace/Op")) (by decide) rfl rfl (g := (mkF m 17 #[.val (.ref a1), .val (.long q2), .second, .val (.int p3), .val (.ref a4), .val (.int p5), .val (.ref a6)] [(.ref a4), (.ref a1)])) rfl rfl (hb hby d6_17)
  have Fw8 := fa6.same W8
  have Z8 : n0 ≤ h8.size := Nat.le_trans Z5 (Keep.of_wr W8).1
  have K8 : Keep h0 h8 [a1] := K5.wr W8 (Or.inl (List.mem_of_getElem? (i := 0) rfl))
  have N8 := Fr.snoc X8 N5 g_a1
  refine Gen.on (b := T8.setTop (mkF m 20 #[.val (.ref a1), .val (.long q2), .second, .val (.int p3), .val (.ref a4), .val (.int p5), .val (.ref a6)] [])) ?_ (fun t k => st8 t k)
  refine Gen.on (b := T8.setTop (mkF m 21 #[.val (.ref a1), .val (.long q2), .second, .val (.int p3), .val (.ref a4), .val (.int p5), .val (.ref a6)] [(.ref a1)])) ?_ (fun t k => XS.aloadN X8.here hx rfl (hb hby d6_20) rfl rfl k)
  refine Gen.on (b := T8.setTop (mkF m 23 #[.val (.ref a1), .val (.long q2), .second, .val (.int p3), .val (.ref a4), .val (.int p5), .val (.ref a6)] [(.int p5), (.ref a1)])) ?_ (fun t k => XS.iload X8.here hx rfl (hb hby d6_21) rfl k)
  have fa9 := (((P4.other W2 (Or.inr (slot_ne (Or.inr (hw _ (List.mem_of_getElem? (i := 50) rfl))) (Or.inr (hw _ (List.mem_of_getElem? (i := 44) rfl))) (by decide) (t := .int) (t' := .long) (by decide) (by decide)))).other W5 (Or.inr (slot_ne (Or.inr (hw _ (List.mem_of_getElem? (i := 50) rfl))) (Or.inr (hw _ (List.mem_of_getElem? (i := 46) rfl))) (by decide) (t := .int) (t' := .int) (by decide) (by decide)))).other W8 (Or.inr (slot_ne (Or.inr (hw _ (List.mem_of_getElem? (i := 50) rfl))) (Or.inr (hw _ (List.mem_of_getElem? (i := 48) rfl))) (by decide) (t := .int) (t' := (.object "com/example/epochwise/epochwise/trace/Op")) (by decide) (by decide))))
  have fa10 := (fa7.wr W8)
  obtain ⟨T11, h11, X11, e11, W11, st11⟩ := putF X8 hx hZ hown (host := "") (Or.inl (hw _ (List.mem_of_getElem? (i := 49) rfl))) Via.refl e8 fa9 fa10 (Or.inr ⟨(hw _ (List.mem_of_getElem? (i := 50) rfl)), rfl, hnm⟩) (hw _ (List.mem_of_getElem? (i := 32) rfl)) (ty := .int) (by decide) rfl rfl (g := (mkF m 23 #[.val (.ref a1), .val (.long q2), .second, .val (.int p3), .val (.ref a4), .val (.int p5), .val (.ref a6)] [(.int p5), (.ref a1)])) rfl rfl (hb hby d6_23)
  have Fw11 := fa9.same W11
  have Z11 : n0 ≤ h11.size := Nat.le_trans Z8 (Keep.of_wr W11).1
  have K11 : Keep h0 h11 [a1] := K8.wr W11 (Or.inl (List.mem_of_getElem? (i := 0) rfl))
  have N11 := Fr.snoc X11 N8 g_a1
  refine Gen.on (b := T11.setTop (mkF m 26 #[.val (.ref a1), .val (.long q2), .second, .val (.int p3), .val (.ref a4), .val (.int p5), .val (.ref a6)] [])) ?_ (fun t k => st11 t k)
  refine Gen.on (b := T11.setTop (mkF m 27 #[.val (.ref a1), .val (.long q2), .second, .val (.int p3), .val (.ref a4), .val (.int p5), .val (.ref a6)] [(.ref a1)])) ?_ (fun t k => XS.aloadN X11.here hx rfl (hb hby d6_26) rfl rfl k)
  refine Gen.on (b := T11.setTop (mkF m 29 #[.val (.ref a1), .val (.long q2), .second, .val (.int p3), .val (.ref a4), .val (.int p5), .val (.ref a6)] [(.ref a6), (.ref a1)])) ?_ (fun t k => XS.aload X11.here hx rfl (hb hby d6_27) rfl rfl k)
  have fa12 := ((((P5.other W2 (Or.inr (slot_ne (Or.inr (hw _ (List.mem_of_getElem? (i := 52) rfl))) (Or.inr (hw _ (List.mem_of_getElem? (i := 44) rfl))) (by decide) (t := (.object "java/lang/String")) (t' := .long) (by decide) (by decide)))).other W5 (Or.inr (slot_ne (Or.inr (hw _ (List.mem_of_getElem? (i := 52) rfl))) (Or.inr (hw _ (List.mem_of_getElem? (i := 46) rfl))) (by decide) (t := (.object "java/lang/String")) (t' := .int) (by decide) (by decide)))).other W8 (Or.inr (slot_ne (Or.inr (hw _ (List.mem_of_getElem? (i := 52) rfl))) (Or.inr (hw _ (List.mem_of_getElem? (i := 48) rfl))) (by decide) (t := (.object "java/lang/String")) (t' := (.object "com/example/epochwise/epochwise/trace/Op")) (by decide) (by decide)))).other W11 (Or.inr (slot_ne (Or.inr (hw _ (List.mem_of_getElem? (i := 52) rfl))) (Or.inr (hw _ (List.mem_of_getElem? (i := 50) rfl))) (by decide) (t := (.object "java/lang/String")) (t' := .int) (by decide) (by decide))))
  have fa13 := (fa10.wr W11)
  obtain ⟨T14, h14, X14, e14, W14, st14⟩ := putF X11 hx hZ hown (host := "") (Or.inl (hw _ (List.mem_of_getElem? (i := 51) rfl))) Via.refl e11 fa12 fa13 (Or.inr ⟨(hw _ (List.mem_of_getElem? (i := 52) rfl)), rfl, hnm⟩) (hw _ (List.mem_of_getElem? (i := 32) rfl)) (ty := (.object "java/lang/String")) (by decide) rfl rfl (g := (mkF m 29 #[.val (.ref a1), .val (.long q2), .second, .val (.int p3), .val (.ref a4), .val (.int p5), .val (.ref a6)] [(.ref a6), (.ref a1)])) rfl rfl (hb hby d6_29)
  have Fw14 := fa12.same W14
  have Z14 : n0 ≤ h14.size := Nat.le_trans Z11 (Keep.of_wr W14).1
  have K14 : Keep h0 h14 [a1] := K11.wr W14 (Or.inl (List.mem_of_getElem? (i := 0) rfl))
  have N14 := Fr.snoc X14 N11 g_a1
  refine Gen.on (b := T14.setTop (mkF m 32 #[.val (.ref a1), .val (.long q2), .second, .val (.int p3), .val (.ref a4), .val (.int p5), .val (.ref a6)] [])) ?_ (fun t k => st14 t k)
  refine own_ret0 X14 hx Bd.returns (hb hby d6_32) (by decide) (by decide) ?_
  have fa15 := (fa13.wr W14)
  have fa16 := (((Fw5.other W8 (Or.inr (slot_ne (Or.inr (hw _ (List.mem_of_getElem? (i := 46) rfl))) (Or.inr (hw _ (List.mem_of_getElem? (i := 48) rfl))) (by decide) (t := .int) (t' := (.object "com/example/epochwise/epochwise/trace/Op")) (by decide) (by decide)))).other W11 (Or.inr (slot_ne (Or.inr (hw _ (List.mem_of_getElem? (i := 46) rfl))) (Or.inr (hw _ (List.mem_of_getElem? (i := 50) rfl))) (by decide) (t := .int) (t' := .int) (by decide) (by decide)))).other W14 (Or.inr (slot_ne (Or.inr (hw _ (List.mem_of_getElem? (i := 46) rfl))) (Or.inr (hw _ (List.mem_of_getElem? (i := 52) rfl))) (by decide) (t := .int) (t' := (.object "java/lang/String")) (by decide) (by decide))))
  show Q6 Z a1 q2 p3 a4 p5 a6 u1 u2 u3 u4 u5 h0 n0 _ T14.heap _
  rw [e14]
  exact ⟨rfl, N14, K14, fa15, fa16⟩

theorem d8_0 : decode prog_29_method_1_code 0 = .ok (.aload_n 0, 1) := by decide +kernel
theorem d8_1 : decode prog_29_method_1_code 1 = .ok (.invokespecial 1, 3) := by decide +kernel
theorem d8_4 : decode prog_29_method_1_code 4 = .ok (.aload_n 0, 1) := by decide +kernel
theorem d8_5 : decode prog_29_method_1_code 5 = .ok (.aload_n 1, 1) := by decide +kernel
theorem d8_6 : decode prog_29_method_1_code 6 = .ok (.putfield 7, 3) := by decide +kernel
theorem d8_9 : decode prog_29_method_1_code 9 = .ok (.aload_n 0, 1) := by decide +kernel
theorem d8_10 : decode prog_29_method_1_code 10 = .ok (.iload_n 2, 1) := by decide +kernel
theorem d8_11 : decode prog_29_method_1_code 11 = .ok (.putfield 13, 3) := by decide +kernel
theorem d8_14 : decode prog_29_method_1_code 14 = .ok (.return_, 1) := by decide +kernel
theorem pn_8 : plainName "com/example/epochwise/epochwise/race/Witness" = true := by first | (simp [plainName, overriddenIn]; done) | decide +kernel
theorem pd_8_0 : parseMethodDescriptor "()V" = some ⟨[], none⟩ := by decide +kernel
theorem ef_8 (m : MethodId) (x0 : Addr) (x1 : Addr) (x2 : Int32) : entryFrame m #[(.ref x0), (.ref x1), (.int x2)] 3 = mkF m 0 #[.val (.ref x0), .val (.ref x1), .val (.int x2)] [] := by first | (simp [entryFrame, mkF, argsToLocals, Value.category]; done) | rfl
def Q8 (Z : State) (a1 : Addr) (a2 : Addr) (p3 : Int32) (u1 : Value) (u2 : Value) (h0 : Heap) (n0 : Nat) (v : Option Value) (h : Heap) (L : List Loc) : Prop := v = none ∧ Fr n0 L ∧ Keep h0 h [a1] ∧ Exa Z h a1 "com/example/epochwise/epochwise/race/Witness" ∧ Fld Z h a1 "com/example/epochwise/epochwise/race/Witness" "event" "Lcom/example/epochwise/epochwise/trace/Event;" (.ref a2) ∧ Fld Z h a1 "com/example/epochwise/epochwise/race/Witness" "clock" "I" (.int p3)
set_option maxRecDepth 65536 in
set_option maxHeartbeats 40000000 in
theorem rm8 (l : Launch) (Z : State) (a0 : Array Value) (hw : ∀ d ∈ tables_1, d.before a0 Z = true) (wds : List Jvm.Cond) (a1 : Addr) (a2 : Addr) (p3 : Int32) (u1 : Value) (u2 : Value) (h0 : Heap) (n0 : Nat) (Z0 : n0 ≤ h0.size) (P0 : Exa Z h0 a1 "com/example/epochwise/epochwise/race/Witness") (P1 : Fld Z h0 a1 "com/example/epochwise/epochwise/race/Witness" "event" "Lcom/example/epochwise/epochwise/trace/Event;" u1) (P2 : Fld Z h0 a1 "com/example/epochwise/epochwise/race/Witness" "clock" "I" u2) (g_a1 : n0 ≤ a1) :
    MetFree l (⟨"com/example/epochwise/epochwise/race/Witness", "<init>", "(Lcom/example/epochwise/epochwise/trace/Event;I)V"⟩ : MethodName) (head1 (Jvm.Cond.code (⟨"com/example/epochwise/epochwise/race/Witness", "<init>", "(Lcom/example/epochwise/epochwise/trace/Event;I)V"⟩ : MethodName) prog_29_method_1_code 3 none :: wds) ({ frames := 2, cells := 0, slots := 0, locals := 24 } : Room)) (fun a U => a = #[(.ref a1), (.ref a2), (.int p3)] ∧ Z.Warmed39 U.vm ∧ U.heap = h0) (fun _ _ _ _ _ => True) (fun _ U o U' => ∃ v L, o = .returned v ∧ Q8 Z a1 a2 p3 u1 u2 h0 n0 v U'.heap L ∧ FrameEnd U o U' L ({ frames := 2, cells := 0, slots := 0, locals := 24 } : Room).cells ({ frames := 2, cells := 0, slots := 0, locals := 24 } : Room).slots) := by
  refine MetFree.of_bodySF (plainFor_of_name pn_8) hisR ?_
  intro p e s m args below meth c s₁ Bd hml0 hP hK
  obtain ⟨rfl, hZ, hh⟩ := hP
  have hx := Bd.exec
  have hby := Bd.bytes
  have hml : c.maxLocals = 3 := hml0
  have hown : s.vm.findClass "com/example/epochwise/epochwise/race/Witness" = some m.cls := findClass_of_methodNamed Bd.named
  have hnm := (name_of_methodNamed Bd.named Bd.method).1
  have X0 : Stand p l e ({ frames := 2, cells := 0, slots := 0, locals := 24 } : Room) s m #[(.ref a1), (.ref a2), (.int p3)] below meth c s₁ [] 0 0 := Stand.of_body Bd
  have e0 : s₁.heap = h0 := by rw [← hh, Bd.state]; rfl
  have N0 := Fr.nil n0
  refine own_start (Q := Q8 Z a1 a2 p3 u1 u2 h0 n0) (C := ({ frames := 2, cells := 0, slots := 0, locals := 24 } : Room).cells) (S := ({ frames := 2, cells := 0, slots := 0, locals := 24 } : Room).slots) ?_
  rw [ef_8 m a1 a2 p3]
  have K0 : Keep h0 h0 [a1] := Keep.refl h0 [a1]
  refine Gen.on (b := s₁.setTop (mkF m 1 #[.val (.ref a1), .val (.ref a2), .val (.int p3)] [(.ref a1)])) ?_ (fun t k => XS.aloadN X0.here hx rfl (hb hby d8_0) rfl rfl k)
  obtain ⟨_, _, ⟨T1, L1, k1, n1⟩, -, X1, ⟨Lc1, hQ1, l1, y1, z1⟩, st1⟩ := X0.specialBack hx (y := (⟨"java/lang/Record", "<init>", "()V"⟩ : MethodName)) rfl hown (mvT hZ (hw _ (List.mem_of_getElem? (i := 59) rfl))) (mvT hZ (hw _ (List.mem_of_getElem? (i := 38) rfl))) (mvT hZ (hw _ (List.mem_of_getElem? (i := 41) rfl))) (by decide) (backOf (W := 0) (rm7 l Z a0 hw [] a1  h0 n0 Z0 ) hZ (hw _ (List.mem_of_getElem? (i := 41) rfl)) (hw _ (List.mem_of_getElem? (i := 40) rfl)) (by decide) (by decide)) (g := (mkF m 1 #[.val (.ref a1), .val (.ref a2), .val (.int p3)] [(.ref a1)])) rfl (by rw [hml]; rfl) (Steps.refl _) (a := a1) (argsL := []) (rest := []) (lenOf pd_8_0 rfl) rfl (by show 2 * 0 + _ ≤ _; exact Nat.le_of_eq rfl) (hb hby d8_1) (fun _ _ => ⟨rfl, e0, (by decide : 0 + 0 ≤ _), (by decide : 0 + 0 ≤ _)⟩)
  dsimp only [Pt.U, Pt.locs, Pt.cells, Pt.slots] at X1 l1 y1 z1 st1 hQ1
  subst l1 y1 z1
  obtain ⟨rfl, N1q, e1⟩ := hQ1
  have N1 := Fr.app N0 N1q
  refine Gen.on (b := T1.setTop (mkF m 4 #[.val (.ref a1), .val (.ref a2), .val (.int p3)] [])) ?_ (fun t k => st1.trans k)
  refine Gen.on (b := T1.setTop (mkF m 5 #[.val (.ref a1), .val (.ref a2), .val (.int p3)] [(.ref a1)])) ?_ (fun t k => XS.aloadN X1.here hx rfl (hb hby d8_4) rfl rfl k)
  refine Gen.on (b := T1.setTop (mkF m 6 #[.val (.ref a1), .val (.ref a2), .val (.int p3)] [(.ref a2), (.ref a1)])) ?_ (fun t k => XS.aloadN X1.here hx rfl (hb hby d8_5) rfl rfl k)
  obtain ⟨T2, h2, X2, e2, W2, st2⟩ := putF X1 hx hZ hown (host := "") (Or.inl (hw _ (List.mem_of_getElem? (i := 60) rfl))) Via.refl e1 P1 P0 (Or.inr ⟨(hw _ (List.mem_of_getElem? (i := 61) rfl)), rfl, hnm⟩) (hw _ (List.mem_of_getElem? (i := 54) rfl)) (ty := (.object "com/example/epochwise/epochwise/trace/Event")) (by decide) rfl rfl (g := (mkF m 6 #[.val (.ref a1), .val (.ref a2), .val (.int p3)] [(.ref a2), (.ref a1)])) rfl rfl (hb hby d8_6)
  have Fw2 := P1.same W2
  have Z2 : n0 ≤ h2.size := Nat.le_trans Z0 (Keep.of_wr W2).1
  have K2 : Keep h0 h2 [a1] := K0.wr W2 (Or.inl (List.mem_of_getElem? (i := 0) rfl))
  have N2 := Fr.snoc X2 N1 g_a1
  refine Gen.on (b := T2.setTop (mkF m 9 #[.val (.ref a1), .val (.ref a2), .val (.int p3)] [])) ?_ (fun t k => st2 t k)
  refine Gen.on (b := T2.setTop (mkF m 10 #[.val (.ref a1), .val (.ref a2), .val (.int p3)] [(.ref a1)])) ?_ (fun t k => XS.aloadN X2.here hx rfl (hb hby d8_9) rfl rfl k)
  refine Gen.on (b := T2.setTop (mkF m 11 #[.val (.ref a1), .val (.ref a2), .val (.int p3)] [(.int p3), (.ref a1)])) ?_ (fun t k => XS.iloadN X2.here hx rfl (hb hby d8_10) rfl k)
  have fa3 := (P2.other W2 (Or.inr (slot_ne (Or.inr (hw _ (List.mem_of_getElem? (i := 63) rfl))) (Or.inr (hw _ (List.mem_of_getElem? (i := 61) rfl))) (by decide) (t := .int) (t' := (.object "com/example/epochwise/epochwise/trace/Event")) (by decide) (by decide))))
  have fa4 := (P0.wr W2)
  obtain ⟨T5, h5, X5, e5, W5, st5⟩ := putF X2 hx hZ hown (host := "") (Or.inl (hw _ (List.mem_of_getElem? (i := 62) rfl))) Via.refl e2 fa3 fa4 (Or.inr ⟨(hw _ (List.mem_of_getElem? (i := 63) rfl)), rfl, hnm⟩) (hw _ (List.mem_of_getElem? (i := 54) rfl)) (ty := .int) (by decide) rfl rfl (g := (mkF m 11 #[.val (.ref a1), .val (.ref a2), .val (.int p3)] [(.int p3), (.ref a1)])) rfl rfl (hb hby d8_11)
  have Fw5 := fa3.same W5
  have Z5 : n0 ≤ h5.size := Nat.le_trans Z2 (Keep.of_wr W5).1
  have K5 : Keep h0 h5 [a1] := K2.wr W5 (Or.inl (List.mem_of_getElem? (i := 0) rfl))
  have N5 := Fr.snoc X5 N2 g_a1
  refine Gen.on (b := T5.setTop (mkF m 14 #[.val (.ref a1), .val (.ref a2), .val (.int p3)] [])) ?_ (fun t k => st5 t k)
  refine own_ret0 X5 hx Bd.returns (hb hby d8_14) (by decide) (by decide) ?_
  have fa6 := (fa4.wr W5)
  have fa7 := (Fw2.other W5 (Or.inr (slot_ne (Or.inr (hw _ (List.mem_of_getElem? (i := 61) rfl))) (Or.inr (hw _ (List.mem_of_getElem? (i := 63) rfl))) (by decide) (t := (.object "com/example/epochwise/epochwise/trace/Event")) (t' := .int) (by decide) (by decide))))
  show Q8 Z a1 a2 p3 u1 u2 h0 n0 _ T5.heap _
  rw [e5]
  exact ⟨rfl, N5, K5, fa6, fa7, Fw5⟩

theorem d10_0 : decode prog_31_method_6_code 0 = .ok (.aload_n 0, 1) := by decide +kernel
theorem d10_1 : decode prog_31_method_6_code 1 = .ok (.getfield 13, 3) := by decide +kernel
theorem d10_4 : decode prog_31_method_6_code 4 = .ok (.ireturn, 1) := by decide +kernel
theorem pn_10 : plainName "com/example/epochwise/epochwise/trace/Event" = true := by first | (simp [plainName, overriddenIn]; done) | decide +kernel
theorem ef_10 (m : MethodId) (x0 : Addr) : entryFrame m #[(.ref x0)] 1 = mkF m 0 #[.val (.ref x0)] [] := by first | (simp [entryFrame, mkF, argsToLocals, Value.category]; done) | rfl
def Q10 (Z : State) (a1 : Addr) (w1 : Int32) (h0 : Heap) (n0 : Nat) (v : Option Value) (h : Heap) (L : List Loc) : Prop := v = some (.int w1) ∧ Fr n0 L ∧ h = h0
set_option maxRecDepth 65536 in
set_option maxHeartbeats 40000000 in
theorem rm10 (l : Launch) (Z : State) (a0 : Array Value) (hw : ∀ d ∈ tables_1, d.before a0 Z = true) (wds : List Jvm.Cond) (a1 : Addr) (w1 : Int32) (h0 : Heap) (n0 : Nat) (Z0 : n0 ≤ h0.size) (P0 : Fld Z h0 a1 "com/example/epochwise/epochwise/trace/Event" "thread" "I" (.int w1)) :
    MetFree l (⟨"com/example/epochwise/epochwise/trace/Event", "thread", "()I"⟩ : MethodName) (head1 (Jvm.Cond.code (⟨"com/example/epochwise/epochwise/trace/Event", "thread", "()I"⟩ : MethodName) prog_31_method_6_code 1 (some .int) :: wds) ({ frames := 0, cells := 0, slots := 0, locals := 0 } : Room)) (fun a U => a = #[(.ref a1)] ∧ Z.Warmed39 U.vm ∧ U.heap = h0) (fun _ _ _ _ _ => True) (fun _ U o U' => ∃ v L, o = .returned v ∧ Q10 Z a1 w1 h0 n0 v U'.heap L ∧ FrameEnd U o U' L ({ frames := 0, cells := 0, slots := 0, locals := 0 } : Room).cells ({ frames := 0, cells := 0, slots := 0, locals := 0 } : Room).slots) := by
  refine MetFree.of_bodySF (plainFor_of_name pn_10) hisR ?_
  intro p e s m args below meth c s₁ Bd hml0 hP hK
  obtain ⟨rfl, hZ, hh⟩ := hP
  have hx := Bd.exec
  have hby := Bd.bytes
  have hml : c.maxLocals = 1 := hml0
  have hown : s.vm.findClass "com/example/epochwise/epochwise/trace/Event" = some m.cls := findClass_of_methodNamed Bd.named
  have hnm := (name_of_methodNamed Bd.named Bd.method).1
  have X0 : Stand p l e ({ frames := 0, cells := 0, slots := 0, locals := 0 } : Room) s m #[(.ref a1)] below meth c s₁ [] 0 0 := Stand.of_body Bd
  have e0 : s₁.heap = h0 := by rw [← hh, Bd.state]; rfl
  have N0 := Fr.nil n0
  refine own_start (Q := Q10 Z a1 w1 h0 n0) (C := ({ frames := 0, cells := 0, slots := 0, locals := 0 } : Room).cells) (S := ({ frames := 0, cells := 0, slots := 0, locals := 0 } : Room).slots) ?_
  rw [ef_10 m a1]
  refine Gen.on (b := s₁.setTop (mkF m 1 #[.val (.ref a1)] [(.ref a1)])) ?_ (fun t k => XS.aloadN X0.here hx rfl (hb hby d10_0) rfl rfl k)
  obtain ⟨T1, X1, e1, st1⟩ := getF X0 hx hZ hown (host := "") (Or.inl (hw _ (List.mem_of_getElem? (i := 45) rfl))) Via.refl e0 P0 (g := (mkF m 1 #[.val (.ref a1)] [(.ref a1)])) rfl rfl (hb hby d10_1)
  refine Gen.on (b := T1.setTop (mkF m 4 #[.val (.ref a1)] [(.int w1)])) ?_ (fun t k => st1 t k)
  refine own_retI X1 hx Bd.returns (hb hby d10_4) (by decide) (by decide) ?_
  exact ⟨rfl, N0, e1⟩

def f9 (a1 : Addr) (a2 : Addr) (w1 : Int32) (w2 : Int32) (x1 : Addr) (x2 : Addr) (w3 : Int32) (w4 : Int32) : Int32 := (if w1 = w2 then (if w3 = w4 then (1 : Int32) else (0 : Int32)) else (0 : Int32))
theorem d9_0 : decode prog_29_method_3_code 0 = .ok (.aload_n 0, 1) := by decide +kernel
theorem d9_1 : decode prog_29_method_3_code 1 = .ok (.getfield 13, 3) := by decide +kernel
theorem d9_4 : decode prog_29_method_3_code 4 = .ok (.aload_n 1, 1) := by decide +kernel
theorem d9_5 : decode prog_29_method_3_code 5 = .ok (.getfield 13, 3) := by decide +kernel
theorem d9_8 : decode prog_29_method_3_code 8 = .ok (.if_icmp .ne 24, 3) := by decide +kernel
theorem d9_11 : decode prog_29_method_3_code 11 = .ok (.aload_n 0, 1) := by decide +kernel
theorem d9_12 : decode prog_29_method_3_code 12 = .ok (.getfield 7, 3) := by decide +kernel
theorem d9_15 : decode prog_29_method_3_code 15 = .ok (.invokevirtual 17, 3) := by decide +kernel
theorem d9_18 : decode prog_29_method_3_code 18 = .ok (.aload_n 1, 1) := by decide +kernel
theorem d9_19 : decode prog_29_method_3_code 19 = .ok (.getfield 7, 3) := by decide +kernel
theorem d9_22 : decode prog_29_method_3_code 22 = .ok (.invokevirtual 17, 3) := by decide +kernel
theorem d9_25 : decode prog_29_method_3_code 25 = .ok (.if_icmp .ne 7, 3) := by decide +kernel
theorem d9_28 : decode prog_29_method_3_code 28 = .ok (.iconst 1, 1) := by decide +kernel
theorem d9_29 : decode prog_29_method_3_code 29 = .ok (.goto 4, 3) := by decide +kernel
theorem d9_32 : decode prog_29_method_3_code 32 = .ok (.iconst 0, 1) := by decide +kernel
theorem d9_33 : decode prog_29_method_3_code 33 = .ok (.ireturn, 1) := by decide +kernel
theorem pn_9 : plainName "com/example/epochwise/epochwise/race/Witness" = true := by first | (simp [plainName, overriddenIn]; done) | decide +kernel
theorem pd_9_0 : parseMethodDescriptor "()I" = some ⟨[], some .int⟩ := by decide +kernel
theorem ef_9 (m : MethodId) (x0 : Addr) (x1 : Addr) : entryFrame m #[(.ref x0), (.ref x1)] 2 = mkF m 0 #[.val (.ref x0), .val (.ref x1)] [] := by first | (simp [entryFrame, mkF, argsToLocals, Value.category]; done) | rfl
def Q9 (Z : State) (a1 : Addr) (a2 : Addr) (w1 : Int32) (w2 : Int32) (x1 : Addr) (x2 : Addr) (w3 : Int32) (w4 : Int32) (h0 : Heap) (n0 : Nat) (v : Option Value) (h : Heap) (L : List Loc) : Prop := v = some (.int (f9 a1 a2 w1 w2 x1 x2 w3 w4)) ∧ Fr n0 L ∧ h = h0
set_option maxRecDepth 65536 in
set_option maxHeartbeats 40000000 in
theorem rm9 (l : Launch) (Z : State) (a0 : Array Value) (hw : ∀ d ∈ tables_1, d.before a0 Z = true) (wds : List Jvm.Cond) (a1 : Addr) (a2 : Addr) (w1 : Int32) (w2 : Int32) (x1 : Addr) (x2 : Addr) (w3 : Int32) (w4 : Int32) (h0 : Heap) (n0 : Nat) (Z0 : n0 ≤ h0.size) (P0 : Fld Z h0 a1 "com/example/epochwise/epochwise/race/Witness" "clock" "I" (.int w1)) (P1 : Fld Z h0 a2 "com/example/epochwise/epochwise/race/Witness" "clock" "I" (.int w2)) (P2 : Fld Z h0 a1 "com/example/epochwise/epochwise/race/Witness" "event" "Lcom/example/epochwise/epochwise/trace/Event;" (.ref x1)) (P3 : Fld Z h0 a2 "com/example/epochwise/epochwise/race/Witness" "event" "Lcom/example/epochwise/epochwise/trace/Event;" (.ref x2)) (P4 : Exa Z h0 x1 "com/example/epochwise/epochwise/trace/Event") (P5 : Exa Z h0 x2 "com/example/epochwise/epochwise/trace/Event") (P6 : Fld Z h0 x1 "com/example/epochwise/epochwise/trace/Event" "thread" "I" (.int w3)) (P7 : Fld Z h0 x2 "com/example/epochwise/epochwise/trace/Event" "thread" "I" (.int w4)) :
    MetFree l (⟨"com/example/epochwise/epochwise/race/Witness", "sameEpoch", "(Lcom/example/epochwise/epochwise/race/Witness;)Z"⟩ : MethodName) (head1 (Jvm.Cond.code (⟨"com/example/epochwise/epochwise/race/Witness", "sameEpoch", "(Lcom/example/epochwise/epochwise/race/Witness;)Z"⟩ : MethodName) prog_29_method_3_code 2 (some .boolean) :: wds) ({ frames := 1, cells := 0, slots := 0, locals := 13 } : Room)) (fun a U => a = #[(.ref a1), (.ref a2)] ∧ Z.Warmed39 U.vm ∧ U.heap = h0) (fun _ _ _ _ _ => True) (fun _ U o U' => ∃ v L, o = .returned v ∧ Q9 Z a1 a2 w1 w2 x1 x2 w3 w4 h0 n0 v U'.heap L ∧ FrameEnd U o U' L ({ frames := 1, cells := 0, slots := 0, locals := 13 } : Room).cells ({ frames := 1, cells := 0, slots := 0, locals := 13 } : Room).slots) := by
  refine MetFree.of_bodySF (plainFor_of_name pn_9) hisR ?_
  intro p e s m args below meth c s₁ Bd hml0 hP hK
  obtain ⟨rfl, hZ, hh⟩ := hP
  have hx := Bd.exec
  have hby := Bd.bytes
  have hml : c.maxLocals = 2 := hml0
  have hown : s.vm.findClass "com/example/epochwise/epochwise/race/Witness" = some m.cls := findClass_of_methodNamed Bd.named
  have hnm := (name_of_methodNamed Bd.named Bd.method).1
  have X0 : Stand p l e ({ frames := 1, cells := 0, slots := 0, locals := 13 } : Room) s m #[(.ref a1), (.ref a2)] below meth c s₁ [] 0 0 := Stand.of_body Bd
  have e0 : s₁.heap = h0 := by rw [← hh, Bd.state]; rfl
  have N0 := Fr.nil n0
  refine own_start (Q := Q9 Z a1 a2 w1 w2 x1 x2 w3 w4 h0 n0) (C := ({ frames := 1, cells := 0, slots := 0, locals := 13 } : Room).cells) (S := ({ frames := 1, cells := 0, slots := 0, locals := 13 } : Room).slots) ?_
  rw [ef_9 m a1 a2]
  refine Gen.on (b := s₁.setTop (mkF m 1 #[.val (.ref a1), .val (.ref a2)] [(.ref a1)])) ?_ (fun t k => XS.aloadN X0.here hx rfl (hb hby d9_0) rfl rfl k)
  obtain ⟨T1, X1, e1, st1⟩ := getF X0 hx hZ hown (host := "") (Or.inl (hw _ (List.mem_of_getElem? (i := 62) rfl))) Via.refl e0 P0 (g := (mkF m 1 #[.val (.ref a1), .val (.ref a2)] [(.ref a1)])) rfl rfl (hb hby d9_1)
  refine Gen.on (b := T1.setTop (mkF m 4 #[.val (.ref a1), .val (.ref a2)] [(.int w1)])) ?_ (fun t k => st1 t k)
  refine Gen.on (b := T1.setTop (mkF m 5 #[.val (.ref a1), .val (.ref a2)] [(.ref a2), (.int w1)])) ?_ (fun t k => XS.aloadN X1.here hx rfl (hb hby d9_4) rfl rfl k)
  obtain ⟨T2, X2, e2, st2⟩ := getF X1 hx hZ hown (host := "") (Or.inl (hw _ (List.mem_of_getElem? (i := 62) rfl))) Via.refl e1 P1 (g := (mkF m 5 #[.val (.ref a1), .val (.ref a2)] [(.ref a2), (.int w1)])) rfl rfl (hb hby d9_5)
  refine Gen.on (b := T2.setTop (mkF m 8 #[.val (.ref a1), .val (.ref a2)] [(.int w2), (.int w1)])) ?_ (fun t k => st2 t k)
  by_cases c8_1 : w1 = w2
  · refine Gen.on (b := T2.setTop (mkF m 11 #[.val (.ref a1), .val (.ref a2)] [])) ?_ (fun t k => XS.icmpNo X2.here hx rfl (hb hby d9_8) rfl (teq c8_1).2 k)
    refine Gen.on (b := T2.setTop (mkF m 12 #[.val (.ref a1), .val (.ref a2)] [(.ref a1)])) ?_ (fun t k => XS.aloadN X2.here hx rfl (hb hby d9_11) rfl rfl k)
    obtain ⟨T3, X3, e3, st3⟩ := getF X2 hx hZ hown (host := "") (Or.inl (hw _ (List.mem_of_getElem? (i := 60) rfl))) Via.refl e2 P2 (g := (mkF m 12 #[.val (.ref a1), .val (.ref a2)] [(.ref a1)])) rfl rfl (hb hby d9_12)
    refine Gen.on (b := T3.setTop (mkF m 15 #[.val (.ref a1), .val (.ref a2)] [(.ref x1)])) ?_ (fun t k => st3 t k)
    obtain ⟨cq4, kq4, q4a, q4b, q4c⟩ := isOf hZ e3 P4
    obtain ⟨_, _, ⟨T4, L4, k4, n4⟩, -, X4, ⟨Lc4, hQ4, l4, y4, z4⟩, st4⟩ := X3.virtualBack hx (y := (⟨"com/example/epochwise/epochwise/trace/Event", "thread", "()I"⟩ : MethodName)) (z := (⟨"com/example/epochwise/epochwise/trace/Event", "thread", "()I"⟩ : MethodName)) hown (mvT hZ (hw _ (List.mem_of_getElem? (i := 69) rfl))) (mvT hZ (hw _ (List.mem_of_getElem? (i := 70) rfl))) (notFace_of_selects (args := #[]) (mvT hZ (hw _ (List.mem_of_getElem? (i := 72) rfl)))) (mvT hZ (hw _ (List.mem_of_getElem? (i := 72) rfl))) (mvT hZ (hw _ (List.mem_of_getElem? (i := 71) rfl))) (by decide) (backOf (W := 0) (rm10 l Z a0 hw [] x1 w3 h0 n0 Z0 P6) hZ (hw _ (List.mem_of_getElem? (i := 73) rfl)) (hw _ (List.mem_of_getElem? (i := 33) rfl)) (by decide) (by decide)) q4a q4c (g := (mkF m 15 #[.val (.ref a1), .val (.ref a2)] [(.ref x1)])) rfl (by rw [hml]; rfl) (Steps.refl _) (argsL := []) (rest := []) (lenOf pd_9_0 rfl) rfl (by show 2 * 0 + _ ≤ _; exact Nat.le_of_eq rfl) (hb hby d9_15) (fun _ _ => ⟨rfl, e3, (by decide : 0 + 0 ≤ _), (by decide : 0 + 0 ≤ _)⟩)
    dsimp only [Pt.U, Pt.locs, Pt.cells, Pt.slots] at X4 l4 y4 z4 st4 hQ4
    subst l4 y4 z4
    obtain ⟨rfl, N4q, e4⟩ := hQ4
    have N4 := Fr.app N0 N4q
    refine Gen.on (b := T4.setTop (mkF m 18 #[.val (.ref a1), .val (.ref a2)] [(.int w3)])) ?_ (fun t k => st4.trans k)
    refine Gen.on (b := T4.setTop (mkF m 19 #[.val (.ref a1), .val (.ref a2)] [(.ref a2), (.int w3)])) ?_ (fun t k => XS.aloadN X4.here hx rfl (hb hby d9_18) rfl rfl k)
    obtain ⟨T5, X5, e5, st5⟩ := getF X4 hx hZ hown (host := "") (Or.inl (hw _ (List.mem_of_getElem? (i := 60) rfl))) Via.refl e4 P3 (g := (mkF m 19 #[.val (.ref a1), .val (.ref a2)] [(.ref a2), (.int w3)])) rfl rfl (hb hby d9_19)
    refine Gen.on (b := T5.setTop (mkF m 22 #[.val (.ref a1), .val (.ref a2)] [(.ref x2), (.int w3)])) ?_ (fun t k => st5 t k)
    obtain ⟨cq6, kq6, q6a, q6b, q6c⟩ := isOf hZ e5 P5
    obtain ⟨_, _, ⟨T6, L6, k6, n6⟩, -, X6, ⟨Lc6, hQ6, l6, y6, z6⟩, st6⟩ := X5.virtualBack hx (y := (⟨"com/example/epochwise/epochwise/trace/Event", "thread", "()I"⟩ : MethodName)) (z := (⟨"com/example/epochwise/epochwise/trace/Event", "thread", "()I"⟩ : MethodName)) hown (mvT hZ (hw _ (List.mem_of_getElem? (i := 69) rfl))) (mvT hZ (hw _ (List.mem_of_getElem? (i := 70) rfl))) (notFace_of_selects (args := #[]) (mvT hZ (hw _ (List.mem_of_getElem? (i := 72) rfl)))) (mvT hZ (hw _ (List.mem_of_getElem? (i := 72) rfl))) (mvT hZ (hw _ (List.mem_of_getElem? (i := 71) rfl))) (by decide) (backOf (W := 1) (rm10 l Z a0 hw [] x2 w4 h0 n0 Z0 P7) hZ (hw _ (List.mem_of_getElem? (i := 73) rfl)) (hw _ (List.mem_of_getElem? (i := 33) rfl)) (by decide) (by decide)) q6a q6c (g := (mkF m 22 #[.val (.ref a1), .val (.ref a2)] [(.ref x2), (.int w3)])) rfl (by rw [hml]; rfl) (Steps.refl _) (argsL := []) (rest := [(.int w3)]) (lenOf pd_9_0 rfl) rfl (by show 2 * 0 + _ ≤ _; exact Nat.le_of_eq rfl) (hb hby d9_22) (fun _ _ => ⟨rfl, e5, (by decide : 0 + 0 ≤ _), (by decide : 0 + 0 ≤ _)⟩)
    dsimp only [Pt.U, Pt.locs, Pt.cells, Pt.slots] at X6 l6 y6 z6 st6 hQ6
    subst l6 y6 z6
    obtain ⟨rfl, N6q, e6⟩ := hQ6
    have N6 := Fr.app N4 N6q
    refine Gen.on (b := T6.setTop (mkF m 25 #[.val (.ref a1), .val (.ref a2)] [(.int w4), (.int w3)])) ?_ (fun t k => st6.trans k)
    by_cases c25_2 : w3 = w4
    · refine Gen.on (b := T6.setTop (mkF m 28 #[.val (.ref a1), .val (.ref a2)] [])) ?_ (fun t k => XS.icmpNo X6.here hx rfl (hb hby d9_25) rfl (teq c25_2).2 k)
      refine Gen.on (b := T6.setTop (mkF m 29 #[.val (.ref a1), .val (.ref a2)] [(.int (1 : Int32))])) ?_ (fun t k => XS.iconst X6.here hx rfl (hb hby d9_28) k)
      refine Gen.on (b := T6.setTop (mkF m 33 #[.val (.ref a1), .val (.ref a2)] [(.int (1 : Int32))])) ?_ (fun t k => XS.goto X6.here hx rfl (pc0 := 29) (pc' := 33) rfl (hb hby d9_29) (by decide) (by decide) k)
      refine own_retN (t := .boolean) X6 hx Bd.returns (by simp) (by decide) (hb hby d9_33) (by decide) (by decide) ?_
      exact ⟨(by simp only [f9, if_pos c8_1, if_pos c25_2]), N6, e6⟩
    · refine Gen.on (b := T6.setTop (mkF m 32 #[.val (.ref a1), .val (.ref a2)] [])) ?_ (fun t k => XS.icmpYes X6.here hx rfl (pc0 := 25) (pc' := 32) rfl (hb hby d9_25) rfl (feq c25_2).2 (by decide) (by decide) k)
      refine Gen.on (b := T6.setTop (mkF m 33 #[.val (.ref a1), .val (.ref a2)] [(.int (0 : Int32))])) ?_ (fun t k => XS.iconst X6.here hx rfl (hb hby d9_32) k)
      refine own_retN (t := .boolean) X6 hx Bd.returns (by simp) (by decide) (hb hby d9_33) (by decide) (by decide) ?_
      exact ⟨(by simp only [f9, if_pos c8_1, if_neg c25_2]), N6, e6⟩
  · refine Gen.on (b := T2.setTop (mkF m 32 #[.val (.ref a1), .val (.ref a2)] [])) ?_ (fun t k => XS.icmpYes X2.here hx rfl (pc0 := 8) (pc' := 32) rfl (hb hby d9_8) rfl (feq c8_1).2 (by decide) (by decide) k)
    refine Gen.on (b := T2.setTop (mkF m 33 #[.val (.ref a1), .val (.ref a2)] [(.int (0 : Int32))])) ?_ (fun t k => XS.iconst X2.here hx rfl (hb hby d9_32) k)
    refine own_retN (t := .boolean) X2 hx Bd.returns (by simp) (by decide) (hb hby d9_33) (by decide) (by decide) ?_
    exact ⟨(by simp only [f9, if_neg c8_1]), N0, e2⟩

theorem own_eqi {t : Term} {n : Int32} {args : Array Value} {s : State} (h : (Jvm.Cond.eq t (.int n)).value args s none s [] = some true) : t.eval args s none [] s = some (.int n) := by
  obtain ⟨x, y, e1, e2, k1, k2⟩ := cmp_v (Or.inl h)
  have e3 : y = .int n := by simpa [Term.eval] using e2.symm
  subst e3
  obtain ⟨z, rfl⟩ := k2
  simp only [Cond.value, e1, e2] at h
  have : z = n := by simpa using h
  rw [e1, this]

theorem own_b (x : Int32) (k : Int32) : ¬ (255 : Int32) < ((((x.toUInt32 >>> (k &&& 31).toUInt32).toInt32) &&& (255 : Int32)).toUInt32.toUInt16.toUInt32.toInt32) := by
  generalize ((x.toUInt32 >>> (k &&& 31).toUInt32).toInt32) = y
  have e : (y &&& (255 : Int32)).toInt = y.toInt % 2 ^ 8 := Jvm.Kit.i32_mask y 255 (k := 8) (by decide) (by decide)
  generalize (y &&& (255 : Int32)) = z at *
  have e2 : (z.toUInt32.toUInt16.toUInt32.toInt32).toInt = z.toInt := by
    rw [← Int32.toInt_toBitVec, ← Int32.toInt_toBitVec]
    simp only [UInt32.toBitVec_toInt32, UInt16.toBitVec_toUInt32, UInt32.toBitVec_toUInt16, Int32.toBitVec_toUInt32]
    have h0 : z.toBitVec.toInt = y.toInt % 2 ^ 8 := by rw [Int32.toInt_toBitVec]; exact e
    have h1 : z.toBitVec.toNat < 256 := by
      rw [BitVec.toInt_eq_toNat_cond] at h0
      have := z.toBitVec.isLt
      split at h0 <;> omega
    rw [BitVec.toInt_eq_toNat_of_lt (by simp; omega), BitVec.toInt_eq_toNat_of_lt (by omega)]
    simp
    omega
  rw [Int32.lt_iff_toInt_lt, e2, e]
  have : (255 : Int32).toInt = 255 := by decide +kernel
  omega
theorem own_1 (a b c1 c2 t1 t2 : Int32) (x1 x2 : Addr) (i j : Addr) : f9 i j c1 c2 x1 x2 t1 t2 = (if c1 = c2 then (if t1 = t2 then (1 : Int32) else (0 : Int32)) else (0 : Int32)) := rfl
theorem own_2 (c1 c2 t1 t2 : Int32) (x1 x2 : Addr) (i j : Addr) : f9 i j c2 c1 x1 x2 t2 t1 = (if c1 = c2 then (if t1 = t2 then (1 : Int32) else (0 : Int32)) else (0 : Int32)) := by
  unfold f9
  by_cases h : c1 = c2
  · subst h
    by_cases g : t1 = t2
    · subst g; rfl
    · rw [if_pos rfl, if_pos rfl, if_neg g, if_neg (fun q => g q.symm)]
  · rw [if_neg h, if_neg (fun q => h q.symm)]

theorem pn_0 : plainName "com/example/epochwise/epochwise/race/WitnessSameEpochPinLaw" = true := by first | (simp [plainName, overriddenIn]; done) | decide +kernel
theorem pd_0_0 : parseMethodDescriptor "(C)Ljava/lang/String;" = some ⟨[.char], some (.object "java/lang/String")⟩ := by decide +kernel
theorem pd_0_1 : parseMethodDescriptor "(JILcom/example/epochwise/epochwise/trace/Op;ILjava/lang/String;)V" = some ⟨[.long, .int, (.object "com/example/epochwise/epochwise/trace/Op"), .int, (.object "java/lang/String")], none⟩ := by decide +kernel
theorem pd_0_2 : parseMethodDescriptor "(Lcom/example/epochwise/epochwise/trace/Event;I)V" = some ⟨[(.object "com/example/epochwise/epochwise/trace/Event"), .int], none⟩ := by decide +kernel
theorem pd_0_3 : parseMethodDescriptor "(Lcom/example/epochwise/epochwise/race/Witness;)Z" = some ⟨[(.object "com/example/epochwise/epochwise/race/Witness")], some .boolean⟩ := by decide +kernel
theorem ef_0 (m : MethodId) (x0 : Int32) (x1 : Int32) (x2 : Int32) (x3 : Int32) (x4 : Int64) (x5 : Int32) : entryFrame m #[(.int x0), (.int x1), (.int x2), (.int x3), (.long x4), (.int x5)] maxLocals = mkF m 0 #[.val (.int x0), .val (.int x1), .val (.int x2), .val (.int x3), .val (.long x4), .second, .val (.int x5), .unset, .unset, .unset, .unset, .unset, .unset, .unset, .unset, .unset, .unset, .unset, .unset, .unset] [] := by first | (simp [entryFrame, mkF, argsToLocals, Value.category, maxLocals]; done) | rfl
def Q0 (n0 : Nat) (v : Option Value) (h : Heap) (L : List Loc) : Prop := v = some (.int 1) ∧ Fr n0 L
set_option maxRecDepth 65536 in
set_option maxHeartbeats 40000000 in
theorem rm0 (l : Launch) (Z : State) (a0 : Array Value) (hw : ∀ d ∈ tables_1, d.before a0 Z = true) (wds : List Jvm.Cond) (p1 : Int32) (p2 : Int32) (p3 : Int32) (p4 : Int32) (q5 : Int64) (p6 : Int32) (w0 : Int32) (xw : Addr) (xr : Addr) (h0 : Heap) (n0 : Nat) (Z0 : n0 ≤ h0.size) (P0 : Sta Z h0 "java/lang/String" "COMPACT_STRINGS" "Z" (.int w0)) (P1 : Sta Z h0 "com/example/epochwise/epochwise/trace/Op" "WRITE" "Lcom/example/epochwise/epochwise/trace/Op;" (.ref xw)) (P2 : Sta Z h0 "com/example/epochwise/epochwise/trace/Op" "READ" "Lcom/example/epochwise/epochwise/trace/Op;" (.ref xr)) (hw0 : ¬ w0 = (0 : Int32)) :
    MetFree l x (head1 (Jvm.Cond.code x code maxLocals ret :: wds) room_1) (fun a U => a = #[(.int p1), (.int p2), (.int p3), (.int p4), (.long q5), (.int p6)] ∧ Z.Warmed39 U.vm ∧ U.heap = h0) (fun _ _ _ _ _ => True) (fun _ U o U' => ∃ v L, o = .returned v ∧ Q0 n0 v U'.heap L ∧ FrameEnd U o U' L room_1.cells room_1.slots) := by
  refine MetFree.of_bodySF (plainFor_of_name pn_0) hisR ?_
  intro p e s m args below meth c s₁ Bd hml0 hP hK
  obtain ⟨rfl, hZ, hh⟩ := hP
  have hx := Bd.exec
  have hby := Bd.bytes
  have hml : c.maxLocals = 20 := hml0
  have hown : s.vm.findClass "com/example/epochwise/epochwise/race/WitnessSameEpochPinLaw" = some m.cls := findClass_of_methodNamed Bd.named
  have hnm := (name_of_methodNamed Bd.named Bd.method).1
  have X0 : Stand p l e room_1 s m #[(.int p1), (.int p2), (.int p3), (.int p4), (.long q5), (.int p6)] below meth c s₁ [] 0 0 := Stand.of_body Bd
  have e0 : s₁.heap = h0 := by rw [← hh, Bd.state]; rfl
  have N0 := Fr.nil n0
  refine own_start (Q := Q0 n0) (C := room_1.cells) (S := room_1.slots) ?_
  rw [ef_0 m p1 p2 p3 p4 q5 p6]
  refine Gen.on (b := s₁.setTop (mkF m 2 #[.val (.int p1), .val (.int p2), .val (.int p3), .val (.int p4), .val (.long q5), .second, .val (.int p6), .unset, .unset, .unset, .unset, .unset, .unset, .unset, .unset, .unset, .unset, .unset, .unset, .unset] [(.int p6)])) ?_ (fun t k => XS.iload X0.here hx rfl (hb hby at_0) rfl k)
  refine Gen.on (b := s₁.setTop (mkF m 3 #[.val (.int p1), .val (.int p2), .val (.int p3), .val (.int p4), .val (.long q5), .second, .val (.int p6), .unset, .unset, .unset, .unset, .unset, .unset, .unset, .unset, .unset, .unset, .unset, .unset, .unset] [(.int (1 : Int32)), (.int p6)])) ?_ (fun t k => XS.iconst X0.here hx rfl (hb hby at_2) k)
  refine Gen.on (b := s₁.setTop (mkF m 4 #[.val (.int p1), .val (.int p2), .val (.int p3), .val (.int p4), .val (.long q5), .second, .val (.int p6), .unset, .unset, .unset, .unset, .unset, .unset, .unset, .unset, .unset, .unset, .unset, .unset, .unset] [(.int (p6 &&& (1 : Int32)))])) ?_ (fun t k => XS.iand X0.here hx rfl (hb hby at_3) rfl k)
  obtain ⟨_, st1, T1, X1, e1, rfl⟩ : Gen p e below (own_at X0 h0 (mkF m 12 #[.val (.int p1), .val (.int p2), .val (.int p3), .val (.int p4), .val (.long q5), .second, .val (.int p6), .unset, .unset, .unset, .unset, .unset, .unset, .unset, .unset, .unset, .unset, .unset, .unset, .unset] [(.int (if (p6 &&& (1 : Int32)) = (0 : Int32) then p3 else p1))])) (s₁.setTop (mkF m 4 #[.val (.int p1), .val (.int p2), .val (.int p3), .val (.int p4), .val (.long q5), .second, .val (.int p6), .unset, .unset, .unset, .unset, .unset, .unset, .unset, .unset, .unset, .unset, .unset, .unset, .unset] [(.int (p6 &&& (1 : Int32)))])) := by
    by_cases c4_1 : (p6 &&& (1 : Int32)) = (0 : Int32)
    · refine Gen.on (b := s₁.setTop (mkF m 11 #[.val (.int p1), .val (.int p2), .val (.int p3), .val (.int p4), .val (.long q5), .second, .val (.int p6), .unset, .unset, .unset, .unset, .unset, .unset, .unset, .unset, .unset, .unset, .unset, .unset, .unset] [])) ?_ (fun t k => XS.ifYes X0.here hx rfl (pc0 := 4) (pc' := 11) rfl (hb hby at_4) rfl ((if0 _ _).trans (teq c4_1).1) (by decide) (by decide) k)
      refine Gen.on (b := s₁.setTop (mkF m 12 #[.val (.int p1), .val (.int p2), .val (.int p3), .val (.int p4), .val (.long q5), .second, .val (.int p6), .unset, .unset, .unset, .unset, .unset, .unset, .unset, .unset, .unset, .unset, .unset, .unset, .unset] [(.int p3)])) ?_ (fun t k => XS.iloadN X0.here hx rfl (hb hby at_11) rfl k)
      exact ⟨_, Steps.refl _, s₁, X0, e0, by simp only [if_pos c4_1]⟩
    · refine Gen.on (b := s₁.setTop (mkF m 7 #[.val (.int p1), .val (.int p2), .val (.int p3), .val (.int p4), .val (.long q5), .second, .val (.int p6), .unset, .unset, .unset, .unset, .unset, .unset, .unset, .unset, .unset, .unset, .unset, .unset, .unset] [])) ?_ (fun t k => XS.ifNo X0.here hx rfl (hb hby at_4) rfl ((if0 _ _).trans (feq c4_1).1) k)
      refine Gen.on (b := s₁.setTop (mkF m 8 #[.val (.int p1), .val (.int p2), .val (.int p3), .val (.int p4), .val (.long q5), .second, .val (.int p6), .unset, .unset, .unset, .unset, .unset, .unset, .unset, .unset, .unset, .unset, .unset, .unset, .unset] [(.int p1)])) ?_ (fun t k => XS.iloadN X0.here hx rfl (hb hby at_7) rfl k)
      refine Gen.on (b := s₁.setTop (mkF m 12 #[.val (.int p1), .val (.int p2), .val (.int p3), .val (.int p4), .val (.long q5), .second, .val (.int p6), .unset, .unset, .unset, .unset, .unset, .unset, .unset, .unset, .unset, .unset, .unset, .unset, .unset] [(.int p1)])) ?_ (fun t k => XS.goto X0.here hx rfl (pc0 := 8) (pc' := 12) rfl (hb hby at_8) (by decide) (by decide) k)
      exact ⟨_, Steps.refl _, s₁, X0, e0, by simp only [if_neg c4_1]⟩
  refine Gen.on (b := T1.setTop (mkF m 12 #[.val (.int p1), .val (.int p2), .val (.int p3), .val (.int p4), .val (.long q5), .second, .val (.int p6), .unset, .unset, .unset, .unset, .unset, .unset, .unset, .unset, .unset, .unset, .unset, .unset, .unset] [(.int (if (p6 &&& (1 : Int32)) = (0 : Int32) then p3 else p1))])) ?_ (fun t k => st1.trans k)
  refine Gen.on (b := T1.setTop (mkF m 14 #[.val (.int p1), .val (.int p2), .val (.int p3), .val (.int p4), .val (.long q5), .second, .val (.int p6), .val (.int (if (p6 &&& (1 : Int32)) = (0 : Int32) then p3 else p1)), .unset, .unset, .unset, .unset, .unset, .unset, .unset, .unset, .unset, .unset, .unset, .unset] [])) ?_ (fun t k => XS.istore X1.here hx rfl (hb hby at_12) rfl (l' := #[.val (.int p1), .val (.int p2), .val (.int p3), .val (.int p4), .val (.long q5), .second, .val (.int p6), .val (.int (if (p6 &&& (1 : Int32)) = (0 : Int32) then p3 else p1)), .unset, .unset, .unset, .unset, .unset, .unset, .unset, .unset, .unset, .unset, .unset, .unset]) rfl k)
  refine Gen.on (b := T1.setTop (mkF m 16 #[.val (.int p1), .val (.int p2), .val (.int p3), .val (.int p4), .val (.long q5), .second, .val (.int p6), .val (.int (if (p6 &&& (1 : Int32)) = (0 : Int32) then p3 else p1)), .unset, .unset, .unset, .unset, .unset, .unset, .unset, .unset, .unset, .unset, .unset, .unset] [(.int p6)])) ?_ (fun t k => XS.iload X1.here hx rfl (hb hby at_14) rfl k)
  refine Gen.on (b := T1.setTop (mkF m 17 #[.val (.int p1), .val (.int p2), .val (.int p3), .val (.int p4), .val (.long q5), .second, .val (.int p6), .val (.int (if (p6 &&& (1 : Int32)) = (0 : Int32) then p3 else p1)), .unset, .unset, .unset, .unset, .unset, .unset, .unset, .unset, .unset, .unset, .unset, .unset] [(.int (2 : Int32)), (.int p6)])) ?_ (fun t k => XS.iconst X1.here hx rfl (hb hby at_16) k)
  refine Gen.on (b := T1.setTop (mkF m 18 #[.val (.int p1), .val (.int p2), .val (.int p3), .val (.int p4), .val (.long q5), .second, .val (.int p6), .val (.int (if (p6 &&& (1 : Int32)) = (0 : Int32) then p3 else p1)), .unset, .unset, .unset, .unset, .unset, .unset, .unset, .unset, .unset, .unset, .unset, .unset] [(.int (p6 &&& (2 : Int32)))])) ?_ (fun t k => XS.iand X1.here hx rfl (hb hby at_17) rfl k)
  obtain ⟨_, st2, T2, X2, e2, rfl⟩ : Gen p e below (own_at X1 h0 (mkF m 26 #[.val (.int p1), .val (.int p2), .val (.int p3), .val (.int p4), .val (.long q5), .second, .val (.int p6), .val (.int (if (p6 &&& (1 : Int32)) = (0 : Int32) then p3 else p1)), .unset, .unset, .unset, .unset, .unset, .unset, .unset, .unset, .unset, .unset, .unset, .unset] [(.int (if (p6 &&& (2 : Int32)) = (0 : Int32) then p4 else p2))])) (T1.setTop (mkF m 18 #[.val (.int p1), .val (.int p2), .val (.int p3), .val (.int p4), .val (.long q5), .second, .val (.int p6), .val (.int (if (p6 &&& (1 : Int32)) = (0 : Int32) then p3 else p1)), .unset, .unset, .unset, .unset, .unset, .unset, .unset, .unset, .unset, .unset, .unset, .unset] [(.int (p6 &&& (2 : Int32)))])) := by
    by_cases c18_2 : (p6 &&& (2 : Int32)) = (0 : Int32)
    · refine Gen.on (b := T1.setTop (mkF m 25 #[.val (.int p1), .val (.int p2), .val (.int p3), .val (.int p4), .val (.long q5), .second, .val (.int p6), .val (.int (if (p6 &&& (1 : Int32)) = (0 : Int32) then p3 else p1)), .unset, .unset, .unset, .unset, .unset, .unset, .unset, .unset, .unset, .unset, .unset, .unset] [])) ?_ (fun t k => XS.ifYes X1.here hx rfl (pc0 := 18) (pc' := 25) rfl (hb hby at_18) rfl ((if0 _ _).trans (teq c18_2).1) (by decide) (by decide) k)
      refine Gen.on (b := T1.setTop (mkF m 26 #[.val (.int p1), .val (.int p2), .val (.int p3), .val (.int p4), .val (.long q5), .second, .val (.int p6), .val (.int (if (p6 &&& (1 : Int32)) = (0 : Int32) then p3 else p1)), .unset, .unset, .unset, .unset, .unset, .unset, .unset, .unset, .unset, .unset, .unset, .unset] [(.int p4)])) ?_ (fun t k => XS.iloadN X1.here hx rfl (hb hby at_25) rfl k)
      exact ⟨_, Steps.refl _, T1, X1, e1, by simp only [if_pos c18_2]⟩
    · refine Gen.on (b := T1.setTop (mkF m 21 #[.val (.int p1), .val (.int p2), .val (.int p3), .val (.int p4), .val (.long q5), .second, .val (.int p6), .val (.int (if (p6 &&& (1 : Int32)) = (0 : Int32) then p3 else p1)), .unset, .unset, .unset, .unset, .unset, .unset, .unset, .unset, .unset, .unset, .unset, .unset] [])) ?_ (fun t k => XS.ifNo X1.here hx rfl (hb hby at_18) rfl ((if0 _ _).trans (feq c18_2).1) k)
      refine Gen.on (b := T1.setTop (mkF m 22 #[.val (.int p1), .val (.int p2), .val (.int p3), .val (.int p4), .val (.long q5), .second, .val (.int p6), .val (.int (if (p6 &&& (1 : Int32)) = (0 : Int32) then p3 else p1)), .unset, .unset, .unset, .unset, .unset, .unset, .unset, .unset, .unset, .unset, .unset, .unset] [(.int p2)])) ?_ (fun t k => XS.iloadN X1.here hx rfl (hb hby at_21) rfl k)
      refine Gen.on (b := T1.setTop (mkF m 26 #[.val (.int p1), .val (.int p2), .val (.int p3), .val (.int p4), .val (.long q5), .second, .val (.int p6), .val (.int (if (p6 &&& (1 : Int32)) = (0 : Int32) then p3 else p1)), .unset, .unset, .unset, .unset, .unset, .unset, .unset, .unset, .unset, .unset, .unset, .unset] [(.int p2)])) ?_ (fun t k => XS.goto X1.here hx rfl (pc0 := 22) (pc' := 26) rfl (hb hby at_22) (by decide) (by decide) k)
      exact ⟨_, Steps.refl _, T1, X1, e1, by simp only [if_neg c18_2]⟩
  refine Gen.on (b := T2.setTop (mkF m 26 #[.val (.int p1), .val (.int p2), .val (.int p3), .val (.int p4), .val (.long q5), .second, .val (.int p6), .val (.int (if (p6 &&& (1 : Int32)) = (0 : Int32) then p3 else p1)), .unset, .unset, .unset, .unset, .unset, .unset, .unset, .unset, .unset, .unset, .unset, .unset] [(.int (if (p6 &&& (2 : Int32)) = (0 : Int32) then p4 else p2))])) ?_ (fun t k => st2.trans k)
  refine Gen.on (b := T2.setTop (mkF m 28 #[.val (.int p1), .val (.int p2), .val (.int p3), .val (.int p4), .val (.long q5), .second, .val (.int p6), .val (.int (if (p6 &&& (1 : Int32)) = (0 : Int32) then p3 else p1)), .val (.int (if (p6 &&& (2 : Int32)) = (0 : Int32) then p4 else p2)), .unset, .unset, .unset, .unset, .unset, .unset, .unset, .unset, .unset, .unset, .unset] [])) ?_ (fun t k => XS.istore X2.here hx rfl (hb hby at_26) rfl (l' := #[.val (.int p1), .val (.int p2), .val (.int p3), .val (.int p4), .val (.long q5), .second, .val (.int p6), .val (.int (if (p6 &&& (1 : Int32)) = (0 : Int32) then p3 else p1)), .val (.int (if (p6 &&& (2 : Int32)) = (0 : Int32) then p4 else p2)), .unset, .unset, .unset, .unset, .unset, .unset, .unset, .unset, .unset, .unset, .unset]) rfl k)
  refine Gen.on (b := T2.setTop (mkF m 30 #[.val (.int p1), .val (.int p2), .val (.int p3), .val (.int p4), .val (.long q5), .second, .val (.int p6), .val (.int (if (p6 &&& (1 : Int32)) = (0 : Int32) then p3 else p1)), .val (.int (if (p6 &&& (2 : Int32)) = (0 : Int32) then p4 else p2)), .unset, .unset, .unset, .unset, .unset, .unset, .unset, .unset, .unset, .unset, .unset] [(.int p6)])) ?_ (fun t k => XS.iload X2.here hx rfl (hb hby at_28) rfl k)
  refine Gen.on (b := T2.setTop (mkF m 31 #[.val (.int p1), .val (.int p2), .val (.int p3), .val (.int p4), .val (.long q5), .second, .val (.int p6), .val (.int (if (p6 &&& (1 : Int32)) = (0 : Int32) then p3 else p1)), .val (.int (if (p6 &&& (2 : Int32)) = (0 : Int32) then p4 else p2)), .unset, .unset, .unset, .unset, .unset, .unset, .unset, .unset, .unset, .unset, .unset] [(.int (4 : Int32)), (.int p6)])) ?_ (fun t k => XS.iconst X2.here hx rfl (hb hby at_30) k)
  refine Gen.on (b := T2.setTop (mkF m 32 #[.val (.int p1), .val (.int p2), .val (.int p3), .val (.int p4), .val (.long q5), .second, .val (.int p6), .val (.int (if (p6 &&& (1 : Int32)) = (0 : Int32) then p3 else p1)), .val (.int (if (p6 &&& (2 : Int32)) = (0 : Int32) then p4 else p2)), .unset, .unset, .unset, .unset, .unset, .unset, .unset, .unset, .unset, .unset, .unset] [(.int (p6 &&& (4 : Int32)))])) ?_ (fun t k => XS.iand X2.here hx rfl (hb hby at_31) rfl k)
  obtain ⟨_, st3, T3, X3, e3, rfl⟩ : Gen p e below (own_at X2 h0 (mkF m 44 #[.val (.int p1), .val (.int p2), .val (.int p3), .val (.int p4), .val (.long q5), .second, .val (.int p6), .val (.int (if (p6 &&& (1 : Int32)) = (0 : Int32) then p3 else p1)), .val (.int (if (p6 &&& (2 : Int32)) = (0 : Int32) then p4 else p2)), .unset, .unset, .unset, .unset, .unset, .unset, .unset, .unset, .unset, .unset, .unset] [(.ref (if (p6 &&& (4 : Int32)) = (0 : Int32) then xw else xr))])) (T2.setTop (mkF m 32 #[.val (.int p1), .val (.int p2), .val (.int p3), .val (.int p4), .val (.long q5), .second, .val (.int p6), .val (.int (if (p6 &&& (1 : Int32)) = (0 : Int32) then p3 else p1)), .val (.int (if (p6 &&& (2 : Int32)) = (0 : Int32) then p4 else p2)), .unset, .unset, .unset, .unset, .unset, .unset, .unset, .unset, .unset, .unset, .unset] [(.int (p6 &&& (4 : Int32)))])) := by
    by_cases c32_3 : (p6 &&& (4 : Int32)) = (0 : Int32)
    · refine Gen.on (b := T2.setTop (mkF m 41 #[.val (.int p1), .val (.int p2), .val (.int p3), .val (.int p4), .val (.long q5), .second, .val (.int p6), .val (.int (if (p6 &&& (1 : Int32)) = (0 : Int32) then p3 else p1)), .val (.int (if (p6 &&& (2 : Int32)) = (0 : Int32) then p4 else p2)), .unset, .unset, .unset, .unset, .unset, .unset, .unset, .unset, .unset, .unset, .unset] [])) ?_ (fun t k => XS.ifYes X2.here hx rfl (pc0 := 32) (pc' := 41) rfl (hb hby at_32) rfl ((if0 _ _).trans (teq c32_3).1) (by decide) (by decide) k)
      obtain ⟨T4, X4, e4, st4⟩ := getS2 X2 hx hZ hown (host := "") (Or.inl (hw _ (List.mem_of_getElem? (i := 0) rfl))) Via.refl e2 P1 (g := (mkF m 41 #[.val (.int p1), .val (.int p2), .val (.int p3), .val (.int p4), .val (.long q5), .second, .val (.int p6), .val (.int (if (p6 &&& (1 : Int32)) = (0 : Int32) then p3 else p1)), .val (.int (if (p6 &&& (2 : Int32)) = (0 : Int32) then p4 else p2)), .unset, .unset, .unset, .unset, .unset, .unset, .unset, .unset, .unset, .unset, .unset] [])) rfl (hb hby at_41)
      refine Gen.on (b := T4.setTop (mkF m 44 #[.val (.int p1), .val (.int p2), .val (.int p3), .val (.int p4), .val (.long q5), .second, .val (.int p6), .val (.int (if (p6 &&& (1 : Int32)) = (0 : Int32) then p3 else p1)), .val (.int (if (p6 &&& (2 : Int32)) = (0 : Int32) then p4 else p2)), .unset, .unset, .unset, .unset, .unset, .unset, .unset, .unset, .unset, .unset, .unset] [(.ref xw)])) ?_ (fun t k => st4 t k)
      exact ⟨_, Steps.refl _, T4, X4, e4, by simp only [if_pos c32_3]⟩
    · refine Gen.on (b := T2.setTop (mkF m 35 #[.val (.int p1), .val (.int p2), .val (.int p3), .val (.int p4), .val (.long q5), .second, .val (.int p6), .val (.int (if (p6 &&& (1 : Int32)) = (0 : Int32) then p3 else p1)), .val (.int (if (p6 &&& (2 : Int32)) = (0 : Int32) then p4 else p2)), .unset, .unset, .unset, .unset, .unset, .unset, .unset, .unset, .unset, .unset, .unset] [])) ?_ (fun t k => XS.ifNo X2.here hx rfl (hb hby at_32) rfl ((if0 _ _).trans (feq c32_3).1) k)
      obtain ⟨T5, X5, e5, st5⟩ := getS2 X2 hx hZ hown (host := "") (Or.inl (hw _ (List.mem_of_getElem? (i := 74) rfl))) Via.refl e2 P2 (g := (mkF m 35 #[.val (.int p1), .val (.int p2), .val (.int p3), .val (.int p4), .val (.long q5), .second, .val (.int p6), .val (.int (if (p6 &&& (1 : Int32)) = (0 : Int32) then p3 else p1)), .val (.int (if (p6 &&& (2 : Int32)) = (0 : Int32) then p4 else p2)), .unset, .unset, .unset, .unset, .unset, .unset, .unset, .unset, .unset, .unset, .unset] [])) rfl (hb hby at_35)
      refine Gen.on (b := T5.setTop (mkF m 38 #[.val (.int p1), .val (.int p2), .val (.int p3), .val (.int p4), .val (.long q5), .second, .val (.int p6), .val (.int (if (p6 &&& (1 : Int32)) = (0 : Int32) then p3 else p1)), .val (.int (if (p6 &&& (2 : Int32)) = (0 : Int32) then p4 else p2)), .unset, .unset, .unset, .unset, .unset, .unset, .unset, .unset, .unset, .unset, .unset] [(.ref xr)])) ?_ (fun t k => st5 t k)
      refine Gen.on (b := T5.setTop (mkF m 44 #[.val (.int p1), .val (.int p2), .val (.int p3), .val (.int p4), .val (.long q5), .second, .val (.int p6), .val (.int (if (p6 &&& (1 : Int32)) = (0 : Int32) then p3 else p1)), .val (.int (if (p6 &&& (2 : Int32)) = (0 : Int32) then p4 else p2)), .unset, .unset, .unset, .unset, .unset, .unset, .unset, .unset, .unset, .unset, .unset] [(.ref xr)])) ?_ (fun t k => XS.goto X5.here hx rfl (pc0 := 38) (pc' := 44) rfl (hb hby at_38) (by decide) (by decide) k)
      exact ⟨_, Steps.refl _, T5, X5, e5, by simp only [if_neg c32_3]⟩
  refine Gen.on (b := T3.setTop (mkF m 44 #[.val (.int p1), .val (.int p2), .val (.int p3), .val (.int p4), .val (.long q5), .second, .val (.int p6), .val (.int (if (p6 &&& (1 : Int32)) = (0 : Int32) then p3 else p1)), .val (.int (if (p6 &&& (2 : Int32)) = (0 : Int32) then p4 else p2)), .unset, .unset, .unset, .unset, .unset, .unset, .unset, .unset, .unset, .unset, .unset] [(.ref (if (p6 &&& (4 : Int32)) = (0 : Int32) then xw else xr))])) ?_ (fun t k => st3.trans k)
  refine Gen.on (b := T3.setTop (mkF m 46 #[.val (.int p1), .val (.int p2), .val (.int p3), .val (.int p4), .val (.long q5), .second, .val (.int p6), .val (.int (if (p6 &&& (1 : Int32)) = (0 : Int32) then p3 else p1)), .val (.int (if (p6 &&& (2 : Int32)) = (0 : Int32) then p4 else p2)), .val (.ref (if (p6 &&& (4 : Int32)) = (0 : Int32) then xw else xr)), .unset, .unset, .unset, .unset, .unset, .unset, .unset, .unset, .unset, .unset] [])) ?_ (fun t k => XS.astore X3.here hx rfl (hb hby at_44) rfl rfl (l' := #[.val (.int p1), .val (.int p2), .val (.int p3), .val (.int p4), .val (.long q5), .second, .val (.int p6), .val (.int (if (p6 &&& (1 : Int32)) = (0 : Int32) then p3 else p1)), .val (.int (if (p6 &&& (2 : Int32)) = (0 : Int32) then p4 else p2)), .val (.ref (if (p6 &&& (4 : Int32)) = (0 : Int32) then xw else xr)), .unset, .unset, .unset, .unset, .unset, .unset, .unset, .unset, .unset, .unset]) rfl k)
  refine Gen.on (b := T3.setTop (mkF m 48 #[.val (.int p1), .val (.int p2), .val (.int p3), .val (.int p4), .val (.long q5), .second, .val (.int p6), .val (.int (if (p6 &&& (1 : Int32)) = (0 : Int32) then p3 else p1)), .val (.int (if (p6 &&& (2 : Int32)) = (0 : Int32) then p4 else p2)), .val (.ref (if (p6 &&& (4 : Int32)) = (0 : Int32) then xw else xr)), .unset, .unset, .unset, .unset, .unset, .unset, .unset, .unset, .unset, .unset] [(.int p6)])) ?_ (fun t k => XS.iload X3.here hx rfl (hb hby at_46) rfl k)
  refine Gen.on (b := T3.setTop (mkF m 50 #[.val (.int p1), .val (.int p2), .val (.int p3), .val (.int p4), .val (.long q5), .second, .val (.int p6), .val (.int (if (p6 &&& (1 : Int32)) = (0 : Int32) then p3 else p1)), .val (.int (if (p6 &&& (2 : Int32)) = (0 : Int32) then p4 else p2)), .val (.ref (if (p6 &&& (4 : Int32)) = (0 : Int32) then xw else xr)), .unset, .unset, .unset, .unset, .unset, .unset, .unset, .unset, .unset, .unset] [(.int (8 : Int32)), (.int p6)])) ?_ (fun t k => XS.bipush X3.here hx rfl (hb hby at_48) k)
  refine Gen.on (b := T3.setTop (mkF m 51 #[.val (.int p1), .val (.int p2), .val (.int p3), .val (.int p4), .val (.long q5), .second, .val (.int p6), .val (.int (if (p6 &&& (1 : Int32)) = (0 : Int32) then p3 else p1)), .val (.int (if (p6 &&& (2 : Int32)) = (0 : Int32) then p4 else p2)), .val (.ref (if (p6 &&& (4 : Int32)) = (0 : Int32) then xw else xr)), .unset, .unset, .unset, .unset, .unset, .unset, .unset, .unset, .unset, .unset] [(.int (p6 &&& (8 : Int32)))])) ?_ (fun t k => XS.iand X3.here hx rfl (hb hby at_50) rfl k)
  obtain ⟨_, st6, T6, X6, e6, rfl⟩ : Gen p e below (own_at X3 h0 (mkF m 63 #[.val (.int p1), .val (.int p2), .val (.int p3), .val (.int p4), .val (.long q5), .second, .val (.int p6), .val (.int (if (p6 &&& (1 : Int32)) = (0 : Int32) then p3 else p1)), .val (.int (if (p6 &&& (2 : Int32)) = (0 : Int32) then p4 else p2)), .val (.ref (if (p6 &&& (4 : Int32)) = (0 : Int32) then xw else xr)), .unset, .unset, .unset, .unset, .unset, .unset, .unset, .unset, .unset, .unset] [(.ref (if (p6 &&& (8 : Int32)) = (0 : Int32) then xw else xr))])) (T3.setTop (mkF m 51 #[.val (.int p1), .val (.int p2), .val (.int p3), .val (.int p4), .val (.long q5), .second, .val (.int p6), .val (.int (if (p6 &&& (1 : Int32)) = (0 : Int32) then p3 else p1)), .val (.int (if (p6 &&& (2 : Int32)) = (0 : Int32) then p4 else p2)), .val (.ref (if (p6 &&& (4 : Int32)) = (0 : Int32) then xw else xr)), .unset, .unset, .unset, .unset, .unset, .unset, .unset, .unset, .unset, .unset] [(.int (p6 &&& (8 : Int32)))])) := by
    by_cases c51_4 : (p6 &&& (8 : Int32)) = (0 : Int32)
    · refine Gen.on (b := T3.setTop (mkF m 60 #[.val (.int p1), .val (.int p2), .val (.int p3), .val (.int p4), .val (.long q5), .second, .val (.int p6), .val (.int (if (p6 &&& (1 : Int32)) = (0 : Int32) then p3 else p1)), .val (.int (if (p6 &&& (2 : Int32)) = (0 : Int32) then p4 else p2)), .val (.ref (if (p6 &&& (4 : Int32)) = (0 : Int32) then xw else xr)), .unset, .unset, .unset, .unset, .unset, .unset, .unset, .unset, .unset, .unset] [])) ?_ (fun t k => XS.ifYes X3.here hx rfl (pc0 := 51) (pc' := 60) rfl (hb hby at_51) rfl ((if0 _ _).trans (teq c51_4).1) (by decide) (by decide) k)
      obtain ⟨T7, X7, e7, st7⟩ := getS2 X3 hx hZ hown (host := "") (Or.inl (hw _ (List.mem_of_getElem? (i := 0) rfl))) Via.refl e3 P1 (g := (mkF m 60 #[.val (.int p1), .val (.int p2), .val (.int p3), .val (.int p4), .val (.long q5), .second, .val (.int p6), .val (.int (if (p6 &&& (1 : Int32)) = (0 : Int32) then p3 else p1)), .val (.int (if (p6 &&& (2 : Int32)) = (0 : Int32) then p4 else p2)), .val (.ref (if (p6 &&& (4 : Int32)) = (0 : Int32) then xw else xr)), .unset, .unset, .unset, .unset, .unset, .unset, .unset, .unset, .unset, .unset] [])) rfl (hb hby at_60)
      refine Gen.on (b := T7.setTop (mkF m 63 #[.val (.int p1), .val (.int p2), .val (.int p3), .val (.int p4), .val (.long q5), .second, .val (.int p6), .val (.int (if (p6 &&& (1 : Int32)) = (0 : Int32) then p3 else p1)), .val (.int (if (p6 &&& (2 : Int32)) = (0 : Int32) then p4 else p2)), .val (.ref (if (p6 &&& (4 : Int32)) = (0 : Int32) then xw else xr)), .unset, .unset, .unset, .unset, .unset, .unset, .unset, .unset, .unset, .unset] [(.ref xw)])) ?_ (fun t k => st7 t k)
      exact ⟨_, Steps.refl _, T7, X7, e7, by simp only [if_pos c51_4]⟩
    · refine Gen.on (b := T3.setTop (mkF m 54 #[.val (.int p1), .val (.int p2), .val (.int p3), .val (.int p4), .val (.long q5), .second, .val (.int p6), .val (.int (if (p6 &&& (1 : Int32)) = (0 : Int32) then p3 else p1)), .val (.int (if (p6 &&& (2 : Int32)) = (0 : Int32) then p4 else p2)), .val (.ref (if (p6 &&& (4 : Int32)) = (0 : Int32) then xw else xr)), .unset, .unset, .unset, .unset, .unset, .unset, .unset, .unset, .unset, .unset] [])) ?_ (fun t k => XS.ifNo X3.here hx rfl (hb hby at_51) rfl ((if0 _ _).trans (feq c51_4).1) k)
      obtain ⟨T8, X8, e8, st8⟩ := getS2 X3 hx hZ hown (host := "") (Or.inl (hw _ (List.mem_of_getElem? (i := 74) rfl))) Via.refl e3 P2 (g := (mkF m 54 #[.val (.int p1), .val (.int p2), .val (.int p3), .val (.int p4), .val (.long q5), .second, .val (.int p6), .val (.int (if (p6 &&& (1 : Int32)) = (0 : Int32) then p3 else p1)), .val (.int (if (p6 &&& (2 : Int32)) = (0 : Int32) then p4 else p2)), .val (.ref (if (p6 &&& (4 : Int32)) = (0 : Int32) then xw else xr)), .unset, .unset, .unset, .unset, .unset, .unset, .unset, .unset, .unset, .unset] [])) rfl (hb hby at_54)
      refine Gen.on (b := T8.setTop (mkF m 57 #[.val (.int p1), .val (.int p2), .val (.int p3), .val (.int p4), .val (.long q5), .second, .val (.int p6), .val (.int (if (p6 &&& (1 : Int32)) = (0 : Int32) then p3 else p1)), .val (.int (if (p6 &&& (2 : Int32)) = (0 : Int32) then p4 else p2)), .val (.ref (if (p6 &&& (4 : Int32)) = (0 : Int32) then xw else xr)), .unset, .unset, .unset, .unset, .unset, .unset, .unset, .unset, .unset, .unset] [(.ref xr)])) ?_ (fun t k => st8 t k)
      refine Gen.on (b := T8.setTop (mkF m 63 #[.val (.int p1), .val (.int p2), .val (.int p3), .val (.int p4), .val (.long q5), .second, .val (.int p6), .val (.int (if (p6 &&& (1 : Int32)) = (0 : Int32) then p3 else p1)), .val (.int (if (p6 &&& (2 : Int32)) = (0 : Int32) then p4 else p2)), .val (.ref (if (p6 &&& (4 : Int32)) = (0 : Int32) then xw else xr)), .unset, .unset, .unset, .unset, .unset, .unset, .unset, .unset, .unset, .unset] [(.ref xr)])) ?_ (fun t k => XS.goto X8.here hx rfl (pc0 := 57) (pc' := 63) rfl (hb hby at_57) (by decide) (by decide) k)
      exact ⟨_, Steps.refl _, T8, X8, e8, by simp only [if_neg c51_4]⟩
  refine Gen.on (b := T6.setTop (mkF m 63 #[.val (.int p1), .val (.int p2), .val (.int p3), .val (.int p4), .val (.long q5), .second, .val (.int p6), .val (.int (if (p6 &&& (1 : Int32)) = (0 : Int32) then p3 else p1)), .val (.int (if (p6 &&& (2 : Int32)) = (0 : Int32) then p4 else p2)), .val (.ref (if (p6 &&& (4 : Int32)) = (0 : Int32) then xw else xr)), .unset, .unset, .unset, .unset, .unset, .unset, .unset, .unset, .unset, .unset] [(.ref (if (p6 &&& (8 : Int32)) = (0 : Int32) then xw else xr))])) ?_ (fun t k => st6.trans k)
  refine Gen.on (b := T6.setTop (mkF m 65 #[.val (.int p1), .val (.int p2), .val (.int p3), .val (.int p4), .val (.long q5), .second, .val (.int p6), .val (.int (if (p6 &&& (1 : Int32)) = (0 : Int32) then p3 else p1)), .val (.int (if (p6 &&& (2 : Int32)) = (0 : Int32) then p4 else p2)), .val (.ref (if (p6 &&& (4 : Int32)) = (0 : Int32) then xw else xr)), .val (.ref (if (p6 &&& (8 : Int32)) = (0 : Int32) then xw else xr)), .unset, .unset, .unset, .unset, .unset, .unset, .unset, .unset, .unset] [])) ?_ (fun t k => XS.astore X6.here hx rfl (hb hby at_63) rfl rfl (l' := #[.val (.int p1), .val (.int p2), .val (.int p3), .val (.int p4), .val (.long q5), .second, .val (.int p6), .val (.int (if (p6 &&& (1 : Int32)) = (0 : Int32) then p3 else p1)), .val (.int (if (p6 &&& (2 : Int32)) = (0 : Int32) then p4 else p2)), .val (.ref (if (p6 &&& (4 : Int32)) = (0 : Int32) then xw else xr)), .val (.ref (if (p6 &&& (8 : Int32)) = (0 : Int32) then xw else xr)), .unset, .unset, .unset, .unset, .unset, .unset, .unset, .unset, .unset]) rfl k)
  refine Gen.on (b := T6.setTop (mkF m 67 #[.val (.int p1), .val (.int p2), .val (.int p3), .val (.int p4), .val (.long q5), .second, .val (.int p6), .val (.int (if (p6 &&& (1 : Int32)) = (0 : Int32) then p3 else p1)), .val (.int (if (p6 &&& (2 : Int32)) = (0 : Int32) then p4 else p2)), .val (.ref (if (p6 &&& (4 : Int32)) = (0 : Int32) then xw else xr)), .val (.ref (if (p6 &&& (8 : Int32)) = (0 : Int32) then xw else xr)), .unset, .unset, .unset, .unset, .unset, .unset, .unset, .unset, .unset] [(.int p6)])) ?_ (fun t k => XS.iload X6.here hx rfl (hb hby at_65) rfl k)
  refine Gen.on (b := T6.setTop (mkF m 68 #[.val (.int p1), .val (.int p2), .val (.int p3), .val (.int p4), .val (.long q5), .second, .val (.int p6), .val (.int (if (p6 &&& (1 : Int32)) = (0 : Int32) then p3 else p1)), .val (.int (if (p6 &&& (2 : Int32)) = (0 : Int32) then p4 else p2)), .val (.ref (if (p6 &&& (4 : Int32)) = (0 : Int32) then xw else xr)), .val (.ref (if (p6 &&& (8 : Int32)) = (0 : Int32) then xw else xr)), .unset, .unset, .unset, .unset, .unset, .unset, .unset, .unset, .unset] [(.int (4 : Int32)), (.int p6)])) ?_ (fun t k => XS.iconst X6.here hx rfl (hb hby at_67) k)
  refine Gen.on (b := T6.setTop (mkF m 69 #[.val (.int p1), .val (.int p2), .val (.int p3), .val (.int p4), .val (.long q5), .second, .val (.int p6), .val (.int (if (p6 &&& (1 : Int32)) = (0 : Int32) then p3 else p1)), .val (.int (if (p6 &&& (2 : Int32)) = (0 : Int32) then p4 else p2)), .val (.ref (if (p6 &&& (4 : Int32)) = (0 : Int32) then xw else xr)), .val (.ref (if (p6 &&& (8 : Int32)) = (0 : Int32) then xw else xr)), .unset, .unset, .unset, .unset, .unset, .unset, .unset, .unset, .unset] [(.int ((p6.toUInt32 >>> ((4 : Int32) &&& 31).toUInt32).toInt32))])) ?_ (fun t k => XS.iushr X6.here hx rfl (hb hby at_68) rfl k)
  refine Gen.on (b := T6.setTop (mkF m 72 #[.val (.int p1), .val (.int p2), .val (.int p3), .val (.int p4), .val (.long q5), .second, .val (.int p6), .val (.int (if (p6 &&& (1 : Int32)) = (0 : Int32) then p3 else p1)), .val (.int (if (p6 &&& (2 : Int32)) = (0 : Int32) then p4 else p2)), .val (.ref (if (p6 &&& (4 : Int32)) = (0 : Int32) then xw else xr)), .val (.ref (if (p6 &&& (8 : Int32)) = (0 : Int32) then xw else xr)), .unset, .unset, .unset, .unset, .unset, .unset, .unset, .unset, .unset] [(.int (255 : Int32)), (.int ((p6.toUInt32 >>> ((4 : Int32) &&& 31).toUInt32).toInt32))])) ?_ (fun t k => XS.sipush X6.here hx rfl (hb hby at_69) k)
  refine Gen.on (b := T6.setTop (mkF m 73 #[.val (.int p1), .val (.int p2), .val (.int p3), .val (.int p4), .val (.long q5), .second, .val (.int p6), .val (.int (if (p6 &&& (1 : Int32)) = (0 : Int32) then p3 else p1)), .val (.int (if (p6 &&& (2 : Int32)) = (0 : Int32) then p4 else p2)), .val (.ref (if (p6 &&& (4 : Int32)) = (0 : Int32) then xw else xr)), .val (.ref (if (p6 &&& (8 : Int32)) = (0 : Int32) then xw else xr)), .unset, .unset, .unset, .unset, .unset, .unset, .unset, .unset, .unset] [(.int (((p6.toUInt32 >>> ((4 : Int32) &&& 31).toUInt32).toInt32) &&& (255 : Int32)))])) ?_ (fun t k => XS.iand X6.here hx rfl (hb hby at_72) rfl k)
  refine Gen.on (b := T6.setTop (mkF m 74 #[.val (.int p1), .val (.int p2), .val (.int p3), .val (.int p4), .val (.long q5), .second, .val (.int p6), .val (.int (if (p6 &&& (1 : Int32)) = (0 : Int32) then p3 else p1)), .val (.int (if (p6 &&& (2 : Int32)) = (0 : Int32) then p4 else p2)), .val (.ref (if (p6 &&& (4 : Int32)) = (0 : Int32) then xw else xr)), .val (.ref (if (p6 &&& (8 : Int32)) = (0 : Int32) then xw else xr)), .unset, .unset, .unset, .unset, .unset, .unset, .unset, .unset, .unset] [(.int (((p6.toUInt32 >>> ((4 : Int32) &&& 31).toUInt32).toInt32) &&& (255 : Int32)).toUInt32.toUInt16.toUInt32.toInt32)])) ?_ (fun t k => XS.i2c X6.here hx rfl (hb hby at_73) rfl k)
  obtain ⟨_, _, ⟨T9, L9, k9, n9⟩, -, X9, ⟨Lc9, hQ9, l9, y9, z9⟩, st9⟩ := Jvm.LawKit.callS X6 hx (y := (⟨"java/lang/String", "valueOf", "(C)Ljava/lang/String;"⟩ : MethodName)) hown (mvT hZ (hw _ (List.mem_of_getElem? (i := 3) rfl))) (mvT hZ (hw _ (List.mem_of_getElem? (i := 4) rfl))) (mvT hZ (hw _ (List.mem_of_getElem? (i := 5) rfl))) (mvT hZ (hw _ (List.mem_of_getElem? (i := 6) rfl))) (by decide) (backOf (W := 0) (rm1 l Z a0 hw [] (((p6.toUInt32 >>> ((4 : Int32) &&& 31).toUInt32).toInt32) &&& (255 : Int32)).toUInt32.toUInt16.toUInt32.toInt32 w0 h0 n0 Z0 P0 (hw0) (own_b _ _)) hZ (hw _ (List.mem_of_getElem? (i := 6) rfl)) (hw _ (List.mem_of_getElem? (i := 5) rfl)) (by decide) (by decide)) (g := (mkF m 74 #[.val (.int p1), .val (.int p2), .val (.int p3), .val (.int p4), .val (.long q5), .second, .val (.int p6), .val (.int (if (p6 &&& (1 : Int32)) = (0 : Int32) then p3 else p1)), .val (.int (if (p6 &&& (2 : Int32)) = (0 : Int32) then p4 else p2)), .val (.ref (if (p6 &&& (4 : Int32)) = (0 : Int32) then xw else xr)), .val (.ref (if (p6 &&& (8 : Int32)) = (0 : Int32) then xw else xr)), .unset, .unset, .unset, .unset, .unset, .unset, .unset, .unset, .unset] [(.int (((p6.toUInt32 >>> ((4 : Int32) &&& 31).toUInt32).toInt32) &&& (255 : Int32)).toUInt32.toUInt16.toUInt32.toInt32)])) rfl (by rw [hml]; rfl) (argsL := [(.int (((p6.toUInt32 >>> ((4 : Int32) &&& 31).toUInt32).toInt32) &&& (255 : Int32)).toUInt32.toUInt16.toUInt32.toInt32)]) (rest := []) (lenOf pd_0_0 rfl) rfl (by show 2 * 0 + _ ≤ _; exact Nat.le_of_eq rfl) (hb hby at_74) (fun _ _ => ⟨rfl, e6, (by decide : 0 + 2 ≤ _), (by decide : 0 + 5 ≤ _)⟩)
  dsimp only [Pt.U, Pt.locs, Pt.cells, Pt.slots] at X9 l9 y9 z9 st9 hQ9
  subst l9 y9 z9
  obtain ⟨xr9, rfl, N9q, Kc9⟩ := hQ9
  have N9 := Fr.app N0 N9q
  have Z9 : n0 ≤ T9.heap.size := Nat.le_trans Z0 Kc9.1
  refine Gen.on (b := T9.setTop (mkF m 77 #[.val (.int p1), .val (.int p2), .val (.int p3), .val (.int p4), .val (.long q5), .second, .val (.int p6), .val (.int (if (p6 &&& (1 : Int32)) = (0 : Int32) then p3 else p1)), .val (.int (if (p6 &&& (2 : Int32)) = (0 : Int32) then p4 else p2)), .val (.ref (if (p6 &&& (4 : Int32)) = (0 : Int32) then xw else xr)), .val (.ref (if (p6 &&& (8 : Int32)) = (0 : Int32) then xw else xr)), .unset, .unset, .unset, .unset, .unset, .unset, .unset, .unset, .unset] [(.ref xr9)])) ?_ (fun t k => st9 t k)
  refine Gen.on (b := T9.setTop (mkF m 79 #[.val (.int p1), .val (.int p2), .val (.int p3), .val (.int p4), .val (.long q5), .second, .val (.int p6), .val (.int (if (p6 &&& (1 : Int32)) = (0 : Int32) then p3 else p1)), .val (.int (if (p6 &&& (2 : Int32)) = (0 : Int32) then p4 else p2)), .val (.ref (if (p6 &&& (4 : Int32)) = (0 : Int32) then xw else xr)), .val (.ref (if (p6 &&& (8 : Int32)) = (0 : Int32) then xw else xr)), .val (.ref xr9), .unset, .unset, .unset, .unset, .unset, .unset, .unset, .unset] [])) ?_ (fun t k => XS.astore X9.here hx rfl (hb hby at_77) rfl rfl (l' := #[.val (.int p1), .val (.int p2), .val (.int p3), .val (.int p4), .val (.long q5), .second, .val (.int p6), .val (.int (if (p6 &&& (1 : Int32)) = (0 : Int32) then p3 else p1)), .val (.int (if (p6 &&& (2 : Int32)) = (0 : Int32) then p4 else p2)), .val (.ref (if (p6 &&& (4 : Int32)) = (0 : Int32) then xw else xr)), .val (.ref (if (p6 &&& (8 : Int32)) = (0 : Int32) then xw else xr)), .val (.ref xr9), .unset, .unset, .unset, .unset, .unset, .unset, .unset, .unset]) rfl k)
  refine Gen.on (b := T9.setTop (mkF m 81 #[.val (.int p1), .val (.int p2), .val (.int p3), .val (.int p4), .val (.long q5), .second, .val (.int p6), .val (.int (if (p6 &&& (1 : Int32)) = (0 : Int32) then p3 else p1)), .val (.int (if (p6 &&& (2 : Int32)) = (0 : Int32) then p4 else p2)), .val (.ref (if (p6 &&& (4 : Int32)) = (0 : Int32) then xw else xr)), .val (.ref (if (p6 &&& (8 : Int32)) = (0 : Int32) then xw else xr)), .val (.ref xr9), .unset, .unset, .unset, .unset, .unset, .unset, .unset, .unset] [(.int p6)])) ?_ (fun t k => XS.iload X9.here hx rfl (hb hby at_79) rfl k)
  refine Gen.on (b := T9.setTop (mkF m 83 #[.val (.int p1), .val (.int p2), .val (.int p3), .val (.int p4), .val (.long q5), .second, .val (.int p6), .val (.int (if (p6 &&& (1 : Int32)) = (0 : Int32) then p3 else p1)), .val (.int (if (p6 &&& (2 : Int32)) = (0 : Int32) then p4 else p2)), .val (.ref (if (p6 &&& (4 : Int32)) = (0 : Int32) then xw else xr)), .val (.ref (if (p6 &&& (8 : Int32)) = (0 : Int32) then xw else xr)), .val (.ref xr9), .unset, .unset, .unset, .unset, .unset, .unset, .unset, .unset] [(.int (12 : Int32)), (.int p6)])) ?_ (fun t k => XS.bipush X9.here hx rfl (hb hby at_81) k)
  refine Gen.on (b := T9.setTop (mkF m 84 #[.val (.int p1), .val (.int p2), .val (.int p3), .val (.int p4), .val (.long q5), .second, .val (.int p6), .val (.int (if (p6 &&& (1 : Int32)) = (0 : Int32) then p3 else p1)), .val (.int (if (p6 &&& (2 : Int32)) = (0 : Int32) then p4 else p2)), .val (.ref (if (p6 &&& (4 : Int32)) = (0 : Int32) then xw else xr)), .val (.ref (if (p6 &&& (8 : Int32)) = (0 : Int32) then xw else xr)), .val (.ref xr9), .unset, .unset, .unset, .unset, .unset, .unset, .unset, .unset] [(.int ((p6.toUInt32 >>> ((12 : Int32) &&& 31).toUInt32).toInt32))])) ?_ (fun t k => XS.iushr X9.here hx rfl (hb hby at_83) rfl k)
  refine Gen.on (b := T9.setTop (mkF m 87 #[.val (.int p1), .val (.int p2), .val (.int p3), .val (.int p4), .val (.long q5), .second, .val (.int p6), .val (.int (if (p6 &&& (1 : Int32)) = (0 : Int32) then p3 else p1)), .val (.int (if (p6 &&& (2 : Int32)) = (0 : Int32) then p4 else p2)), .val (.ref (if (p6 &&& (4 : Int32)) = (0 : Int32) then xw else xr)), .val (.ref (if (p6 &&& (8 : Int32)) = (0 : Int32) then xw else xr)), .val (.ref xr9), .unset, .unset, .unset, .unset, .unset, .unset, .unset, .unset] [(.int (255 : Int32)), (.int ((p6.toUInt32 >>> ((12 : Int32) &&& 31).toUInt32).toInt32))])) ?_ (fun t k => XS.sipush X9.here hx rfl (hb hby at_84) k)
  refine Gen.on (b := T9.setTop (mkF m 88 #[.val (.int p1), .val (.int p2), .val (.int p3), .val (.int p4), .val (.long q5), .second, .val (.int p6), .val (.int (if (p6 &&& (1 : Int32)) = (0 : Int32) then p3 else p1)), .val (.int (if (p6 &&& (2 : Int32)) = (0 : Int32) then p4 else p2)), .val (.ref (if (p6 &&& (4 : Int32)) = (0 : Int32) then xw else xr)), .val (.ref (if (p6 &&& (8 : Int32)) = (0 : Int32) then xw else xr)), .val (.ref xr9), .unset, .unset, .unset, .unset, .unset, .unset, .unset, .unset] [(.int (((p6.toUInt32 >>> ((12 : Int32) &&& 31).toUInt32).toInt32) &&& (255 : Int32)))])) ?_ (fun t k => XS.iand X9.here hx rfl (hb hby at_87) rfl k)
  refine Gen.on (b := T9.setTop (mkF m 89 #[.val (.int p1), .val (.int p2), .val (.int p3), .val (.int p4), .val (.long q5), .second, .val (.int p6), .val (.int (if (p6 &&& (1 : Int32)) = (0 : Int32) then p3 else p1)), .val (.int (if (p6 &&& (2 : Int32)) = (0 : Int32) then p4 else p2)), .val (.ref (if (p6 &&& (4 : Int32)) = (0 : Int32) then xw else xr)), .val (.ref (if (p6 &&& (8 : Int32)) = (0 : Int32) then xw else xr)), .val (.ref xr9), .unset, .unset, .unset, .unset, .unset, .unset, .unset, .unset] [(.int (((p6.toUInt32 >>> ((12 : Int32) &&& 31).toUInt32).toInt32) &&& (255 : Int32)).toUInt32.toUInt16.toUInt32.toInt32)])) ?_ (fun t k => XS.i2c X9.here hx rfl (hb hby at_88) rfl k)
  have fa11 := (own_sta_keep P0 Kc9)
  obtain ⟨_, _, ⟨T10, L10, k10, n10⟩, -, X10, ⟨Lc10, hQ10, l10, y10, z10⟩, st10⟩ := Jvm.LawKit.callS X9 hx (y := (⟨"java/lang/String", "valueOf", "(C)Ljava/lang/String;"⟩ : MethodName)) hown (mvT hZ (hw _ (List.mem_of_getElem? (i := 3) rfl))) (mvT hZ (hw _ (List.mem_of_getElem? (i := 4) rfl))) (mvT hZ (hw _ (List.mem_of_getElem? (i := 5) rfl))) (mvT hZ (hw _ (List.mem_of_getElem? (i := 6) rfl))) (by decide) (backOf (W := 0) (rm1 l Z a0 hw [] (((p6.toUInt32 >>> ((12 : Int32) &&& 31).toUInt32).toInt32) &&& (255 : Int32)).toUInt32.toUInt16.toUInt32.toInt32 w0 T9.heap n0 Z9 fa11 (hw0) (own_b _ _)) hZ (hw _ (List.mem_of_getElem? (i := 6) rfl)) (hw _ (List.mem_of_getElem? (i := 5) rfl)) (by decide) (by decide)) (g := (mkF m 89 #[.val (.int p1), .val (.int p2), .val (.int p3), .val (.int p4), .val (.long q5), .second, .val (.int p6), .val (.int (if (p6 &&& (1 : Int32)) = (0 : Int32) then p3 else p1)), .val (.int (if (p6 &&& (2 : Int32)) = (0 : Int32) then p4 else p2)), .val (.ref (if (p6 &&& (4 : Int32)) = (0 : Int32) then xw else xr)), .val (.ref (if (p6 &&& (8 : Int32)) = (0 : Int32) then xw else xr)), .val (.ref xr9), .unset, .unset, .unset, .unset, .unset, .unset, .unset, .unset] [(.int (((p6.toUInt32 >>> ((12 : Int32) &&& 31).toUInt32).toInt32) &&& (255 : Int32)).toUInt32.toUInt16.toUInt32.toInt32)])) rfl (by rw [hml]; rfl) (argsL := [(.int (((p6.toUInt32 >>> ((12 : Int32) &&& 31).toUInt32).toInt32) &&& (255 : Int32)).toUInt32.toUInt16.toUInt32.toInt32)]) (rest := []) (lenOf pd_0_0 rfl) rfl (by show 2 * 0 + _ ≤ _; exact Nat.le_of_eq rfl) (hb hby at_89) (fun _ _ => ⟨rfl, rfl, (by decide : 2 + 2 ≤ _), (by decide : 5 + 5 ≤ _)⟩)
  dsimp only [Pt.U, Pt.locs, Pt.cells, Pt.slots] at X10 l10 y10 z10 st10 hQ10
  subst l10 y10 z10
  obtain ⟨xr10, rfl, N10q, Kc10⟩ := hQ10
  have N10 := Fr.app N9 N10q
  have Z10 : n0 ≤ T10.heap.size := Nat.le_trans Z9 Kc10.1
  refine Gen.on (b := T10.setTop (mkF m 92 #[.val (.int p1), .val (.int p2), .val (.int p3), .val (.int p4), .val (.long q5), .second, .val (.int p6), .val (.int (if (p6 &&& (1 : Int32)) = (0 : Int32) then p3 else p1)), .val (.int (if (p6 &&& (2 : Int32)) = (0 : Int32) then p4 else p2)), .val (.ref (if (p6 &&& (4 : Int32)) = (0 : Int32) then xw else xr)), .val (.ref (if (p6 &&& (8 : Int32)) = (0 : Int32) then xw else xr)), .val (.ref xr9), .unset, .unset, .unset, .unset, .unset, .unset, .unset, .unset] [(.ref xr10)])) ?_ (fun t k => st10 t k)
  refine Gen.on (b := T10.setTop (mkF m 94 #[.val (.int p1), .val (.int p2), .val (.int p3), .val (.int p4), .val (.long q5), .second, .val (.int p6), .val (.int (if (p6 &&& (1 : Int32)) = (0 : Int32) then p3 else p1)), .val (.int (if (p6 &&& (2 : Int32)) = (0 : Int32) then p4 else p2)), .val (.ref (if (p6 &&& (4 : Int32)) = (0 : Int32) then xw else xr)), .val (.ref (if (p6 &&& (8 : Int32)) = (0 : Int32) then xw else xr)), .val (.ref xr9), .val (.ref xr10), .unset, .unset, .unset, .unset, .unset, .unset, .unset] [])) ?_ (fun t k => XS.astore X10.here hx rfl (hb hby at_92) rfl rfl (l' := #[.val (.int p1), .val (.int p2), .val (.int p3), .val (.int p4), .val (.long q5), .second, .val (.int p6), .val (.int (if (p6 &&& (1 : Int32)) = (0 : Int32) then p3 else p1)), .val (.int (if (p6 &&& (2 : Int32)) = (0 : Int32) then p4 else p2)), .val (.ref (if (p6 &&& (4 : Int32)) = (0 : Int32) then xw else xr)), .val (.ref (if (p6 &&& (8 : Int32)) = (0 : Int32) then xw else xr)), .val (.ref xr9), .val (.ref xr10), .unset, .unset, .unset, .unset, .unset, .unset, .unset]) rfl k)
  refine Gen.on (b := T10.setTop (mkF m 96 #[.val (.int p1), .val (.int p2), .val (.int p3), .val (.int p4), .val (.long q5), .second, .val (.int p6), .val (.int (if (p6 &&& (1 : Int32)) = (0 : Int32) then p3 else p1)), .val (.int (if (p6 &&& (2 : Int32)) = (0 : Int32) then p4 else p2)), .val (.ref (if (p6 &&& (4 : Int32)) = (0 : Int32) then xw else xr)), .val (.ref (if (p6 &&& (8 : Int32)) = (0 : Int32) then xw else xr)), .val (.ref xr9), .val (.ref xr10), .unset, .unset, .unset, .unset, .unset, .unset, .unset] [(.int p6)])) ?_ (fun t k => XS.iload X10.here hx rfl (hb hby at_94) rfl k)
  refine Gen.on (b := T10.setTop (mkF m 98 #[.val (.int p1), .val (.int p2), .val (.int p3), .val (.int p4), .val (.long q5), .second, .val (.int p6), .val (.int (if (p6 &&& (1 : Int32)) = (0 : Int32) then p3 else p1)), .val (.int (if (p6 &&& (2 : Int32)) = (0 : Int32) then p4 else p2)), .val (.ref (if (p6 &&& (4 : Int32)) = (0 : Int32) then xw else xr)), .val (.ref (if (p6 &&& (8 : Int32)) = (0 : Int32) then xw else xr)), .val (.ref xr9), .val (.ref xr10), .unset, .unset, .unset, .unset, .unset, .unset, .unset] [(.int (1048576 : Int32)), (.int p6)])) ?_ (fun t k => X10.ldcInt hx hown (mvT hZ (hw _ (List.mem_of_getElem? (i := 29) rfl))) (g := (mkF m 96 #[.val (.int p1), .val (.int p2), .val (.int p3), .val (.int p4), .val (.long q5), .second, .val (.int p6), .val (.int (if (p6 &&& (1 : Int32)) = (0 : Int32) then p3 else p1)), .val (.int (if (p6 &&& (2 : Int32)) = (0 : Int32) then p4 else p2)), .val (.ref (if (p6 &&& (4 : Int32)) = (0 : Int32) then xw else xr)), .val (.ref (if (p6 &&& (8 : Int32)) = (0 : Int32) then xw else xr)), .val (.ref xr9), .val (.ref xr10), .unset, .unset, .unset, .unset, .unset, .unset, .unset] [(.int p6)])) rfl (hb hby at_96) t k)
  refine Gen.on (b := T10.setTop (mkF m 99 #[.val (.int p1), .val (.int p2), .val (.int p3), .val (.int p4), .val (.long q5), .second, .val (.int p6), .val (.int (if (p6 &&& (1 : Int32)) = (0 : Int32) then p3 else p1)), .val (.int (if (p6 &&& (2 : Int32)) = (0 : Int32) then p4 else p2)), .val (.ref (if (p6 &&& (4 : Int32)) = (0 : Int32) then xw else xr)), .val (.ref (if (p6 &&& (8 : Int32)) = (0 : Int32) then xw else xr)), .val (.ref xr9), .val (.ref xr10), .unset, .unset, .unset, .unset, .unset, .unset, .unset] [(.int (p6 &&& (1048576 : Int32)))])) ?_ (fun t k => XS.iand X10.here hx rfl (hb hby at_98) rfl k)
  obtain ⟨_, st12, T12, X12, e12, rfl⟩ : Gen p e below (own_at X10 T10.heap (mkF m 113 #[.val (.int p1), .val (.int p2), .val (.int p3), .val (.int p4), .val (.long q5), .second, .val (.int p6), .val (.int (if (p6 &&& (1 : Int32)) = (0 : Int32) then p3 else p1)), .val (.int (if (p6 &&& (2 : Int32)) = (0 : Int32) then p4 else p2)), .val (.ref (if (p6 &&& (4 : Int32)) = (0 : Int32) then xw else xr)), .val (.ref (if (p6 &&& (8 : Int32)) = (0 : Int32) then xw else xr)), .val (.ref xr9), .val (.ref xr10), .unset, .unset, .unset, .unset, .unset, .unset, .unset] [(.long (if (p6 &&& (1048576 : Int32)) = (0 : Int32) then (q5 ^^^ (-1 : Int64)) else q5))])) (T10.setTop (mkF m 99 #[.val (.int p1), .val (.int p2), .val (.int p3), .val (.int p4), .val (.long q5), .second, .val (.int p6), .val (.int (if (p6 &&& (1 : Int32)) = (0 : Int32) then p3 else p1)), .val (.int (if (p6 &&& (2 : Int32)) = (0 : Int32) then p4 else p2)), .val (.ref (if (p6 &&& (4 : Int32)) = (0 : Int32) then xw else xr)), .val (.ref (if (p6 &&& (8 : Int32)) = (0 : Int32) then xw else xr)), .val (.ref xr9), .val (.ref xr10), .unset, .unset, .unset, .unset, .unset, .unset, .unset] [(.int (p6 &&& (1048576 : Int32)))])) := by
    by_cases c99_5 : (p6 &&& (1048576 : Int32)) = (0 : Int32)
    · refine Gen.on (b := T10.setTop (mkF m 107 #[.val (.int p1), .val (.int p2), .val (.int p3), .val (.int p4), .val (.long q5), .second, .val (.int p6), .val (.int (if (p6 &&& (1 : Int32)) = (0 : Int32) then p3 else p1)), .val (.int (if (p6 &&& (2 : Int32)) = (0 : Int32) then p4 else p2)), .val (.ref (if (p6 &&& (4 : Int32)) = (0 : Int32) then xw else xr)), .val (.ref (if (p6 &&& (8 : Int32)) = (0 : Int32) then xw else xr)), .val (.ref xr9), .val (.ref xr10), .unset, .unset, .unset, .unset, .unset, .unset, .unset] [])) ?_ (fun t k => XS.ifYes X10.here hx rfl (pc0 := 99) (pc' := 107) rfl (hb hby at_99) rfl ((if0 _ _).trans (teq c99_5).1) (by decide) (by decide) k)
      refine Gen.on (b := T10.setTop (mkF m 109 #[.val (.int p1), .val (.int p2), .val (.int p3), .val (.int p4), .val (.long q5), .second, .val (.int p6), .val (.int (if (p6 &&& (1 : Int32)) = (0 : Int32) then p3 else p1)), .val (.int (if (p6 &&& (2 : Int32)) = (0 : Int32) then p4 else p2)), .val (.ref (if (p6 &&& (4 : Int32)) = (0 : Int32) then xw else xr)), .val (.ref (if (p6 &&& (8 : Int32)) = (0 : Int32) then xw else xr)), .val (.ref xr9), .val (.ref xr10), .unset, .unset, .unset, .unset, .unset, .unset, .unset] [(.long q5)])) ?_ (fun t k => XS.lload X10.here hx rfl (hb hby at_107) rfl k)
      refine Gen.on (b := T10.setTop (mkF m 112 #[.val (.int p1), .val (.int p2), .val (.int p3), .val (.int p4), .val (.long q5), .second, .val (.int p6), .val (.int (if (p6 &&& (1 : Int32)) = (0 : Int32) then p3 else p1)), .val (.int (if (p6 &&& (2 : Int32)) = (0 : Int32) then p4 else p2)), .val (.ref (if (p6 &&& (4 : Int32)) = (0 : Int32) then xw else xr)), .val (.ref (if (p6 &&& (8 : Int32)) = (0 : Int32) then xw else xr)), .val (.ref xr9), .val (.ref xr10), .unset, .unset, .unset, .unset, .unset, .unset, .unset] [(.long (-1 : Int64)), (.long q5)])) ?_ (fun t k => X10.ldc2Long hx hown (mvT hZ (hw _ (List.mem_of_getElem? (i := 30) rfl))) (g := (mkF m 109 #[.val (.int p1), .val (.int p2), .val (.int p3), .val (.int p4), .val (.long q5), .second, .val (.int p6), .val (.int (if (p6 &&& (1 : Int32)) = (0 : Int32) then p3 else p1)), .val (.int (if (p6 &&& (2 : Int32)) = (0 : Int32) then p4 else p2)), .val (.ref (if (p6 &&& (4 : Int32)) = (0 : Int32) then xw else xr)), .val (.ref (if (p6 &&& (8 : Int32)) = (0 : Int32) then xw else xr)), .val (.ref xr9), .val (.ref xr10), .unset, .unset, .unset, .unset, .unset, .unset, .unset] [(.long q5)])) rfl (hb hby at_109) t k)
      refine Gen.on (b := T10.setTop (mkF m 113 #[.val (.int p1), .val (.int p2), .val (.int p3), .val (.int p4), .val (.long q5), .second, .val (.int p6), .val (.int (if (p6 &&& (1 : Int32)) = (0 : Int32) then p3 else p1)), .val (.int (if (p6 &&& (2 : Int32)) = (0 : Int32) then p4 else p2)), .val (.ref (if (p6 &&& (4 : Int32)) = (0 : Int32) then xw else xr)), .val (.ref (if (p6 &&& (8 : Int32)) = (0 : Int32) then xw else xr)), .val (.ref xr9), .val (.ref xr10), .unset, .unset, .unset, .unset, .unset, .unset, .unset] [(.long (q5 ^^^ (-1 : Int64)))])) ?_ (fun t k => XS.lxor X10.here hx rfl (hb hby at_112) rfl k)
      exact ⟨_, Steps.refl _, T10, X10, rfl, by simp only [if_pos c99_5]⟩
    · refine Gen.on (b := T10.setTop (mkF m 102 #[.val (.int p1), .val (.int p2), .val (.int p3), .val (.int p4), .val (.long q5), .second, .val (.int p6), .val (.int (if (p6 &&& (1 : Int32)) = (0 : Int32) then p3 else p1)), .val (.int (if (p6 &&& (2 : Int32)) = (0 : Int32) then p4 else p2)), .val (.ref (if (p6 &&& (4 : Int32)) = (0 : Int32) then xw else xr)), .val (.ref (if (p6 &&& (8 : Int32)) = (0 : Int32) then xw else xr)), .val (.ref xr9), .val (.ref xr10), .unset, .unset, .unset, .unset, .unset, .unset, .unset] [])) ?_ (fun t k => XS.ifNo X10.here hx rfl (hb hby at_99) rfl ((if0 _ _).trans (feq c99_5).1) k)
      refine Gen.on (b := T10.setTop (mkF m 104 #[.val (.int p1), .val (.int p2), .val (.int p3), .val (.int p4), .val (.long q5), .second, .val (.int p6), .val (.int (if (p6 &&& (1 : Int32)) = (0 : Int32) then p3 else p1)), .val (.int (if (p6 &&& (2 : Int32)) = (0 : Int32) then p4 else p2)), .val (.ref (if (p6 &&& (4 : Int32)) = (0 : Int32) then xw else xr)), .val (.ref (if (p6 &&& (8 : Int32)) = (0 : Int32) then xw else xr)), .val (.ref xr9), .val (.ref xr10), .unset, .unset, .unset, .unset, .unset, .unset, .unset] [(.long q5)])) ?_ (fun t k => XS.lload X10.here hx rfl (hb hby at_102) rfl k)
      refine Gen.on (b := T10.setTop (mkF m 113 #[.val (.int p1), .val (.int p2), .val (.int p3), .val (.int p4), .val (.long q5), .second, .val (.int p6), .val (.int (if (p6 &&& (1 : Int32)) = (0 : Int32) then p3 else p1)), .val (.int (if (p6 &&& (2 : Int32)) = (0 : Int32) then p4 else p2)), .val (.ref (if (p6 &&& (4 : Int32)) = (0 : Int32) then xw else xr)), .val (.ref (if (p6 &&& (8 : Int32)) = (0 : Int32) then xw else xr)), .val (.ref xr9), .val (.ref xr10), .unset, .unset, .unset, .unset, .unset, .unset, .unset] [(.long q5)])) ?_ (fun t k => XS.goto X10.here hx rfl (pc0 := 104) (pc' := 113) rfl (hb hby at_104) (by decide) (by decide) k)
      exact ⟨_, Steps.refl _, T10, X10, rfl, by simp only [if_neg c99_5]⟩
  refine Gen.on (b := T12.setTop (mkF m 113 #[.val (.int p1), .val (.int p2), .val (.int p3), .val (.int p4), .val (.long q5), .second, .val (.int p6), .val (.int (if (p6 &&& (1 : Int32)) = (0 : Int32) then p3 else p1)), .val (.int (if (p6 &&& (2 : Int32)) = (0 : Int32) then p4 else p2)), .val (.ref (if (p6 &&& (4 : Int32)) = (0 : Int32) then xw else xr)), .val (.ref (if (p6 &&& (8 : Int32)) = (0 : Int32) then xw else xr)), .val (.ref xr9), .val (.ref xr10), .unset, .unset, .unset, .unset, .unset, .unset, .unset] [(.long (if (p6 &&& (1048576 : Int32)) = (0 : Int32) then (q5 ^^^ (-1 : Int64)) else q5))])) ?_ (fun t k => st12.trans k)
  refine Gen.on (b := T12.setTop (mkF m 115 #[.val (.int p1), .val (.int p2), .val (.int p3), .val (.int p4), .val (.long q5), .second, .val (.int p6), .val (.int (if (p6 &&& (1 : Int32)) = (0 : Int32) then p3 else p1)), .val (.int (if (p6 &&& (2 : Int32)) = (0 : Int32) then p4 else p2)), .val (.ref (if (p6 &&& (4 : Int32)) = (0 : Int32) then xw else xr)), .val (.ref (if (p6 &&& (8 : Int32)) = (0 : Int32) then xw else xr)), .val (.ref xr9), .val (.ref xr10), .val (.long (if (p6 &&& (1048576 : Int32)) = (0 : Int32) then (q5 ^^^ (-1 : Int64)) else q5)), .second, .unset, .unset, .unset, .unset, .unset] [])) ?_ (fun t k => XS.lstore X12.here hx rfl (hb hby at_113) rfl (l' := #[.val (.int p1), .val (.int p2), .val (.int p3), .val (.int p4), .val (.long q5), .second, .val (.int p6), .val (.int (if (p6 &&& (1 : Int32)) = (0 : Int32) then p3 else p1)), .val (.int (if (p6 &&& (2 : Int32)) = (0 : Int32) then p4 else p2)), .val (.ref (if (p6 &&& (4 : Int32)) = (0 : Int32) then xw else xr)), .val (.ref (if (p6 &&& (8 : Int32)) = (0 : Int32) then xw else xr)), .val (.ref xr9), .val (.ref xr10), .val (.long (if (p6 &&& (1048576 : Int32)) = (0 : Int32) then (q5 ^^^ (-1 : Int64)) else q5)), .second, .unset, .unset, .unset, .unset, .unset]) rfl k)
  obtain ⟨b13, g13⟩ : ∃ z, z = T10.heap.size := ⟨_, rfl⟩
  have g_b13 : n0 ≤ b13 := Nat.le_trans Z10 (Nat.le_of_eq g13.symm)
  obtain ⟨T13, h13, X13, e13, E13, A13, D13, -, st13⟩ := newO X12 hx hZ hown (hw _ (List.mem_of_getElem? (i := 31) rfl)) (hw _ (List.mem_of_getElem? (i := 32) rfl)) (hw _ (List.mem_of_getElem? (i := 33) rfl)) e12 (g := (mkF m 115 #[.val (.int p1), .val (.int p2), .val (.int p3), .val (.int p4), .val (.long q5), .second, .val (.int p6), .val (.int (if (p6 &&& (1 : Int32)) = (0 : Int32) then p3 else p1)), .val (.int (if (p6 &&& (2 : Int32)) = (0 : Int32) then p4 else p2)), .val (.ref (if (p6 &&& (4 : Int32)) = (0 : Int32) then xw else xr)), .val (.ref (if (p6 &&& (8 : Int32)) = (0 : Int32) then xw else xr)), .val (.ref xr9), .val (.ref xr10), .val (.long (if (p6 &&& (1048576 : Int32)) = (0 : Int32) then (q5 ^^^ (-1 : Int64)) else q5)), .second, .unset, .unset, .unset, .unset, .unset] [])) rfl (hb hby at_115) (by decide) (by decide)
  rw [← g13] at A13 D13 st13
  have Z13 : n0 ≤ h13.size := Nat.le_trans Z10 E13.1
  have F13_index : Fld Z h13 b13 "com/example/epochwise/epochwise/trace/Event" "index" "J" (.long (0 : Int64)) := D13 (Or.inr (hw _ (List.mem_of_getElem? (i := 44) rfl))) (ty := .long) (by decide)
  have F13_thread : Fld Z h13 b13 "com/example/epochwise/epochwise/trace/Event" "thread" "I" (.int (0 : Int32)) := D13 (Or.inr (hw _ (List.mem_of_getElem? (i := 46) rfl))) (ty := .int) (by decide)
  have F13_op : Fld Z h13 b13 "com/example/epochwise/epochwise/trace/Event" "op" "Lcom/example/epochwise/epochwise/trace/Op;" .null := D13 (Or.inr (hw _ (List.mem_of_getElem? (i := 48) rfl))) (ty := (.object "com/example/epochwise/epochwise/trace/Op")) (by decide)
  have F13_operand : Fld Z h13 b13 "com/example/epochwise/epochwise/trace/Event" "operand" "I" (.int (0 : Int32)) := D13 (Or.inr (hw _ (List.mem_of_getElem? (i := 50) rfl))) (ty := .int) (by decide)
  have F13_loc : Fld Z h13 b13 "com/example/epochwise/epochwise/trace/Event" "loc" "Ljava/lang/String;" .null := D13 (Or.inr (hw _ (List.mem_of_getElem? (i := 52) rfl))) (ty := (.object "java/lang/String")) (by decide)
  refine Gen.on (b := T13.setTop (mkF m 118 #[.val (.int p1), .val (.int p2), .val (.int p3), .val (.int p4), .val (.long q5), .second, .val (.int p6), .val (.int (if (p6 &&& (1 : Int32)) = (0 : Int32) then p3 else p1)), .val (.int (if (p6 &&& (2 : Int32)) = (0 : Int32) then p4 else p2)), .val (.ref (if (p6 &&& (4 : Int32)) = (0 : Int32) then xw else xr)), .val (.ref (if (p6 &&& (8 : Int32)) = (0 : Int32) then xw else xr)), .val (.ref xr9), .val (.ref xr10), .val (.long (if (p6 &&& (1048576 : Int32)) = (0 : Int32) then (q5 ^^^ (-1 : Int64)) else q5)), .second, .unset, .unset, .unset, .unset, .unset] [(.ref b13)])) ?_ (fun t k => st13 t k)
  refine Gen.on (b := T13.setTop (mkF m 119 #[.val (.int p1), .val (.int p2), .val (.int p3), .val (.int p4), .val (.long q5), .second, .val (.int p6), .val (.int (if (p6 &&& (1 : Int32)) = (0 : Int32) then p3 else p1)), .val (.int (if (p6 &&& (2 : Int32)) = (0 : Int32) then p4 else p2)), .val (.ref (if (p6 &&& (4 : Int32)) = (0 : Int32) then xw else xr)), .val (.ref (if (p6 &&& (8 : Int32)) = (0 : Int32) then xw else xr)), .val (.ref xr9), .val (.ref xr10), .val (.long (if (p6 &&& (1048576 : Int32)) = (0 : Int32) then (q5 ^^^ (-1 : Int64)) else q5)), .second, .unset, .unset, .unset, .unset, .unset] [(.ref b13), (.ref b13)])) ?_ (fun t k => XS.dup X13.here hx rfl (hb hby at_118) rfl rfl k)
  refine Gen.on (b := T13.setTop (mkF m 121 #[.val (.int p1), .val (.int p2), .val (.int p3), .val (.int p4), .val (.long q5), .second, .val (.int p6), .val (.int (if (p6 &&& (1 : Int32)) = (0 : Int32) then p3 else p1)), .val (.int (if (p6 &&& (2 : Int32)) = (0 : Int32) then p4 else p2)), .val (.ref (if (p6 &&& (4 : Int32)) = (0 : Int32) then xw else xr)), .val (.ref (if (p6 &&& (8 : Int32)) = (0 : Int32) then xw else xr)), .val (.ref xr9), .val (.ref xr10), .val (.long (if (p6 &&& (1048576 : Int32)) = (0 : Int32) then (q5 ^^^ (-1 : Int64)) else q5)), .second, .unset, .unset, .unset, .unset, .unset] [(.long q5), (.ref b13), (.ref b13)])) ?_ (fun t k => XS.lload X13.here hx rfl (hb hby at_119) rfl k)
  refine Gen.on (b := T13.setTop (mkF m 122 #[.val (.int p1), .val (.int p2), .val (.int p3), .val (.int p4), .val (.long q5), .second, .val (.int p6), .val (.int (if (p6 &&& (1 : Int32)) = (0 : Int32) then p3 else p1)), .val (.int (if (p6 &&& (2 : Int32)) = (0 : Int32) then p4 else p2)), .val (.ref (if (p6 &&& (4 : Int32)) = (0 : Int32) then xw else xr)), .val (.ref (if (p6 &&& (8 : Int32)) = (0 : Int32) then xw else xr)), .val (.ref xr9), .val (.ref xr10), .val (.long (if (p6 &&& (1048576 : Int32)) = (0 : Int32) then (q5 ^^^ (-1 : Int64)) else q5)), .second, .unset, .unset, .unset, .unset, .unset] [(.int p1), (.long q5), (.ref b13), (.ref b13)])) ?_ (fun t k => XS.iloadN X13.here hx rfl (hb hby at_121) rfl k)
  refine Gen.on (b := T13.setTop (mkF m 124 #[.val (.int p1), .val (.int p2), .val (.int p3), .val (.int p4), .val (.long q5), .second, .val (.int p6), .val (.int (if (p6 &&& (1 : Int32)) = (0 : Int32) then p3 else p1)), .val (.int (if (p6 &&& (2 : Int32)) = (0 : Int32) then p4 else p2)), .val (.ref (if (p6 &&& (4 : Int32)) = (0 : Int32) then xw else xr)), .val (.ref (if (p6 &&& (8 : Int32)) = (0 : Int32) then xw else xr)), .val (.ref xr9), .val (.ref xr10), .val (.long (if (p6 &&& (1048576 : Int32)) = (0 : Int32) then (q5 ^^^ (-1 : Int64)) else q5)), .second, .unset, .unset, .unset, .unset, .unset] [(.ref (if (p6 &&& (4 : Int32)) = (0 : Int32) then xw else xr)), (.int p1), (.long q5), (.ref b13), (.ref b13)])) ?_ (fun t k => XS.aload X13.here hx rfl (hb hby at_122) rfl rfl k)
  refine Gen.on (b := T13.setTop (mkF m 126 #[.val (.int p1), .val (.int p2), .val (.int p3), .val (.int p4), .val (.long q5), .second, .val (.int p6), .val (.int (if (p6 &&& (1 : Int32)) = (0 : Int32) then p3 else p1)), .val (.int (if (p6 &&& (2 : Int32)) = (0 : Int32) then p4 else p2)), .val (.ref (if (p6 &&& (4 : Int32)) = (0 : Int32) then xw else xr)), .val (.ref (if (p6 &&& (8 : Int32)) = (0 : Int32) then xw else xr)), .val (.ref xr9), .val (.ref xr10), .val (.long (if (p6 &&& (1048576 : Int32)) = (0 : Int32) then (q5 ^^^ (-1 : Int64)) else q5)), .second, .unset, .unset, .unset, .unset, .unset] [(.int p6), (.ref (if (p6 &&& (4 : Int32)) = (0 : Int32) then xw else xr)), (.int p1), (.long q5), (.ref b13), (.ref b13)])) ?_ (fun t k => XS.iload X13.here hx rfl (hb hby at_124) rfl k)
  refine Gen.on (b := T13.setTop (mkF m 128 #[.val (.int p1), .val (.int p2), .val (.int p3), .val (.int p4), .val (.long q5), .second, .val (.int p6), .val (.int (if (p6 &&& (1 : Int32)) = (0 : Int32) then p3 else p1)), .val (.int (if (p6 &&& (2 : Int32)) = (0 : Int32) then p4 else p2)), .val (.ref (if (p6 &&& (4 : Int32)) = (0 : Int32) then xw else xr)), .val (.ref (if (p6 &&& (8 : Int32)) = (0 : Int32) then xw else xr)), .val (.ref xr9), .val (.ref xr10), .val (.long (if (p6 &&& (1048576 : Int32)) = (0 : Int32) then (q5 ^^^ (-1 : Int64)) else q5)), .second, .unset, .unset, .unset, .unset, .unset] [(.ref xr9), (.int p6), (.ref (if (p6 &&& (4 : Int32)) = (0 : Int32) then xw else xr)), (.int p1), (.long q5), (.ref b13), (.ref b13)])) ?_ (fun t k => XS.aload X13.here hx rfl (hb hby at_126) rfl rfl k)
  obtain ⟨_, _, ⟨T14, L14, k14, n14⟩, -, X14, ⟨Lc14, hQ14, l14, y14, z14⟩, st14⟩ := X13.specialBack hx (y := (⟨"com/example/epochwise/epochwise/trace/Event", "<init>", "(JILcom/example/epochwise/epochwise/trace/Op;ILjava/lang/String;)V"⟩ : MethodName)) rfl hown (mvT hZ (hw _ (List.mem_of_getElem? (i := 34) rfl))) (mvT hZ (hw _ (List.mem_of_getElem? (i := 35) rfl))) (mvT hZ (hw _ (List.mem_of_getElem? (i := 36) rfl))) (by decide) (backOf (W := 1) (rm6 l Z a0 hw [] b13 q5 p1 (if (p6 &&& (4 : Int32)) = (0 : Int32) then xw else xr) p6 xr9 (.long (0 : Int64)) (.int (0 : Int32)) .null (.int (0 : Int32)) .null h13 n0 Z13 A13 F13_index F13_thread F13_op F13_operand F13_loc g_b13) hZ (hw _ (List.mem_of_getElem? (i := 36) rfl)) (hw _ (List.mem_of_getElem? (i := 33) rfl)) (by decide) (by decide)) (g := (mkF m 128 #[.val (.int p1), .val (.int p2), .val (.int p3), .val (.int p4), .val (.long q5), .second, .val (.int p6), .val (.int (if (p6 &&& (1 : Int32)) = (0 : Int32) then p3 else p1)), .val (.int (if (p6 &&& (2 : Int32)) = (0 : Int32) then p4 else p2)), .val (.ref (if (p6 &&& (4 : Int32)) = (0 : Int32) then xw else xr)), .val (.ref (if (p6 &&& (8 : Int32)) = (0 : Int32) then xw else xr)), .val (.ref xr9), .val (.ref xr10), .val (.long (if (p6 &&& (1048576 : Int32)) = (0 : Int32) then (q5 ^^^ (-1 : Int64)) else q5)), .second, .unset, .unset, .unset, .unset, .unset] [(.ref xr9), (.int p6), (.ref (if (p6 &&& (4 : Int32)) = (0 : Int32) then xw else xr)), (.int p1), (.long q5), (.ref b13), (.ref b13)])) rfl (by rw [hml]; rfl) (Steps.refl _) (a := b13) (argsL := [(.long q5), (.int p1), (.ref (if (p6 &&& (4 : Int32)) = (0 : Int32) then xw else xr)), (.int p6), (.ref xr9)]) (rest := [(.ref b13)]) (lenOf pd_0_1 rfl) rfl (by show 2 * 0 + _ ≤ _; exact Nat.le_of_eq rfl) (hb hby at_128) (fun _ _ => ⟨rfl, e13, (by decide : 5 + 0 ≤ _), (by decide : 15 + 0 ≤ _)⟩)
  dsimp only [Pt.U, Pt.locs, Pt.cells, Pt.slots] at X14 l14 y14 z14 st14 hQ14
  subst l14 y14 z14
  obtain ⟨rfl, N14q, Kc14, hf14_0, hf14_1⟩ := hQ14
  have N14 := Fr.app N10 N14q
  have Z14 : n0 ≤ T14.heap.size := Nat.le_trans Z13 Kc14.1
  refine Gen.on (b := T14.setTop (mkF m 131 #[.val (.int p1), .val (.int p2), .val (.int p3), .val (.int p4), .val (.long q5), .second, .val (.int p6), .val (.int (if (p6 &&& (1 : Int32)) = (0 : Int32) then p3 else p1)), .val (.int (if (p6 &&& (2 : Int32)) = (0 : Int32) then p4 else p2)), .val (.ref (if (p6 &&& (4 : Int32)) = (0 : Int32) then xw else xr)), .val (.ref (if (p6 &&& (8 : Int32)) = (0 : Int32) then xw else xr)), .val (.ref xr9), .val (.ref xr10), .val (.long (if (p6 &&& (1048576 : Int32)) = (0 : Int32) then (q5 ^^^ (-1 : Int64)) else q5)), .second, .unset, .unset, .unset, .unset, .unset] [(.ref b13)])) ?_ (fun t k => st14.trans k)
  refine Gen.on (b := T14.setTop (mkF m 133 #[.val (.int p1), .val (.int p2), .val (.int p3), .val (.int p4), .val (.long q5), .second, .val (.int p6), .val (.int (if (p6 &&& (1 : Int32)) = (0 : Int32) then p3 else p1)), .val (.int (if (p6 &&& (2 : Int32)) = (0 : Int32) then p4 else p2)), .val (.ref (if (p6 &&& (4 : Int32)) = (0 : Int32) then xw else xr)), .val (.ref (if (p6 &&& (8 : Int32)) = (0 : Int32) then xw else xr)), .val (.ref xr9), .val (.ref xr10), .val (.long (if (p6 &&& (1048576 : Int32)) = (0 : Int32) then (q5 ^^^ (-1 : Int64)) else q5)), .second, .val (.ref b13), .unset, .unset, .unset, .unset] [])) ?_ (fun t k => XS.astore X14.here hx rfl (hb hby at_131) rfl rfl (l' := #[.val (.int p1), .val (.int p2), .val (.int p3), .val (.int p4), .val (.long q5), .second, .val (.int p6), .val (.int (if (p6 &&& (1 : Int32)) = (0 : Int32) then p3 else p1)), .val (.int (if (p6 &&& (2 : Int32)) = (0 : Int32) then p4 else p2)), .val (.ref (if (p6 &&& (4 : Int32)) = (0 : Int32) then xw else xr)), .val (.ref (if (p6 &&& (8 : Int32)) = (0 : Int32) then xw else xr)), .val (.ref xr9), .val (.ref xr10), .val (.long (if (p6 &&& (1048576 : Int32)) = (0 : Int32) then (q5 ^^^ (-1 : Int64)) else q5)), .second, .val (.ref b13), .unset, .unset, .unset, .unset]) rfl k)
  obtain ⟨b15, g15⟩ : ∃ z, z = T14.heap.size := ⟨_, rfl⟩
  have ne_b13_b15 : b13 ≠ b15 := Nat.ne_of_lt (Nat.lt_of_lt_of_le hf14_0.lt (Nat.le_of_eq g15.symm))
  have g_b15 : n0 ≤ b15 := Nat.le_trans Z14 (Nat.le_of_eq g15.symm)
  obtain ⟨T15, h15, X15, e15, E15, A15, D15, -, st15⟩ := newO X14 hx hZ hown (hw _ (List.mem_of_getElem? (i := 31) rfl)) (hw _ (List.mem_of_getElem? (i := 32) rfl)) (hw _ (List.mem_of_getElem? (i := 33) rfl)) rfl (g := (mkF m 133 #[.val (.int p1), .val (.int p2), .val (.int p3), .val (.int p4), .val (.long q5), .second, .val (.int p6), .val (.int (if (p6 &&& (1 : Int32)) = (0 : Int32) then p3 else p1)), .val (.int (if (p6 &&& (2 : Int32)) = (0 : Int32) then p4 else p2)), .val (.ref (if (p6 &&& (4 : Int32)) = (0 : Int32) then xw else xr)), .val (.ref (if (p6 &&& (8 : Int32)) = (0 : Int32) then xw else xr)), .val (.ref xr9), .val (.ref xr10), .val (.long (if (p6 &&& (1048576 : Int32)) = (0 : Int32) then (q5 ^^^ (-1 : Int64)) else q5)), .second, .val (.ref b13), .unset, .unset, .unset, .unset] [])) rfl (hb hby at_133) (by decide) (by decide)
  rw [← g15] at A15 D15 st15
  have Z15 : n0 ≤ h15.size := Nat.le_trans Z14 E15.1
  have F15_index : Fld Z h15 b15 "com/example/epochwise/epochwise/trace/Event" "index" "J" (.long (0 : Int64)) := D15 (Or.inr (hw _ (List.mem_of_getElem? (i := 44) rfl))) (ty := .long) (by decide)
  have F15_thread : Fld Z h15 b15 "com/example/epochwise/epochwise/trace/Event" "thread" "I" (.int (0 : Int32)) := D15 (Or.inr (hw _ (List.mem_of_getElem? (i := 46) rfl))) (ty := .int) (by decide)
  have F15_op : Fld Z h15 b15 "com/example/epochwise/epochwise/trace/Event" "op" "Lcom/example/epochwise/epochwise/trace/Op;" .null := D15 (Or.inr (hw _ (List.mem_of_getElem? (i := 48) rfl))) (ty := (.object "com/example/epochwise/epochwise/trace/Op")) (by decide)
  have F15_operand : Fld Z h15 b15 "com/example/epochwise/epochwise/trace/Event" "operand" "I" (.int (0 : Int32)) := D15 (Or.inr (hw _ (List.mem_of_getElem? (i := 50) rfl))) (ty := .int) (by decide)
  have F15_loc : Fld Z h15 b15 "com/example/epochwise/epochwise/trace/Event" "loc" "Ljava/lang/String;" .null := D15 (Or.inr (hw _ (List.mem_of_getElem? (i := 52) rfl))) (ty := (.object "java/lang/String")) (by decide)
  refine Gen.on (b := T15.setTop (mkF m 136 #[.val (.int p1), .val (.int p2), .val (.int p3), .val (.int p4), .val (.long q5), .second, .val (.int p6), .val (.int (if (p6 &&& (1 : Int32)) = (0 : Int32) then p3 else p1)), .val (.int (if (p6 &&& (2 : Int32)) = (0 : Int32) then p4 else p2)), .val (.ref (if (p6 &&& (4 : Int32)) = (0 : Int32) then xw else xr)), .val (.ref (if (p6 &&& (8 : Int32)) = (0 : Int32) then xw else xr)), .val (.ref xr9), .val (.ref xr10), .val (.long (if (p6 &&& (1048576 : Int32)) = (0 : Int32) then (q5 ^^^ (-1 : Int64)) else q5)), .second, .val (.ref b13), .unset, .unset, .unset, .unset] [(.ref b15)])) ?_ (fun t k => st15 t k)
  refine Gen.on (b := T15.setTop (mkF m 137 #[.val (.int p1), .val (.int p2), .val (.int p3), .val (.int p4), .val (.long q5), .second, .val (.int p6), .val (.int (if (p6 &&& (1 : Int32)) = (0 : Int32) then p3 else p1)), .val (.int (if (p6 &&& (2 : Int32)) = (0 : Int32) then p4 else p2)), .val (.ref (if (p6 &&& (4 : Int32)) = (0 : Int32) then xw else xr)), .val (.ref (if (p6 &&& (8 : Int32)) = (0 : Int32) then xw else xr)), .val (.ref xr9), .val (.ref xr10), .val (.long (if (p6 &&& (1048576 : Int32)) = (0 : Int32) then (q5 ^^^ (-1 : Int64)) else q5)), .second, .val (.ref b13), .unset, .unset, .unset, .unset] [(.ref b15), (.ref b15)])) ?_ (fun t k => XS.dup X15.here hx rfl (hb hby at_136) rfl rfl k)
  refine Gen.on (b := T15.setTop (mkF m 139 #[.val (.int p1), .val (.int p2), .val (.int p3), .val (.int p4), .val (.long q5), .second, .val (.int p6), .val (.int (if (p6 &&& (1 : Int32)) = (0 : Int32) then p3 else p1)), .val (.int (if (p6 &&& (2 : Int32)) = (0 : Int32) then p4 else p2)), .val (.ref (if (p6 &&& (4 : Int32)) = (0 : Int32) then xw else xr)), .val (.ref (if (p6 &&& (8 : Int32)) = (0 : Int32) then xw else xr)), .val (.ref xr9), .val (.ref xr10), .val (.long (if (p6 &&& (1048576 : Int32)) = (0 : Int32) then (q5 ^^^ (-1 : Int64)) else q5)), .second, .val (.ref b13), .unset, .unset, .unset, .unset] [(.long (if (p6 &&& (1048576 : Int32)) = (0 : Int32) then (q5 ^^^ (-1 : Int64)) else q5)), (.ref b15), (.ref b15)])) ?_ (fun t k => XS.lload X15.here hx rfl (hb hby at_137) rfl k)
  refine Gen.on (b := T15.setTop (mkF m 141 #[.val (.int p1), .val (.int p2), .val (.int p3), .val (.int p4), .val (.long q5), .second, .val (.int p6), .val (.int (if (p6 &&& (1 : Int32)) = (0 : Int32) then p3 else p1)), .val (.int (if (p6 &&& (2 : Int32)) = (0 : Int32) then p4 else p2)), .val (.ref (if (p6 &&& (4 : Int32)) = (0 : Int32) then xw else xr)), .val (.ref (if (p6 &&& (8 : Int32)) = (0 : Int32) then xw else xr)), .val (.ref xr9), .val (.ref xr10), .val (.long (if (p6 &&& (1048576 : Int32)) = (0 : Int32) then (q5 ^^^ (-1 : Int64)) else q5)), .second, .val (.ref b13), .unset, .unset, .unset, .unset] [(.int (if (p6 &&& (1 : Int32)) = (0 : Int32) then p3 else p1)), (.long (if (p6 &&& (1048576 : Int32)) = (0 : Int32) then (q5 ^^^ (-1 : Int64)) else q5)), (.ref b15), (.ref b15)])) ?_ (fun t k => XS.iload X15.here hx rfl (hb hby at_139) rfl k)
  refine Gen.on (b := T15.setTop (mkF m 143 #[.val (.int p1), .val (.int p2), .val (.int p3), .val (.int p4), .val (.long q5), .second, .val (.int p6), .val (.int (if (p6 &&& (1 : Int32)) = (0 : Int32) then p3 else p1)), .val (.int (if (p6 &&& (2 : Int32)) = (0 : Int32) then p4 else p2)), .val (.ref (if (p6 &&& (4 : Int32)) = (0 : Int32) then xw else xr)), .val (.ref (if (p6 &&& (8 : Int32)) = (0 : Int32) then xw else xr)), .val (.ref xr9), .val (.ref xr10), .val (.long (if (p6 &&& (1048576 : Int32)) = (0 : Int32) then (q5 ^^^ (-1 : Int64)) else q5)), .second, .val (.ref b13), .unset, .unset, .unset, .unset] [(.ref (if (p6 &&& (8 : Int32)) = (0 : Int32) then xw else xr)), (.int (if (p6 &&& (1 : Int32)) = (0 : Int32) then p3 else p1)), (.long (if (p6 &&& (1048576 : Int32)) = (0 : Int32) then (q5 ^^^ (-1 : Int64)) else q5)), (.ref b15), (.ref b15)])) ?_ (fun t k => XS.aload X15.here hx rfl (hb hby at_141) rfl rfl k)
  refine Gen.on (b := T15.setTop (mkF m 144 #[.val (.int p1), .val (.int p2), .val (.int p3), .val (.int p4), .val (.long q5), .second, .val (.int p6), .val (.int (if (p6 &&& (1 : Int32)) = (0 : Int32) then p3 else p1)), .val (.int (if (p6 &&& (2 : Int32)) = (0 : Int32) then p4 else p2)), .val (.ref (if (p6 &&& (4 : Int32)) = (0 : Int32) then xw else xr)), .val (.ref (if (p6 &&& (8 : Int32)) = (0 : Int32) then xw else xr)), .val (.ref xr9), .val (.ref xr10), .val (.long (if (p6 &&& (1048576 : Int32)) = (0 : Int32) then (q5 ^^^ (-1 : Int64)) else q5)), .second, .val (.ref b13), .unset, .unset, .unset, .unset] [(.int p4), (.ref (if (p6 &&& (8 : Int32)) = (0 : Int32) then xw else xr)), (.int (if (p6 &&& (1 : Int32)) = (0 : Int32) then p3 else p1)), (.long (if (p6 &&& (1048576 : Int32)) = (0 : Int32) then (q5 ^^^ (-1 : Int64)) else q5)), (.ref b15), (.ref b15)])) ?_ (fun t k => XS.iloadN X15.here hx rfl (hb hby at_143) rfl k)
  refine Gen.on (b := T15.setTop (mkF m 146 #[.val (.int p1), .val (.int p2), .val (.int p3), .val (.int p4), .val (.long q5), .second, .val (.int p6), .val (.int (if (p6 &&& (1 : Int32)) = (0 : Int32) then p3 else p1)), .val (.int (if (p6 &&& (2 : Int32)) = (0 : Int32) then p4 else p2)), .val (.ref (if (p6 &&& (4 : Int32)) = (0 : Int32) then xw else xr)), .val (.ref (if (p6 &&& (8 : Int32)) = (0 : Int32) then xw else xr)), .val (.ref xr9), .val (.ref xr10), .val (.long (if (p6 &&& (1048576 : Int32)) = (0 : Int32) then (q5 ^^^ (-1 : Int64)) else q5)), .second, .val (.ref b13), .unset, .unset, .unset, .unset] [(.ref xr10), (.int p4), (.ref (if (p6 &&& (8 : Int32)) = (0 : Int32) then xw else xr)), (.int (if (p6 &&& (1 : Int32)) = (0 : Int32) then p3 else p1)), (.long (if (p6 &&& (1048576 : Int32)) = (0 : Int32) then (q5 ^^^ (-1 : Int64)) else q5)), (.ref b15), (.ref b15)])) ?_ (fun t k => XS.aload X15.here hx rfl (hb hby at_144) rfl rfl k)
  obtain ⟨_, _, ⟨T16, L16, k16, n16⟩, -, X16, ⟨Lc16, hQ16, l16, y16, z16⟩, st16⟩ := X15.specialBack hx (y := (⟨"com/example/epochwise/epochwise/trace/Event", "<init>", "(JILcom/example/epochwise/epochwise/trace/Op;ILjava/lang/String;)V"⟩ : MethodName)) rfl hown (mvT hZ (hw _ (List.mem_of_getElem? (i := 34) rfl))) (mvT hZ (hw _ (List.mem_of_getElem? (i := 35) rfl))) (mvT hZ (hw _ (List.mem_of_getElem? (i := 36) rfl))) (by decide) (backOf (W := 1) (rm6 l Z a0 hw [] b15 (if (p6 &&& (1048576 : Int32)) = (0 : Int32) then (q5 ^^^ (-1 : Int64)) else q5) (if (p6 &&& (1 : Int32)) = (0 : Int32) then p3 else p1) (if (p6 &&& (8 : Int32)) = (0 : Int32) then xw else xr) p4 xr10 (.long (0 : Int64)) (.int (0 : Int32)) .null (.int (0 : Int32)) .null h15 n0 Z15 A15 F15_index F15_thread F15_op F15_operand F15_loc g_b15) hZ (hw _ (List.mem_of_getElem? (i := 36) rfl)) (hw _ (List.mem_of_getElem? (i := 33) rfl)) (by decide) (by decide)) (g := (mkF m 146 #[.val (.int p1), .val (.int p2), .val (.int p3), .val (.int p4), .val (.long q5), .second, .val (.int p6), .val (.int (if (p6 &&& (1 : Int32)) = (0 : Int32) then p3 else p1)), .val (.int (if (p6 &&& (2 : Int32)) = (0 : Int32) then p4 else p2)), .val (.ref (if (p6 &&& (4 : Int32)) = (0 : Int32) then xw else xr)), .val (.ref (if (p6 &&& (8 : Int32)) = (0 : Int32) then xw else xr)), .val (.ref xr9), .val (.ref xr10), .val (.long (if (p6 &&& (1048576 : Int32)) = (0 : Int32) then (q5 ^^^ (-1 : Int64)) else q5)), .second, .val (.ref b13), .unset, .unset, .unset, .unset] [(.ref xr10), (.int p4), (.ref (if (p6 &&& (8 : Int32)) = (0 : Int32) then xw else xr)), (.int (if (p6 &&& (1 : Int32)) = (0 : Int32) then p3 else p1)), (.long (if (p6 &&& (1048576 : Int32)) = (0 : Int32) then (q5 ^^^ (-1 : Int64)) else q5)), (.ref b15), (.ref b15)])) rfl (by rw [hml]; rfl) (Steps.refl _) (a := b15) (argsL := [(.long (if (p6 &&& (1048576 : Int32)) = (0 : Int32) then (q5 ^^^ (-1 : Int64)) else q5)), (.int (if (p6 &&& (1 : Int32)) = (0 : Int32) then p3 else p1)), (.ref (if (p6 &&& (8 : Int32)) = (0 : Int32) then xw else xr)), (.int p4), (.ref xr10)]) (rest := [(.ref b15)]) (lenOf pd_0_1 rfl) rfl (by show 2 * 0 + _ ≤ _; exact Nat.le_of_eq rfl) (hb hby at_146) (fun _ _ => ⟨rfl, e15, (by decide : 6 + 0 ≤ _), (by decide : 20 + 0 ≤ _)⟩)
  dsimp only [Pt.U, Pt.locs, Pt.cells, Pt.slots] at X16 l16 y16 z16 st16 hQ16
  subst l16 y16 z16
  obtain ⟨rfl, N16q, Kc16, hf16_0, hf16_1⟩ := hQ16
  have N16 := Fr.app N14 N16q
  have Z16 : n0 ≤ T16.heap.size := Nat.le_trans Z15 Kc16.1
  refine Gen.on (b := T16.setTop (mkF m 149 #[.val (.int p1), .val (.int p2), .val (.int p3), .val (.int p4), .val (.long q5), .second, .val (.int p6), .val (.int (if (p6 &&& (1 : Int32)) = (0 : Int32) then p3 else p1)), .val (.int (if (p6 &&& (2 : Int32)) = (0 : Int32) then p4 else p2)), .val (.ref (if (p6 &&& (4 : Int32)) = (0 : Int32) then xw else xr)), .val (.ref (if (p6 &&& (8 : Int32)) = (0 : Int32) then xw else xr)), .val (.ref xr9), .val (.ref xr10), .val (.long (if (p6 &&& (1048576 : Int32)) = (0 : Int32) then (q5 ^^^ (-1 : Int64)) else q5)), .second, .val (.ref b13), .unset, .unset, .unset, .unset] [(.ref b15)])) ?_ (fun t k => st16.trans k)
  refine Gen.on (b := T16.setTop (mkF m 151 #[.val (.int p1), .val (.int p2), .val (.int p3), .val (.int p4), .val (.long q5), .second, .val (.int p6), .val (.int (if (p6 &&& (1 : Int32)) = (0 : Int32) then p3 else p1)), .val (.int (if (p6 &&& (2 : Int32)) = (0 : Int32) then p4 else p2)), .val (.ref (if (p6 &&& (4 : Int32)) = (0 : Int32) then xw else xr)), .val (.ref (if (p6 &&& (8 : Int32)) = (0 : Int32) then xw else xr)), .val (.ref xr9), .val (.ref xr10), .val (.long (if (p6 &&& (1048576 : Int32)) = (0 : Int32) then (q5 ^^^ (-1 : Int64)) else q5)), .second, .val (.ref b13), .val (.ref b15), .unset, .unset, .unset] [])) ?_ (fun t k => XS.astore X16.here hx rfl (hb hby at_149) rfl rfl (l' := #[.val (.int p1), .val (.int p2), .val (.int p3), .val (.int p4), .val (.long q5), .second, .val (.int p6), .val (.int (if (p6 &&& (1 : Int32)) = (0 : Int32) then p3 else p1)), .val (.int (if (p6 &&& (2 : Int32)) = (0 : Int32) then p4 else p2)), .val (.ref (if (p6 &&& (4 : Int32)) = (0 : Int32) then xw else xr)), .val (.ref (if (p6 &&& (8 : Int32)) = (0 : Int32) then xw else xr)), .val (.ref xr9), .val (.ref xr10), .val (.long (if (p6 &&& (1048576 : Int32)) = (0 : Int32) then (q5 ^^^ (-1 : Int64)) else q5)), .second, .val (.ref b13), .val (.ref b15), .unset, .unset, .unset]) rfl k)
  have fa18 := ((hf14_0.ext E15).keep Kc16)
  obtain ⟨b17, g17⟩ : ∃ z, z = T16.heap.size := ⟨_, rfl⟩
  have ne_b13_b17 : b13 ≠ b17 := Nat.ne_of_lt (Nat.lt_of_lt_of_le fa18.lt (Nat.le_of_eq g17.symm))
  have ne_b15_b17 : b15 ≠ b17 := Nat.ne_of_lt (Nat.lt_of_lt_of_le hf16_0.lt (Nat.le_of_eq g17.symm))
  have g_b17 : n0 ≤ b17 := Nat.le_trans Z16 (Nat.le_of_eq g17.symm)
  obtain ⟨T17, h17, X17, e17, E17, A17, D17, -, st17⟩ := newO X16 hx hZ hown (hw _ (List.mem_of_getElem? (i := 53) rfl)) (hw _ (List.mem_of_getElem? (i := 54) rfl)) (hw _ (List.mem_of_getElem? (i := 55) rfl)) rfl (g := (mkF m 151 #[.val (.int p1), .val (.int p2), .val (.int p3), .val (.int p4), .val (.long q5), .second, .val (.int p6), .val (.int (if (p6 &&& (1 : Int32)) = (0 : Int32) then p3 else p1)), .val (.int (if (p6 &&& (2 : Int32)) = (0 : Int32) then p4 else p2)), .val (.ref (if (p6 &&& (4 : Int32)) = (0 : Int32) then xw else xr)), .val (.ref (if (p6 &&& (8 : Int32)) = (0 : Int32) then xw else xr)), .val (.ref xr9), .val (.ref xr10), .val (.long (if (p6 &&& (1048576 : Int32)) = (0 : Int32) then (q5 ^^^ (-1 : Int64)) else q5)), .second, .val (.ref b13), .val (.ref b15), .unset, .unset, .unset] [])) rfl (hb hby at_151) (by decide) (by decide)
  rw [← g17] at A17 D17 st17
  have Z17 : n0 ≤ h17.size := Nat.le_trans Z16 E17.1
  have F17_event : Fld Z h17 b17 "com/example/epochwise/epochwise/race/Witness" "event" "Lcom/example/epochwise/epochwise/trace/Event;" .null := D17 (Or.inr (hw _ (List.mem_of_getElem? (i := 61) rfl))) (ty := (.object "com/example/epochwise/epochwise/trace/Event")) (by decide)
  have F17_clock : Fld Z h17 b17 "com/example/epochwise/epochwise/race/Witness" "clock" "I" (.int (0 : Int32)) := D17 (Or.inr (hw _ (List.mem_of_getElem? (i := 63) rfl))) (ty := .int) (by decide)
  refine Gen.on (b := T17.setTop (mkF m 154 #[.val (.int p1), .val (.int p2), .val (.int p3), .val (.int p4), .val (.long q5), .second, .val (.int p6), .val (.int (if (p6 &&& (1 : Int32)) = (0 : Int32) then p3 else p1)), .val (.int (if (p6 &&& (2 : Int32)) = (0 : Int32) then p4 else p2)), .val (.ref (if (p6 &&& (4 : Int32)) = (0 : Int32) then xw else xr)), .val (.ref (if (p6 &&& (8 : Int32)) = (0 : Int32) then xw else xr)), .val (.ref xr9), .val (.ref xr10), .val (.long (if (p6 &&& (1048576 : Int32)) = (0 : Int32) then (q5 ^^^ (-1 : Int64)) else q5)), .second, .val (.ref b13), .val (.ref b15), .unset, .unset, .unset] [(.ref b17)])) ?_ (fun t k => st17 t k)
  refine Gen.on (b := T17.setTop (mkF m 155 #[.val (.int p1), .val (.int p2), .val (.int p3), .val (.int p4), .val (.long q5), .second, .val (.int p6), .val (.int (if (p6 &&& (1 : Int32)) = (0 : Int32) then p3 else p1)), .val (.int (if (p6 &&& (2 : Int32)) = (0 : Int32) then p4 else p2)), .val (.ref (if (p6 &&& (4 : Int32)) = (0 : Int32) then xw else xr)), .val (.ref (if (p6 &&& (8 : Int32)) = (0 : Int32) then xw else xr)), .val (.ref xr9), .val (.ref xr10), .val (.long (if (p6 &&& (1048576 : Int32)) = (0 : Int32) then (q5 ^^^ (-1 : Int64)) else q5)), .second, .val (.ref b13), .val (.ref b15), .unset, .unset, .unset] [(.ref b17), (.ref b17)])) ?_ (fun t k => XS.dup X17.here hx rfl (hb hby at_154) rfl rfl k)
  refine Gen.on (b := T17.setTop (mkF m 157 #[.val (.int p1), .val (.int p2), .val (.int p3), .val (.int p4), .val (.long q5), .second, .val (.int p6), .val (.int (if (p6 &&& (1 : Int32)) = (0 : Int32) then p3 else p1)), .val (.int (if (p6 &&& (2 : Int32)) = (0 : Int32) then p4 else p2)), .val (.ref (if (p6 &&& (4 : Int32)) = (0 : Int32) then xw else xr)), .val (.ref (if (p6 &&& (8 : Int32)) = (0 : Int32) then xw else xr)), .val (.ref xr9), .val (.ref xr10), .val (.long (if (p6 &&& (1048576 : Int32)) = (0 : Int32) then (q5 ^^^ (-1 : Int64)) else q5)), .second, .val (.ref b13), .val (.ref b15), .unset, .unset, .unset] [(.ref b13), (.ref b17), (.ref b17)])) ?_ (fun t k => XS.aload X17.here hx rfl (hb hby at_155) rfl rfl k)
  refine Gen.on (b := T17.setTop (mkF m 158 #[.val (.int p1), .val (.int p2), .val (.int p3), .val (.int p4), .val (.long q5), .second, .val (.int p6), .val (.int (if (p6 &&& (1 : Int32)) = (0 : Int32) then p3 else p1)), .val (.int (if (p6 &&& (2 : Int32)) = (0 : Int32) then p4 else p2)), .val (.ref (if (p6 &&& (4 : Int32)) = (0 : Int32) then xw else xr)), .val (.ref (if (p6 &&& (8 : Int32)) = (0 : Int32) then xw else xr)), .val (.ref xr9), .val (.ref xr10), .val (.long (if (p6 &&& (1048576 : Int32)) = (0 : Int32) then (q5 ^^^ (-1 : Int64)) else q5)), .second, .val (.ref b13), .val (.ref b15), .unset, .unset, .unset] [(.int p2), (.ref b13), (.ref b17), (.ref b17)])) ?_ (fun t k => XS.iloadN X17.here hx rfl (hb hby at_157) rfl k)
  obtain ⟨_, _, ⟨T19, L19, k19, n19⟩, -, X19, ⟨Lc19, hQ19, l19, y19, z19⟩, st19⟩ := X17.specialBack hx (y := (⟨"com/example/epochwise/epochwise/race/Witness", "<init>", "(Lcom/example/epochwise/epochwise/trace/Event;I)V"⟩ : MethodName)) rfl hown (mvT hZ (hw _ (List.mem_of_getElem? (i := 56) rfl))) (mvT hZ (hw _ (List.mem_of_getElem? (i := 57) rfl))) (mvT hZ (hw _ (List.mem_of_getElem? (i := 58) rfl))) (by decide) (backOf (W := 1) (rm8 l Z a0 hw [] b17 b13 p2 .null (.int (0 : Int32)) h17 n0 Z17 A17 F17_event F17_clock g_b17) hZ (hw _ (List.mem_of_getElem? (i := 58) rfl)) (hw _ (List.mem_of_getElem? (i := 55) rfl)) (by decide) (by decide)) (g := (mkF m 158 #[.val (.int p1), .val (.int p2), .val (.int p3), .val (.int p4), .val (.long q5), .second, .val (.int p6), .val (.int (if (p6 &&& (1 : Int32)) = (0 : Int32) then p3 else p1)), .val (.int (if (p6 &&& (2 : Int32)) = (0 : Int32) then p4 else p2)), .val (.ref (if (p6 &&& (4 : Int32)) = (0 : Int32) then xw else xr)), .val (.ref (if (p6 &&& (8 : Int32)) = (0 : Int32) then xw else xr)), .val (.ref xr9), .val (.ref xr10), .val (.long (if (p6 &&& (1048576 : Int32)) = (0 : Int32) then (q5 ^^^ (-1 : Int64)) else q5)), .second, .val (.ref b13), .val (.ref b15), .unset, .unset, .unset] [(.int p2), (.ref b13), (.ref b17), (.ref b17)])) rfl (by rw [hml]; rfl) (Steps.refl _) (a := b17) (argsL := [(.ref b13), (.int p2)]) (rest := [(.ref b17)]) (lenOf pd_0_2 rfl) rfl (by show 2 * 0 + _ ≤ _; exact Nat.le_of_eq rfl) (hb hby at_158) (fun _ _ => ⟨rfl, e17, (by decide : 7 + 0 ≤ _), (by decide : 22 + 0 ≤ _)⟩)
  dsimp only [Pt.U, Pt.locs, Pt.cells, Pt.slots] at X19 l19 y19 z19 st19 hQ19
  subst l19 y19 z19
  obtain ⟨rfl, N19q, Kc19, hf19_0, hf19_1, hf19_2⟩ := hQ19
  have N19 := Fr.app N16 N19q
  have Z19 : n0 ≤ T19.heap.size := Nat.le_trans Z17 Kc19.1
  refine Gen.on (b := T19.setTop (mkF m 161 #[.val (.int p1), .val (.int p2), .val (.int p3), .val (.int p4), .val (.long q5), .second, .val (.int p6), .val (.int (if (p6 &&& (1 : Int32)) = (0 : Int32) then p3 else p1)), .val (.int (if (p6 &&& (2 : Int32)) = (0 : Int32) then p4 else p2)), .val (.ref (if (p6 &&& (4 : Int32)) = (0 : Int32) then xw else xr)), .val (.ref (if (p6 &&& (8 : Int32)) = (0 : Int32) then xw else xr)), .val (.ref xr9), .val (.ref xr10), .val (.long (if (p6 &&& (1048576 : Int32)) = (0 : Int32) then (q5 ^^^ (-1 : Int64)) else q5)), .second, .val (.ref b13), .val (.ref b15), .unset, .unset, .unset] [(.ref b17)])) ?_ (fun t k => st19.trans k)
  refine Gen.on (b := T19.setTop (mkF m 163 #[.val (.int p1), .val (.int p2), .val (.int p3), .val (.int p4), .val (.long q5), .second, .val (.int p6), .val (.int (if (p6 &&& (1 : Int32)) = (0 : Int32) then p3 else p1)), .val (.int (if (p6 &&& (2 : Int32)) = (0 : Int32) then p4 else p2)), .val (.ref (if (p6 &&& (4 : Int32)) = (0 : Int32) then xw else xr)), .val (.ref (if (p6 &&& (8 : Int32)) = (0 : Int32) then xw else xr)), .val (.ref xr9), .val (.ref xr10), .val (.long (if (p6 &&& (1048576 : Int32)) = (0 : Int32) then (q5 ^^^ (-1 : Int64)) else q5)), .second, .val (.ref b13), .val (.ref b15), .val (.ref b17), .unset, .unset] [])) ?_ (fun t k => XS.astore X19.here hx rfl (hb hby at_161) rfl rfl (l' := #[.val (.int p1), .val (.int p2), .val (.int p3), .val (.int p4), .val (.long q5), .second, .val (.int p6), .val (.int (if (p6 &&& (1 : Int32)) = (0 : Int32) then p3 else p1)), .val (.int (if (p6 &&& (2 : Int32)) = (0 : Int32) then p4 else p2)), .val (.ref (if (p6 &&& (4 : Int32)) = (0 : Int32) then xw else xr)), .val (.ref (if (p6 &&& (8 : Int32)) = (0 : Int32) then xw else xr)), .val (.ref xr9), .val (.ref xr10), .val (.long (if (p6 &&& (1048576 : Int32)) = (0 : Int32) then (q5 ^^^ (-1 : Int64)) else q5)), .second, .val (.ref b13), .val (.ref b15), .val (.ref b17), .unset, .unset]) rfl k)
  have fa21 := ((fa18.ext E17).keep Kc19)
  have fa22 := ((hf16_0.ext E17).keep Kc19)
  obtain ⟨b20, g20⟩ : ∃ z, z = T19.heap.size := ⟨_, rfl⟩
  have ne_b13_b20 : b13 ≠ b20 := Nat.ne_of_lt (Nat.lt_of_lt_of_le fa21.lt (Nat.le_of_eq g20.symm))
  have ne_b15_b20 : b15 ≠ b20 := Nat.ne_of_lt (Nat.lt_of_lt_of_le fa22.lt (Nat.le_of_eq g20.symm))
  have ne_b17_b20 : b17 ≠ b20 := Nat.ne_of_lt (Nat.lt_of_lt_of_le hf19_0.lt (Nat.le_of_eq g20.symm))
  have g_b20 : n0 ≤ b20 := Nat.le_trans Z19 (Nat.le_of_eq g20.symm)
  obtain ⟨T20, h20, X20, e20, E20, A20, D20, -, st20⟩ := newO X19 hx hZ hown (hw _ (List.mem_of_getElem? (i := 53) rfl)) (hw _ (List.mem_of_getElem? (i := 54) rfl)) (hw _ (List.mem_of_getElem? (i := 55) rfl)) rfl (g := (mkF m 163 #[.val (.int p1), .val (.int p2), .val (.int p3), .val (.int p4), .val (.long q5), .second, .val (.int p6), .val (.int (if (p6 &&& (1 : Int32)) = (0 : Int32) then p3 else p1)), .val (.int (if (p6 &&& (2 : Int32)) = (0 : Int32) then p4 else p2)), .val (.ref (if (p6 &&& (4 : Int32)) = (0 : Int32) then xw else xr)), .val (.ref (if (p6 &&& (8 : Int32)) = (0 : Int32) then xw else xr)), .val (.ref xr9), .val (.ref xr10), .val (.long (if (p6 &&& (1048576 : Int32)) = (0 : Int32) then (q5 ^^^ (-1 : Int64)) else q5)), .second, .val (.ref b13), .val (.ref b15), .val (.ref b17), .unset, .unset] [])) rfl (hb hby at_163) (by decide) (by decide)
  rw [← g20] at A20 D20 st20
  have Z20 : n0 ≤ h20.size := Nat.le_trans Z19 E20.1
  have F20_event : Fld Z h20 b20 "com/example/epochwise/epochwise/race/Witness" "event" "Lcom/example/epochwise/epochwise/trace/Event;" .null := D20 (Or.inr (hw _ (List.mem_of_getElem? (i := 61) rfl))) (ty := (.object "com/example/epochwise/epochwise/trace/Event")) (by decide)
  have F20_clock : Fld Z h20 b20 "com/example/epochwise/epochwise/race/Witness" "clock" "I" (.int (0 : Int32)) := D20 (Or.inr (hw _ (List.mem_of_getElem? (i := 63) rfl))) (ty := .int) (by decide)
  refine Gen.on (b := T20.setTop (mkF m 166 #[.val (.int p1), .val (.int p2), .val (.int p3), .val (.int p4), .val (.long q5), .second, .val (.int p6), .val (.int (if (p6 &&& (1 : Int32)) = (0 : Int32) then p3 else p1)), .val (.int (if (p6 &&& (2 : Int32)) = (0 : Int32) then p4 else p2)), .val (.ref (if (p6 &&& (4 : Int32)) = (0 : Int32) then xw else xr)), .val (.ref (if (p6 &&& (8 : Int32)) = (0 : Int32) then xw else xr)), .val (.ref xr9), .val (.ref xr10), .val (.long (if (p6 &&& (1048576 : Int32)) = (0 : Int32) then (q5 ^^^ (-1 : Int64)) else q5)), .second, .val (.ref b13), .val (.ref b15), .val (.ref b17), .unset, .unset] [(.ref b20)])) ?_ (fun t k => st20 t k)
  refine Gen.on (b := T20.setTop (mkF m 167 #[.val (.int p1), .val (.int p2), .val (.int p3), .val (.int p4), .val (.long q5), .second, .val (.int p6), .val (.int (if (p6 &&& (1 : Int32)) = (0 : Int32) then p3 else p1)), .val (.int (if (p6 &&& (2 : Int32)) = (0 : Int32) then p4 else p2)), .val (.ref (if (p6 &&& (4 : Int32)) = (0 : Int32) then xw else xr)), .val (.ref (if (p6 &&& (8 : Int32)) = (0 : Int32) then xw else xr)), .val (.ref xr9), .val (.ref xr10), .val (.long (if (p6 &&& (1048576 : Int32)) = (0 : Int32) then (q5 ^^^ (-1 : Int64)) else q5)), .second, .val (.ref b13), .val (.ref b15), .val (.ref b17), .unset, .unset] [(.ref b20), (.ref b20)])) ?_ (fun t k => XS.dup X20.here hx rfl (hb hby at_166) rfl rfl k)
  refine Gen.on (b := T20.setTop (mkF m 169 #[.val (.int p1), .val (.int p2), .val (.int p3), .val (.int p4), .val (.long q5), .second, .val (.int p6), .val (.int (if (p6 &&& (1 : Int32)) = (0 : Int32) then p3 else p1)), .val (.int (if (p6 &&& (2 : Int32)) = (0 : Int32) then p4 else p2)), .val (.ref (if (p6 &&& (4 : Int32)) = (0 : Int32) then xw else xr)), .val (.ref (if (p6 &&& (8 : Int32)) = (0 : Int32) then xw else xr)), .val (.ref xr9), .val (.ref xr10), .val (.long (if (p6 &&& (1048576 : Int32)) = (0 : Int32) then (q5 ^^^ (-1 : Int64)) else q5)), .second, .val (.ref b13), .val (.ref b15), .val (.ref b17), .unset, .unset] [(.ref b15), (.ref b20), (.ref b20)])) ?_ (fun t k => XS.aload X20.here hx rfl (hb hby at_167) rfl rfl k)
  refine Gen.on (b := T20.setTop (mkF m 171 #[.val (.int p1), .val (.int p2), .val (.int p3), .val (.int p4), .val (.long q5), .second, .val (.int p6), .val (.int (if (p6 &&& (1 : Int32)) = (0 : Int32) then p3 else p1)), .val (.int (if (p6 &&& (2 : Int32)) = (0 : Int32) then p4 else p2)), .val (.ref (if (p6 &&& (4 : Int32)) = (0 : Int32) then xw else xr)), .val (.ref (if (p6 &&& (8 : Int32)) = (0 : Int32) then xw else xr)), .val (.ref xr9), .val (.ref xr10), .val (.long (if (p6 &&& (1048576 : Int32)) = (0 : Int32) then (q5 ^^^ (-1 : Int64)) else q5)), .second, .val (.ref b13), .val (.ref b15), .val (.ref b17), .unset, .unset] [(.int (if (p6 &&& (2 : Int32)) = (0 : Int32) then p4 else p2)), (.ref b15), (.ref b20), (.ref b20)])) ?_ (fun t k => XS.iload X20.here hx rfl (hb hby at_169) rfl k)
  obtain ⟨_, _, ⟨T23, L23, k23, n23⟩, -, X23, ⟨Lc23, hQ23, l23, y23, z23⟩, st23⟩ := X20.specialBack hx (y := (⟨"com/example/epochwise/epochwise/race/Witness", "<init>", "(Lcom/example/epochwise/epochwise/trace/Event;I)V"⟩ : MethodName)) rfl hown (mvT hZ (hw _ (List.mem_of_getElem? (i := 56) rfl))) (mvT hZ (hw _ (List.mem_of_getElem? (i := 57) rfl))) (mvT hZ (hw _ (List.mem_of_getElem? (i := 58) rfl))) (by decide) (backOf (W := 1) (rm8 l Z a0 hw [] b20 b15 (if (p6 &&& (2 : Int32)) = (0 : Int32) then p4 else p2) .null (.int (0 : Int32)) h20 n0 Z20 A20 F20_event F20_clock g_b20) hZ (hw _ (List.mem_of_getElem? (i := 58) rfl)) (hw _ (List.mem_of_getElem? (i := 55) rfl)) (by decide) (by decide)) (g := (mkF m 171 #[.val (.int p1), .val (.int p2), .val (.int p3), .val (.int p4), .val (.long q5), .second, .val (.int p6), .val (.int (if (p6 &&& (1 : Int32)) = (0 : Int32) then p3 else p1)), .val (.int (if (p6 &&& (2 : Int32)) = (0 : Int32) then p4 else p2)), .val (.ref (if (p6 &&& (4 : Int32)) = (0 : Int32) then xw else xr)), .val (.ref (if (p6 &&& (8 : Int32)) = (0 : Int32) then xw else xr)), .val (.ref xr9), .val (.ref xr10), .val (.long (if (p6 &&& (1048576 : Int32)) = (0 : Int32) then (q5 ^^^ (-1 : Int64)) else q5)), .second, .val (.ref b13), .val (.ref b15), .val (.ref b17), .unset, .unset] [(.int (if (p6 &&& (2 : Int32)) = (0 : Int32) then p4 else p2)), (.ref b15), (.ref b20), (.ref b20)])) rfl (by rw [hml]; rfl) (Steps.refl _) (a := b20) (argsL := [(.ref b15), (.int (if (p6 &&& (2 : Int32)) = (0 : Int32) then p4 else p2))]) (rest := [(.ref b20)]) (lenOf pd_0_2 rfl) rfl (by show 2 * 0 + _ ≤ _; exact Nat.le_of_eq rfl) (hb hby at_171) (fun _ _ => ⟨rfl, e20, (by decide : 8 + 0 ≤ _), (by decide : 24 + 0 ≤ _)⟩)
  dsimp only [Pt.U, Pt.locs, Pt.cells, Pt.slots] at X23 l23 y23 z23 st23 hQ23
  subst l23 y23 z23
  obtain ⟨rfl, N23q, Kc23, hf23_0, hf23_1, hf23_2⟩ := hQ23
  have N23 := Fr.app N19 N23q
  have Z23 : n0 ≤ T23.heap.size := Nat.le_trans Z20 Kc23.1
  refine Gen.on (b := T23.setTop (mkF m 174 #[.val (.int p1), .val (.int p2), .val (.int p3), .val (.int p4), .val (.long q5), .second, .val (.int p6), .val (.int (if (p6 &&& (1 : Int32)) = (0 : Int32) then p3 else p1)), .val (.int (if (p6 &&& (2 : Int32)) = (0 : Int32) then p4 else p2)), .val (.ref (if (p6 &&& (4 : Int32)) = (0 : Int32) then xw else xr)), .val (.ref (if (p6 &&& (8 : Int32)) = (0 : Int32) then xw else xr)), .val (.ref xr9), .val (.ref xr10), .val (.long (if (p6 &&& (1048576 : Int32)) = (0 : Int32) then (q5 ^^^ (-1 : Int64)) else q5)), .second, .val (.ref b13), .val (.ref b15), .val (.ref b17), .unset, .unset] [(.ref b20)])) ?_ (fun t k => st23.trans k)
  refine Gen.on (b := T23.setTop (mkF m 176 #[.val (.int p1), .val (.int p2), .val (.int p3), .val (.int p4), .val (.long q5), .second, .val (.int p6), .val (.int (if (p6 &&& (1 : Int32)) = (0 : Int32) then p3 else p1)), .val (.int (if (p6 &&& (2 : Int32)) = (0 : Int32) then p4 else p2)), .val (.ref (if (p6 &&& (4 : Int32)) = (0 : Int32) then xw else xr)), .val (.ref (if (p6 &&& (8 : Int32)) = (0 : Int32) then xw else xr)), .val (.ref xr9), .val (.ref xr10), .val (.long (if (p6 &&& (1048576 : Int32)) = (0 : Int32) then (q5 ^^^ (-1 : Int64)) else q5)), .second, .val (.ref b13), .val (.ref b15), .val (.ref b17), .val (.ref b20), .unset] [])) ?_ (fun t k => XS.astore X23.here hx rfl (hb hby at_174) rfl rfl (l' := #[.val (.int p1), .val (.int p2), .val (.int p3), .val (.int p4), .val (.long q5), .second, .val (.int p6), .val (.int (if (p6 &&& (1 : Int32)) = (0 : Int32) then p3 else p1)), .val (.int (if (p6 &&& (2 : Int32)) = (0 : Int32) then p4 else p2)), .val (.ref (if (p6 &&& (4 : Int32)) = (0 : Int32) then xw else xr)), .val (.ref (if (p6 &&& (8 : Int32)) = (0 : Int32) then xw else xr)), .val (.ref xr9), .val (.ref xr10), .val (.long (if (p6 &&& (1048576 : Int32)) = (0 : Int32) then (q5 ^^^ (-1 : Int64)) else q5)), .second, .val (.ref b13), .val (.ref b15), .val (.ref b17), .val (.ref b20), .unset]) rfl k)
  refine Gen.on (b := T23.setTop (mkF m 177 #[.val (.int p1), .val (.int p2), .val (.int p3), .val (.int p4), .val (.long q5), .second, .val (.int p6), .val (.int (if (p6 &&& (1 : Int32)) = (0 : Int32) then p3 else p1)), .val (.int (if (p6 &&& (2 : Int32)) = (0 : Int32) then p4 else p2)), .val (.ref (if (p6 &&& (4 : Int32)) = (0 : Int32) then xw else xr)), .val (.ref (if (p6 &&& (8 : Int32)) = (0 : Int32) then xw else xr)), .val (.ref xr9), .val (.ref xr10), .val (.long (if (p6 &&& (1048576 : Int32)) = (0 : Int32) then (q5 ^^^ (-1 : Int64)) else q5)), .second, .val (.ref b13), .val (.ref b15), .val (.ref b17), .val (.ref b20), .unset] [(.int p2)])) ?_ (fun t k => XS.iloadN X23.here hx rfl (hb hby at_176) rfl k)
  refine Gen.on (b := T23.setTop (mkF m 179 #[.val (.int p1), .val (.int p2), .val (.int p3), .val (.int p4), .val (.long q5), .second, .val (.int p6), .val (.int (if (p6 &&& (1 : Int32)) = (0 : Int32) then p3 else p1)), .val (.int (if (p6 &&& (2 : Int32)) = (0 : Int32) then p4 else p2)), .val (.ref (if (p6 &&& (4 : Int32)) = (0 : Int32) then xw else xr)), .val (.ref (if (p6 &&& (8 : Int32)) = (0 : Int32) then xw else xr)), .val (.ref xr9), .val (.ref xr10), .val (.long (if (p6 &&& (1048576 : Int32)) = (0 : Int32) then (q5 ^^^ (-1 : Int64)) else q5)), .second, .val (.ref b13), .val (.ref b15), .val (.ref b17), .val (.ref b20), .unset] [(.int (if (p6 &&& (2 : Int32)) = (0 : Int32) then p4 else p2)), (.int p2)])) ?_ (fun t k => XS.iload X23.here hx rfl (hb hby at_177) rfl k)
  obtain ⟨_, st24, T24, X24, e24, rfl⟩ : Gen p e below (own_at X23 T23.heap (mkF m 193 #[.val (.int p1), .val (.int p2), .val (.int p3), .val (.int p4), .val (.long q5), .second, .val (.int p6), .val (.int (if (p6 &&& (1 : Int32)) = (0 : Int32) then p3 else p1)), .val (.int (if (p6 &&& (2 : Int32)) = (0 : Int32) then p4 else p2)), .val (.ref (if (p6 &&& (4 : Int32)) = (0 : Int32) then xw else xr)), .val (.ref (if (p6 &&& (8 : Int32)) = (0 : Int32) then xw else xr)), .val (.ref xr9), .val (.ref xr10), .val (.long (if (p6 &&& (1048576 : Int32)) = (0 : Int32) then (q5 ^^^ (-1 : Int64)) else q5)), .second, .val (.ref b13), .val (.ref b15), .val (.ref b17), .val (.ref b20), .unset] [(.int (if p2 = (if (p6 &&& (2 : Int32)) = (0 : Int32) then p4 else p2) then (if p1 = (if (p6 &&& (1 : Int32)) = (0 : Int32) then p3 else p1) then (1 : Int32) else (0 : Int32)) else (0 : Int32)))])) (T23.setTop (mkF m 179 #[.val (.int p1), .val (.int p2), .val (.int p3), .val (.int p4), .val (.long q5), .second, .val (.int p6), .val (.int (if (p6 &&& (1 : Int32)) = (0 : Int32) then p3 else p1)), .val (.int (if (p6 &&& (2 : Int32)) = (0 : Int32) then p4 else p2)), .val (.ref (if (p6 &&& (4 : Int32)) = (0 : Int32) then xw else xr)), .val (.ref (if (p6 &&& (8 : Int32)) = (0 : Int32) then xw else xr)), .val (.ref xr9), .val (.ref xr10), .val (.long (if (p6 &&& (1048576 : Int32)) = (0 : Int32) then (q5 ^^^ (-1 : Int64)) else q5)), .second, .val (.ref b13), .val (.ref b15), .val (.ref b17), .val (.ref b20), .unset] [(.int (if (p6 &&& (2 : Int32)) = (0 : Int32) then p4 else p2)), (.int p2)])) := by
    by_cases c179_6 : p2 = (if (p6 &&& (2 : Int32)) = (0 : Int32) then p4 else p2)
    · refine Gen.on (b := T23.setTop (mkF m 182 #[.val (.int p1), .val (.int p2), .val (.int p3), .val (.int p4), .val (.long q5), .second, .val (.int p6), .val (.int (if (p6 &&& (1 : Int32)) = (0 : Int32) then p3 else p1)), .val (.int (if (p6 &&& (2 : Int32)) = (0 : Int32) then p4 else p2)), .val (.ref (if (p6 &&& (4 : Int32)) = (0 : Int32) then xw else xr)), .val (.ref (if (p6 &&& (8 : Int32)) = (0 : Int32) then xw else xr)), .val (.ref xr9), .val (.ref xr10), .val (.long (if (p6 &&& (1048576 : Int32)) = (0 : Int32) then (q5 ^^^ (-1 : Int64)) else q5)), .second, .val (.ref b13), .val (.ref b15), .val (.ref b17), .val (.ref b20), .unset] [])) ?_ (fun t k => XS.icmpNo X23.here hx rfl (hb hby at_179) rfl (teq c179_6).2 k)
      refine Gen.on (b := T23.setTop (mkF m 183 #[.val (.int p1), .val (.int p2), .val (.int p3), .val (.int p4), .val (.long q5), .second, .val (.int p6), .val (.int (if (p6 &&& (1 : Int32)) = (0 : Int32) then p3 else p1)), .val (.int (if (p6 &&& (2 : Int32)) = (0 : Int32) then p4 else p2)), .val (.ref (if (p6 &&& (4 : Int32)) = (0 : Int32) then xw else xr)), .val (.ref (if (p6 &&& (8 : Int32)) = (0 : Int32) then xw else xr)), .val (.ref xr9), .val (.ref xr10), .val (.long (if (p6 &&& (1048576 : Int32)) = (0 : Int32) then (q5 ^^^ (-1 : Int64)) else q5)), .second, .val (.ref b13), .val (.ref b15), .val (.ref b17), .val (.ref b20), .unset] [(.int p1)])) ?_ (fun t k => XS.iloadN X23.here hx rfl (hb hby at_182) rfl k)
      refine Gen.on (b := T23.setTop (mkF m 185 #[.val (.int p1), .val (.int p2), .val (.int p3), .val (.int p4), .val (.long q5), .second, .val (.int p6), .val (.int (if (p6 &&& (1 : Int32)) = (0 : Int32) then p3 else p1)), .val (.int (if (p6 &&& (2 : Int32)) = (0 : Int32) then p4 else p2)), .val (.ref (if (p6 &&& (4 : Int32)) = (0 : Int32) then xw else xr)), .val (.ref (if (p6 &&& (8 : Int32)) = (0 : Int32) then xw else xr)), .val (.ref xr9), .val (.ref xr10), .val (.long (if (p6 &&& (1048576 : Int32)) = (0 : Int32) then (q5 ^^^ (-1 : Int64)) else q5)), .second, .val (.ref b13), .val (.ref b15), .val (.ref b17), .val (.ref b20), .unset] [(.int (if (p6 &&& (1 : Int32)) = (0 : Int32) then p3 else p1)), (.int p1)])) ?_ (fun t k => XS.iload X23.here hx rfl (hb hby at_183) rfl k)
      by_cases c185_7 : p1 = (if (p6 &&& (1 : Int32)) = (0 : Int32) then p3 else p1)
      · refine Gen.on (b := T23.setTop (mkF m 188 #[.val (.int p1), .val (.int p2), .val (.int p3), .val (.int p4), .val (.long q5), .second, .val (.int p6), .val (.int (if (p6 &&& (1 : Int32)) = (0 : Int32) then p3 else p1)), .val (.int (if (p6 &&& (2 : Int32)) = (0 : Int32) then p4 else p2)), .val (.ref (if (p6 &&& (4 : Int32)) = (0 : Int32) then xw else xr)), .val (.ref (if (p6 &&& (8 : Int32)) = (0 : Int32) then xw else xr)), .val (.ref xr9), .val (.ref xr10), .val (.long (if (p6 &&& (1048576 : Int32)) = (0 : Int32) then (q5 ^^^ (-1 : Int64)) else q5)), .second, .val (.ref b13), .val (.ref b15), .val (.ref b17), .val (.ref b20), .unset] [])) ?_ (fun t k => XS.icmpNo X23.here hx rfl (hb hby at_185) rfl (teq c185_7).2 k)
        refine Gen.on (b := T23.setTop (mkF m 189 #[.val (.int p1), .val (.int p2), .val (.int p3), .val (.int p4), .val (.long q5), .second, .val (.int p6), .val (.int (if (p6 &&& (1 : Int32)) = (0 : Int32) then p3 else p1)), .val (.int (if (p6 &&& (2 : Int32)) = (0 : Int32) then p4 else p2)), .val (.ref (if (p6 &&& (4 : Int32)) = (0 : Int32) then xw else xr)), .val (.ref (if (p6 &&& (8 : Int32)) = (0 : Int32) then xw else xr)), .val (.ref xr9), .val (.ref xr10), .val (.long (if (p6 &&& (1048576 : Int32)) = (0 : Int32) then (q5 ^^^ (-1 : Int64)) else q5)), .second, .val (.ref b13), .val (.ref b15), .val (.ref b17), .val (.ref b20), .unset] [(.int (1 : Int32))])) ?_ (fun t k => XS.iconst X23.here hx rfl (hb hby at_188) k)
        refine Gen.on (b := T23.setTop (mkF m 193 #[.val (.int p1), .val (.int p2), .val (.int p3), .val (.int p4), .val (.long q5), .second, .val (.int p6), .val (.int (if (p6 &&& (1 : Int32)) = (0 : Int32) then p3 else p1)), .val (.int (if (p6 &&& (2 : Int32)) = (0 : Int32) then p4 else p2)), .val (.ref (if (p6 &&& (4 : Int32)) = (0 : Int32) then xw else xr)), .val (.ref (if (p6 &&& (8 : Int32)) = (0 : Int32) then xw else xr)), .val (.ref xr9), .val (.ref xr10), .val (.long (if (p6 &&& (1048576 : Int32)) = (0 : Int32) then (q5 ^^^ (-1 : Int64)) else q5)), .second, .val (.ref b13), .val (.ref b15), .val (.ref b17), .val (.ref b20), .unset] [(.int (1 : Int32))])) ?_ (fun t k => XS.goto X23.here hx rfl (pc0 := 189) (pc' := 193) rfl (hb hby at_189) (by decide) (by decide) k)
        exact ⟨_, Steps.refl _, T23, X23, rfl, by simp only [if_pos c179_6, if_pos c185_7]⟩
      · refine Gen.on (b := T23.setTop (mkF m 192 #[.val (.int p1), .val (.int p2), .val (.int p3), .val (.int p4), .val (.long q5), .second, .val (.int p6), .val (.int (if (p6 &&& (1 : Int32)) = (0 : Int32) then p3 else p1)), .val (.int (if (p6 &&& (2 : Int32)) = (0 : Int32) then p4 else p2)), .val (.ref (if (p6 &&& (4 : Int32)) = (0 : Int32) then xw else xr)), .val (.ref (if (p6 &&& (8 : Int32)) = (0 : Int32) then xw else xr)), .val (.ref xr9), .val (.ref xr10), .val (.long (if (p6 &&& (1048576 : Int32)) = (0 : Int32) then (q5 ^^^ (-1 : Int64)) else q5)), .second, .val (.ref b13), .val (.ref b15), .val (.ref b17), .val (.ref b20), .unset] [])) ?_ (fun t k => XS.icmpYes X23.here hx rfl (pc0 := 185) (pc' := 192) rfl (hb hby at_185) rfl (feq c185_7).2 (by decide) (by decide) k)
        refine Gen.on (b := T23.setTop (mkF m 193 #[.val (.int p1), .val (.int p2), .val (.int p3), .val (.int p4), .val (.long q5), .second, .val (.int p6), .val (.int (if (p6 &&& (1 : Int32)) = (0 : Int32) then p3 else p1)), .val (.int (if (p6 &&& (2 : Int32)) = (0 : Int32) then p4 else p2)), .val (.ref (if (p6 &&& (4 : Int32)) = (0 : Int32) then xw else xr)), .val (.ref (if (p6 &&& (8 : Int32)) = (0 : Int32) then xw else xr)), .val (.ref xr9), .val (.ref xr10), .val (.long (if (p6 &&& (1048576 : Int32)) = (0 : Int32) then (q5 ^^^ (-1 : Int64)) else q5)), .second, .val (.ref b13), .val (.ref b15), .val (.ref b17), .val (.ref b20), .unset] [(.int (0 : Int32))])) ?_ (fun t k => XS.iconst X23.here hx rfl (hb hby at_192) k)
        exact ⟨_, Steps.refl _, T23, X23, rfl, by simp only [if_pos c179_6, if_neg c185_7]⟩
    · refine Gen.on (b := T23.setTop (mkF m 192 #[.val (.int p1), .val (.int p2), .val (.int p3), .val (.int p4), .val (.long q5), .second, .val (.int p6), .val (.int (if (p6 &&& (1 : Int32)) = (0 : Int32) then p3 else p1)), .val (.int (if (p6 &&& (2 : Int32)) = (0 : Int32) then p4 else p2)), .val (.ref (if (p6 &&& (4 : Int32)) = (0 : Int32) then xw else xr)), .val (.ref (if (p6 &&& (8 : Int32)) = (0 : Int32) then xw else xr)), .val (.ref xr9), .val (.ref xr10), .val (.long (if (p6 &&& (1048576 : Int32)) = (0 : Int32) then (q5 ^^^ (-1 : Int64)) else q5)), .second, .val (.ref b13), .val (.ref b15), .val (.ref b17), .val (.ref b20), .unset] [])) ?_ (fun t k => XS.icmpYes X23.here hx rfl (pc0 := 179) (pc' := 192) rfl (hb hby at_179) rfl (feq c179_6).2 (by decide) (by decide) k)
      refine Gen.on (b := T23.setTop (mkF m 193 #[.val (.int p1), .val (.int p2), .val (.int p3), .val (.int p4), .val (.long q5), .second, .val (.int p6), .val (.int (if (p6 &&& (1 : Int32)) = (0 : Int32) then p3 else p1)), .val (.int (if (p6 &&& (2 : Int32)) = (0 : Int32) then p4 else p2)), .val (.ref (if (p6 &&& (4 : Int32)) = (0 : Int32) then xw else xr)), .val (.ref (if (p6 &&& (8 : Int32)) = (0 : Int32) then xw else xr)), .val (.ref xr9), .val (.ref xr10), .val (.long (if (p6 &&& (1048576 : Int32)) = (0 : Int32) then (q5 ^^^ (-1 : Int64)) else q5)), .second, .val (.ref b13), .val (.ref b15), .val (.ref b17), .val (.ref b20), .unset] [(.int (0 : Int32))])) ?_ (fun t k => XS.iconst X23.here hx rfl (hb hby at_192) k)
      exact ⟨_, Steps.refl _, T23, X23, rfl, by simp only [if_neg c179_6]⟩
  refine Gen.on (b := T24.setTop (mkF m 193 #[.val (.int p1), .val (.int p2), .val (.int p3), .val (.int p4), .val (.long q5), .second, .val (.int p6), .val (.int (if (p6 &&& (1 : Int32)) = (0 : Int32) then p3 else p1)), .val (.int (if (p6 &&& (2 : Int32)) = (0 : Int32) then p4 else p2)), .val (.ref (if (p6 &&& (4 : Int32)) = (0 : Int32) then xw else xr)), .val (.ref (if (p6 &&& (8 : Int32)) = (0 : Int32) then xw else xr)), .val (.ref xr9), .val (.ref xr10), .val (.long (if (p6 &&& (1048576 : Int32)) = (0 : Int32) then (q5 ^^^ (-1 : Int64)) else q5)), .second, .val (.ref b13), .val (.ref b15), .val (.ref b17), .val (.ref b20), .unset] [(.int (if p2 = (if (p6 &&& (2 : Int32)) = (0 : Int32) then p4 else p2) then (if p1 = (if (p6 &&& (1 : Int32)) = (0 : Int32) then p3 else p1) then (1 : Int32) else (0 : Int32)) else (0 : Int32)))])) ?_ (fun t k => st24.trans k)
  refine Gen.on (b := T24.setTop (mkF m 195 #[.val (.int p1), .val (.int p2), .val (.int p3), .val (.int p4), .val (.long q5), .second, .val (.int p6), .val (.int (if (p6 &&& (1 : Int32)) = (0 : Int32) then p3 else p1)), .val (.int (if (p6 &&& (2 : Int32)) = (0 : Int32) then p4 else p2)), .val (.ref (if (p6 &&& (4 : Int32)) = (0 : Int32) then xw else xr)), .val (.ref (if (p6 &&& (8 : Int32)) = (0 : Int32) then xw else xr)), .val (.ref xr9), .val (.ref xr10), .val (.long (if (p6 &&& (1048576 : Int32)) = (0 : Int32) then (q5 ^^^ (-1 : Int64)) else q5)), .second, .val (.ref b13), .val (.ref b15), .val (.ref b17), .val (.ref b20), .val (.int (if p2 = (if (p6 &&& (2 : Int32)) = (0 : Int32) then p4 else p2) then (if p1 = (if (p6 &&& (1 : Int32)) = (0 : Int32) then p3 else p1) then (1 : Int32) else (0 : Int32)) else (0 : Int32)))] [])) ?_ (fun t k => XS.istore X24.here hx rfl (hb hby at_193) rfl (l' := #[.val (.int p1), .val (.int p2), .val (.int p3), .val (.int p4), .val (.long q5), .second, .val (.int p6), .val (.int (if (p6 &&& (1 : Int32)) = (0 : Int32) then p3 else p1)), .val (.int (if (p6 &&& (2 : Int32)) = (0 : Int32) then p4 else p2)), .val (.ref (if (p6 &&& (4 : Int32)) = (0 : Int32) then xw else xr)), .val (.ref (if (p6 &&& (8 : Int32)) = (0 : Int32) then xw else xr)), .val (.ref xr9), .val (.ref xr10), .val (.long (if (p6 &&& (1048576 : Int32)) = (0 : Int32) then (q5 ^^^ (-1 : Int64)) else q5)), .second, .val (.ref b13), .val (.ref b15), .val (.ref b17), .val (.ref b20), .val (.int (if p2 = (if (p6 &&& (2 : Int32)) = (0 : Int32) then p4 else p2) then (if p1 = (if (p6 &&& (1 : Int32)) = (0 : Int32) then p3 else p1) then (1 : Int32) else (0 : Int32)) else (0 : Int32)))]) rfl k)
  refine Gen.on (b := T24.setTop (mkF m 197 #[.val (.int p1), .val (.int p2), .val (.int p3), .val (.int p4), .val (.long q5), .second, .val (.int p6), .val (.int (if (p6 &&& (1 : Int32)) = (0 : Int32) then p3 else p1)), .val (.int (if (p6 &&& (2 : Int32)) = (0 : Int32) then p4 else p2)), .val (.ref (if (p6 &&& (4 : Int32)) = (0 : Int32) then xw else xr)), .val (.ref (if (p6 &&& (8 : Int32)) = (0 : Int32) then xw else xr)), .val (.ref xr9), .val (.ref xr10), .val (.long (if (p6 &&& (1048576 : Int32)) = (0 : Int32) then (q5 ^^^ (-1 : Int64)) else q5)), .second, .val (.ref b13), .val (.ref b15), .val (.ref b17), .val (.ref b20), .val (.int (if p2 = (if (p6 &&& (2 : Int32)) = (0 : Int32) then p4 else p2) then (if p1 = (if (p6 &&& (1 : Int32)) = (0 : Int32) then p3 else p1) then (1 : Int32) else (0 : Int32)) else (0 : Int32)))] [(.ref b17)])) ?_ (fun t k => XS.aload X24.here hx rfl (hb hby at_195) rfl rfl k)
  refine Gen.on (b := T24.setTop (mkF m 199 #[.val (.int p1), .val (.int p2), .val (.int p3), .val (.int p4), .val (.long q5), .second, .val (.int p6), .val (.int (if (p6 &&& (1 : Int32)) = (0 : Int32) then p3 else p1)), .val (.int (if (p6 &&& (2 : Int32)) = (0 : Int32) then p4 else p2)), .val (.ref (if (p6 &&& (4 : Int32)) = (0 : Int32) then xw else xr)), .val (.ref (if (p6 &&& (8 : Int32)) = (0 : Int32) then xw else xr)), .val (.ref xr9), .val (.ref xr10), .val (.long (if (p6 &&& (1048576 : Int32)) = (0 : Int32) then (q5 ^^^ (-1 : Int64)) else q5)), .second, .val (.ref b13), .val (.ref b15), .val (.ref b17), .val (.ref b20), .val (.int (if p2 = (if (p6 &&& (2 : Int32)) = (0 : Int32) then p4 else p2) then (if p1 = (if (p6 &&& (1 : Int32)) = (0 : Int32) then p3 else p1) then (1 : Int32) else (0 : Int32)) else (0 : Int32)))] [(.ref b20), (.ref b17)])) ?_ (fun t k => XS.aload X24.here hx rfl (hb hby at_197) rfl rfl k)
  have fa26 := ((hf19_0.ext E20).keep Kc23)
  have fa27 := ((hf19_2.ext E20).keep Kc23 (ninS ne_b17_b20 nin0))
  have fa28 := ((hf19_1.ext E20).keep Kc23 (ninS ne_b17_b20 nin0))
  have fa29 := ((fa21.ext E20).keep Kc23)
  have fa30 := ((fa22.ext E20).keep Kc23)
  have fa31 := ((((((hf14_1.ext E15).keep Kc16 (ninS ne_b13_b15 nin0)).ext E17).keep Kc19 (ninS ne_b13_b17 nin0)).ext E20).keep Kc23 (ninS ne_b13_b20 nin0))
  have fa32 := ((((hf16_1.ext E17).keep Kc19 (ninS ne_b15_b17 nin0)).ext E20).keep Kc23 (ninS ne_b15_b20 nin0))
  obtain ⟨cq25, kq25, q25a, q25b, q25c⟩ := isOf hZ e24 fa26
  obtain ⟨_, _, ⟨T25, L25, k25, n25⟩, -, X25, ⟨Lc25, hQ25, l25, y25, z25⟩, st25⟩ := X24.virtualBack hx (y := (⟨"com/example/epochwise/epochwise/race/Witness", "sameEpoch", "(Lcom/example/epochwise/epochwise/race/Witness;)Z"⟩ : MethodName)) (z := (⟨"com/example/epochwise/epochwise/race/Witness", "sameEpoch", "(Lcom/example/epochwise/epochwise/race/Witness;)Z"⟩ : MethodName)) hown (mvT hZ (hw _ (List.mem_of_getElem? (i := 64) rfl))) (mvT hZ (hw _ (List.mem_of_getElem? (i := 65) rfl))) (notFace_of_selects (args := #[]) (mvT hZ (hw _ (List.mem_of_getElem? (i := 67) rfl)))) (mvT hZ (hw _ (List.mem_of_getElem? (i := 67) rfl))) (mvT hZ (hw _ (List.mem_of_getElem? (i := 66) rfl))) (by decide) (backOf (W := 0) (rm9 l Z a0 hw [] b17 b20 p2 (if (p6 &&& (2 : Int32)) = (0 : Int32) then p4 else p2) b13 b15 p1 (if (p6 &&& (1 : Int32)) = (0 : Int32) then p3 else p1) T23.heap n0 Z23 fa27 hf23_2 fa28 hf23_1 fa29 fa30 fa31 fa32) hZ (hw _ (List.mem_of_getElem? (i := 68) rfl)) (hw _ (List.mem_of_getElem? (i := 55) rfl)) (by decide) (by decide)) q25a q25c (g := (mkF m 199 #[.val (.int p1), .val (.int p2), .val (.int p3), .val (.int p4), .val (.long q5), .second, .val (.int p6), .val (.int (if (p6 &&& (1 : Int32)) = (0 : Int32) then p3 else p1)), .val (.int (if (p6 &&& (2 : Int32)) = (0 : Int32) then p4 else p2)), .val (.ref (if (p6 &&& (4 : Int32)) = (0 : Int32) then xw else xr)), .val (.ref (if (p6 &&& (8 : Int32)) = (0 : Int32) then xw else xr)), .val (.ref xr9), .val (.ref xr10), .val (.long (if (p6 &&& (1048576 : Int32)) = (0 : Int32) then (q5 ^^^ (-1 : Int64)) else q5)), .second, .val (.ref b13), .val (.ref b15), .val (.ref b17), .val (.ref b20), .val (.int (if p2 = (if (p6 &&& (2 : Int32)) = (0 : Int32) then p4 else p2) then (if p1 = (if (p6 &&& (1 : Int32)) = (0 : Int32) then p3 else p1) then (1 : Int32) else (0 : Int32)) else (0 : Int32)))] [(.ref b20), (.ref b17)])) rfl (by rw [hml]; rfl) (Steps.refl _) (argsL := [(.ref b20)]) (rest := []) (lenOf pd_0_3 rfl) rfl (by show 2 * 0 + _ ≤ _; exact Nat.le_of_eq rfl) (hb hby at_199) (fun _ _ => ⟨rfl, e24, (by decide : 8 + 0 ≤ _), (by decide : 24 + 0 ≤ _)⟩)
  dsimp only [Pt.U, Pt.locs, Pt.cells, Pt.slots] at X25 l25 y25 z25 st25 hQ25
  subst l25 y25 z25
  obtain ⟨rfl, N25q, e25⟩ := hQ25
  have N25 := Fr.app N23 N25q
  refine Gen.on (b := T25.setTop (mkF m 202 #[.val (.int p1), .val (.int p2), .val (.int p3), .val (.int p4), .val (.long q5), .second, .val (.int p6), .val (.int (if (p6 &&& (1 : Int32)) = (0 : Int32) then p3 else p1)), .val (.int (if (p6 &&& (2 : Int32)) = (0 : Int32) then p4 else p2)), .val (.ref (if (p6 &&& (4 : Int32)) = (0 : Int32) then xw else xr)), .val (.ref (if (p6 &&& (8 : Int32)) = (0 : Int32) then xw else xr)), .val (.ref xr9), .val (.ref xr10), .val (.long (if (p6 &&& (1048576 : Int32)) = (0 : Int32) then (q5 ^^^ (-1 : Int64)) else q5)), .second, .val (.ref b13), .val (.ref b15), .val (.ref b17), .val (.ref b20), .val (.int (if p2 = (if (p6 &&& (2 : Int32)) = (0 : Int32) then p4 else p2) then (if p1 = (if (p6 &&& (1 : Int32)) = (0 : Int32) then p3 else p1) then (1 : Int32) else (0 : Int32)) else (0 : Int32)))] [(.int (f9 b17 b20 p2 (if (p6 &&& (2 : Int32)) = (0 : Int32) then p4 else p2) b13 b15 p1 (if (p6 &&& (1 : Int32)) = (0 : Int32) then p3 else p1)))])) ?_ (fun t k => st25.trans k)
  refine Gen.on (b := T25.setTop (mkF m 204 #[.val (.int p1), .val (.int p2), .val (.int p3), .val (.int p4), .val (.long q5), .second, .val (.int p6), .val (.int (if (p6 &&& (1 : Int32)) = (0 : Int32) then p3 else p1)), .val (.int (if (p6 &&& (2 : Int32)) = (0 : Int32) then p4 else p2)), .val (.ref (if (p6 &&& (4 : Int32)) = (0 : Int32) then xw else xr)), .val (.ref (if (p6 &&& (8 : Int32)) = (0 : Int32) then xw else xr)), .val (.ref xr9), .val (.ref xr10), .val (.long (if (p6 &&& (1048576 : Int32)) = (0 : Int32) then (q5 ^^^ (-1 : Int64)) else q5)), .second, .val (.ref b13), .val (.ref b15), .val (.ref b17), .val (.ref b20), .val (.int (if p2 = (if (p6 &&& (2 : Int32)) = (0 : Int32) then p4 else p2) then (if p1 = (if (p6 &&& (1 : Int32)) = (0 : Int32) then p3 else p1) then (1 : Int32) else (0 : Int32)) else (0 : Int32)))] [(.int (if p2 = (if (p6 &&& (2 : Int32)) = (0 : Int32) then p4 else p2) then (if p1 = (if (p6 &&& (1 : Int32)) = (0 : Int32) then p3 else p1) then (1 : Int32) else (0 : Int32)) else (0 : Int32))), (.int (f9 b17 b20 p2 (if (p6 &&& (2 : Int32)) = (0 : Int32) then p4 else p2) b13 b15 p1 (if (p6 &&& (1 : Int32)) = (0 : Int32) then p3 else p1)))])) ?_ (fun t k => XS.iload X25.here hx rfl (hb hby at_202) rfl k)
  refine Gen.on (b := T25.setTop (mkF m 207 #[.val (.int p1), .val (.int p2), .val (.int p3), .val (.int p4), .val (.long q5), .second, .val (.int p6), .val (.int (if (p6 &&& (1 : Int32)) = (0 : Int32) then p3 else p1)), .val (.int (if (p6 &&& (2 : Int32)) = (0 : Int32) then p4 else p2)), .val (.ref (if (p6 &&& (4 : Int32)) = (0 : Int32) then xw else xr)), .val (.ref (if (p6 &&& (8 : Int32)) = (0 : Int32) then xw else xr)), .val (.ref xr9), .val (.ref xr10), .val (.long (if (p6 &&& (1048576 : Int32)) = (0 : Int32) then (q5 ^^^ (-1 : Int64)) else q5)), .second, .val (.ref b13), .val (.ref b15), .val (.ref b17), .val (.ref b20), .val (.int (if p2 = (if (p6 &&& (2 : Int32)) = (0 : Int32) then p4 else p2) then (if p1 = (if (p6 &&& (1 : Int32)) = (0 : Int32) then p3 else p1) then (1 : Int32) else (0 : Int32)) else (0 : Int32)))] [])) ?_ (fun t k => XS.icmpNo X25.here hx rfl (hb hby at_204) rfl (teq (own_1 0 0 _ _ _ _ _ _ _ _)).2 k)
  refine Gen.on (b := T25.setTop (mkF m 209 #[.val (.int p1), .val (.int p2), .val (.int p3), .val (.int p4), .val (.long q5), .second, .val (.int p6), .val (.int (if (p6 &&& (1 : Int32)) = (0 : Int32) then p3 else p1)), .val (.int (if (p6 &&& (2 : Int32)) = (0 : Int32) then p4 else p2)), .val (.ref (if (p6 &&& (4 : Int32)) = (0 : Int32) then xw else xr)), .val (.ref (if (p6 &&& (8 : Int32)) = (0 : Int32) then xw else xr)), .val (.ref xr9), .val (.ref xr10), .val (.long (if (p6 &&& (1048576 : Int32)) = (0 : Int32) then (q5 ^^^ (-1 : Int64)) else q5)), .second, .val (.ref b13), .val (.ref b15), .val (.ref b17), .val (.ref b20), .val (.int (if p2 = (if (p6 &&& (2 : Int32)) = (0 : Int32) then p4 else p2) then (if p1 = (if (p6 &&& (1 : Int32)) = (0 : Int32) then p3 else p1) then (1 : Int32) else (0 : Int32)) else (0 : Int32)))] [(.ref b20)])) ?_ (fun t k => XS.aload X25.here hx rfl (hb hby at_207) rfl rfl k)
  refine Gen.on (b := T25.setTop (mkF m 211 #[.val (.int p1), .val (.int p2), .val (.int p3), .val (.int p4), .val (.long q5), .second, .val (.int p6), .val (.int (if (p6 &&& (1 : Int32)) = (0 : Int32) then p3 else p1)), .val (.int (if (p6 &&& (2 : Int32)) = (0 : Int32) then p4 else p2)), .val (.ref (if (p6 &&& (4 : Int32)) = (0 : Int32) then xw else xr)), .val (.ref (if (p6 &&& (8 : Int32)) = (0 : Int32) then xw else xr)), .val (.ref xr9), .val (.ref xr10), .val (.long (if (p6 &&& (1048576 : Int32)) = (0 : Int32) then (q5 ^^^ (-1 : Int64)) else q5)), .second, .val (.ref b13), .val (.ref b15), .val (.ref b17), .val (.ref b20), .val (.int (if p2 = (if (p6 &&& (2 : Int32)) = (0 : Int32) then p4 else p2) then (if p1 = (if (p6 &&& (1 : Int32)) = (0 : Int32) then p3 else p1) then (1 : Int32) else (0 : Int32)) else (0 : Int32)))] [(.ref b17), (.ref b20)])) ?_ (fun t k => XS.aload X25.here hx rfl (hb hby at_209) rfl rfl k)
  obtain ⟨cq33, kq33, q33a, q33b, q33c⟩ := isOf hZ e25 hf23_0
  obtain ⟨_, _, ⟨T33, L33, k33, n33⟩, -, X33, ⟨Lc33, hQ33, l33, y33, z33⟩, st33⟩ := X25.virtualBack hx (y := (⟨"com/example/epochwise/epochwise/race/Witness", "sameEpoch", "(Lcom/example/epochwise/epochwise/race/Witness;)Z"⟩ : MethodName)) (z := (⟨"com/example/epochwise/epochwise/race/Witness", "sameEpoch", "(Lcom/example/epochwise/epochwise/race/Witness;)Z"⟩ : MethodName)) hown (mvT hZ (hw _ (List.mem_of_getElem? (i := 64) rfl))) (mvT hZ (hw _ (List.mem_of_getElem? (i := 65) rfl))) (notFace_of_selects (args := #[]) (mvT hZ (hw _ (List.mem_of_getElem? (i := 67) rfl)))) (mvT hZ (hw _ (List.mem_of_getElem? (i := 67) rfl))) (mvT hZ (hw _ (List.mem_of_getElem? (i := 66) rfl))) (by decide) (backOf (W := 0) (rm9 l Z a0 hw [] b20 b17 (if (p6 &&& (2 : Int32)) = (0 : Int32) then p4 else p2) p2 b15 b13 (if (p6 &&& (1 : Int32)) = (0 : Int32) then p3 else p1) p1 T23.heap n0 Z23 hf23_2 fa27 hf23_1 fa28 fa30 fa29 fa32 fa31) hZ (hw _ (List.mem_of_getElem? (i := 68) rfl)) (hw _ (List.mem_of_getElem? (i := 55) rfl)) (by decide) (by decide)) q33a q33c (g := (mkF m 211 #[.val (.int p1), .val (.int p2), .val (.int p3), .val (.int p4), .val (.long q5), .second, .val (.int p6), .val (.int (if (p6 &&& (1 : Int32)) = (0 : Int32) then p3 else p1)), .val (.int (if (p6 &&& (2 : Int32)) = (0 : Int32) then p4 else p2)), .val (.ref (if (p6 &&& (4 : Int32)) = (0 : Int32) then xw else xr)), .val (.ref (if (p6 &&& (8 : Int32)) = (0 : Int32) then xw else xr)), .val (.ref xr9), .val (.ref xr10), .val (.long (if (p6 &&& (1048576 : Int32)) = (0 : Int32) then (q5 ^^^ (-1 : Int64)) else q5)), .second, .val (.ref b13), .val (.ref b15), .val (.ref b17), .val (.ref b20), .val (.int (if p2 = (if (p6 &&& (2 : Int32)) = (0 : Int32) then p4 else p2) then (if p1 = (if (p6 &&& (1 : Int32)) = (0 : Int32) then p3 else p1) then (1 : Int32) else (0 : Int32)) else (0 : Int32)))] [(.ref b17), (.ref b20)])) rfl (by rw [hml]; rfl) (Steps.refl _) (argsL := [(.ref b17)]) (rest := []) (lenOf pd_0_3 rfl) rfl (by show 2 * 0 + _ ≤ _; exact Nat.le_of_eq rfl) (hb hby at_211) (fun _ _ => ⟨rfl, e25, (by decide : 8 + 0 ≤ _), (by decide : 24 + 0 ≤ _)⟩)
  dsimp only [Pt.U, Pt.locs, Pt.cells, Pt.slots] at X33 l33 y33 z33 st33 hQ33
  subst l33 y33 z33
  obtain ⟨rfl, N33q, e33⟩ := hQ33
  have N33 := Fr.app N25 N33q
  refine Gen.on (b := T33.setTop (mkF m 214 #[.val (.int p1), .val (.int p2), .val (.int p3), .val (.int p4), .val (.long q5), .second, .val (.int p6), .val (.int (if (p6 &&& (1 : Int32)) = (0 : Int32) then p3 else p1)), .val (.int (if (p6 &&& (2 : Int32)) = (0 : Int32) then p4 else p2)), .val (.ref (if (p6 &&& (4 : Int32)) = (0 : Int32) then xw else xr)), .val (.ref (if (p6 &&& (8 : Int32)) = (0 : Int32) then xw else xr)), .val (.ref xr9), .val (.ref xr10), .val (.long (if (p6 &&& (1048576 : Int32)) = (0 : Int32) then (q5 ^^^ (-1 : Int64)) else q5)), .second, .val (.ref b13), .val (.ref b15), .val (.ref b17), .val (.ref b20), .val (.int (if p2 = (if (p6 &&& (2 : Int32)) = (0 : Int32) then p4 else p2) then (if p1 = (if (p6 &&& (1 : Int32)) = (0 : Int32) then p3 else p1) then (1 : Int32) else (0 : Int32)) else (0 : Int32)))] [(.int (f9 b20 b17 (if (p6 &&& (2 : Int32)) = (0 : Int32) then p4 else p2) p2 b15 b13 (if (p6 &&& (1 : Int32)) = (0 : Int32) then p3 else p1) p1))])) ?_ (fun t k => st33.trans k)
  refine Gen.on (b := T33.setTop (mkF m 216 #[.val (.int p1), .val (.int p2), .val (.int p3), .val (.int p4), .val (.long q5), .second, .val (.int p6), .val (.int (if (p6 &&& (1 : Int32)) = (0 : Int32) then p3 else p1)), .val (.int (if (p6 &&& (2 : Int32)) = (0 : Int32) then p4 else p2)), .val (.ref (if (p6 &&& (4 : Int32)) = (0 : Int32) then xw else xr)), .val (.ref (if (p6 &&& (8 : Int32)) = (0 : Int32) then xw else xr)), .val (.ref xr9), .val (.ref xr10), .val (.long (if (p6 &&& (1048576 : Int32)) = (0 : Int32) then (q5 ^^^ (-1 : Int64)) else q5)), .second, .val (.ref b13), .val (.ref b15), .val (.ref b17), .val (.ref b20), .val (.int (if p2 = (if (p6 &&& (2 : Int32)) = (0 : Int32) then p4 else p2) then (if p1 = (if (p6 &&& (1 : Int32)) = (0 : Int32) then p3 else p1) then (1 : Int32) else (0 : Int32)) else (0 : Int32)))] [(.int (if p2 = (if (p6 &&& (2 : Int32)) = (0 : Int32) then p4 else p2) then (if p1 = (if (p6 &&& (1 : Int32)) = (0 : Int32) then p3 else p1) then (1 : Int32) else (0 : Int32)) else (0 : Int32))), (.int (f9 b20 b17 (if (p6 &&& (2 : Int32)) = (0 : Int32) then p4 else p2) p2 b15 b13 (if (p6 &&& (1 : Int32)) = (0 : Int32) then p3 else p1) p1))])) ?_ (fun t k => XS.iload X33.here hx rfl (hb hby at_214) rfl k)
  refine Gen.on (b := T33.setTop (mkF m 219 #[.val (.int p1), .val (.int p2), .val (.int p3), .val (.int p4), .val (.long q5), .second, .val (.int p6), .val (.int (if (p6 &&& (1 : Int32)) = (0 : Int32) then p3 else p1)), .val (.int (if (p6 &&& (2 : Int32)) = (0 : Int32) then p4 else p2)), .val (.ref (if (p6 &&& (4 : Int32)) = (0 : Int32) then xw else xr)), .val (.ref (if (p6 &&& (8 : Int32)) = (0 : Int32) then xw else xr)), .val (.ref xr9), .val (.ref xr10), .val (.long (if (p6 &&& (1048576 : Int32)) = (0 : Int32) then (q5 ^^^ (-1 : Int64)) else q5)), .second, .val (.ref b13), .val (.ref b15), .val (.ref b17), .val (.ref b20), .val (.int (if p2 = (if (p6 &&& (2 : Int32)) = (0 : Int32) then p4 else p2) then (if p1 = (if (p6 &&& (1 : Int32)) = (0 : Int32) then p3 else p1) then (1 : Int32) else (0 : Int32)) else (0 : Int32)))] [])) ?_ (fun t k => XS.icmpNo X33.here hx rfl (hb hby at_216) rfl (teq (own_2 _ _ _ _ _ _ _ _)).2 k)
  refine Gen.on (b := T33.setTop (mkF m 220 #[.val (.int p1), .val (.int p2), .val (.int p3), .val (.int p4), .val (.long q5), .second, .val (.int p6), .val (.int (if (p6 &&& (1 : Int32)) = (0 : Int32) then p3 else p1)), .val (.int (if (p6 &&& (2 : Int32)) = (0 : Int32) then p4 else p2)), .val (.ref (if (p6 &&& (4 : Int32)) = (0 : Int32) then xw else xr)), .val (.ref (if (p6 &&& (8 : Int32)) = (0 : Int32) then xw else xr)), .val (.ref xr9), .val (.ref xr10), .val (.long (if (p6 &&& (1048576 : Int32)) = (0 : Int32) then (q5 ^^^ (-1 : Int64)) else q5)), .second, .val (.ref b13), .val (.ref b15), .val (.ref b17), .val (.ref b20), .val (.int (if p2 = (if (p6 &&& (2 : Int32)) = (0 : Int32) then p4 else p2) then (if p1 = (if (p6 &&& (1 : Int32)) = (0 : Int32) then p3 else p1) then (1 : Int32) else (0 : Int32)) else (0 : Int32)))] [(.int (1 : Int32))])) ?_ (fun t k => XS.iconst X33.here hx rfl (hb hby at_219) k)
  refine Gen.on (b := T33.setTop (mkF m 224 #[.val (.int p1), .val (.int p2), .val (.int p3), .val (.int p4), .val (.long q5), .second, .val (.int p6), .val (.int (if (p6 &&& (1 : Int32)) = (0 : Int32) then p3 else p1)), .val (.int (if (p6 &&& (2 : Int32)) = (0 : Int32) then p4 else p2)), .val (.ref (if (p6 &&& (4 : Int32)) = (0 : Int32) then xw else xr)), .val (.ref (if (p6 &&& (8 : Int32)) = (0 : Int32) then xw else xr)), .val (.ref xr9), .val (.ref xr10), .val (.long (if (p6 &&& (1048576 : Int32)) = (0 : Int32) then (q5 ^^^ (-1 : Int64)) else q5)), .second, .val (.ref b13), .val (.ref b15), .val (.ref b17), .val (.ref b20), .val (.int (if p2 = (if (p6 &&& (2 : Int32)) = (0 : Int32) then p4 else p2) then (if p1 = (if (p6 &&& (1 : Int32)) = (0 : Int32) then p3 else p1) then (1 : Int32) else (0 : Int32)) else (0 : Int32)))] [(.int (1 : Int32))])) ?_ (fun t k => XS.goto X33.here hx rfl (pc0 := 220) (pc' := 224) rfl (hb hby at_220) (by decide) (by decide) k)
  refine own_retN (t := .boolean) X33 hx Bd.returns (by simp) (by decide) (hb hby at_224) (by decide) (by decide) ?_
  exact ⟨rfl, N33⟩
set_option maxRecDepth 65536 in
set_option maxHeartbeats 40000000 in
theorem comes_1 {Post : Tables → Env → Array Value → State → Outcome → State → Prop} (hpost : ∀ tb e args s v u, (limb_1_1.after args s (.returned v) u = true ∧ limb_1_2.after args s (.returned v) u = true ∧ True) → FrameEnd s (.returned v) u (Jvm.fieldLocs frame_1_writes args s ++ Jvm.arrayLocs frame_1_arrays args s ++ Jvm.staticLocs frame_1_statics s) 24 128 → Post tb e args s (.returned v) u) :
    ArmFor flags0 classFile x code maxLocals ret World_1 tables_1 room_1 Calls_1 rest_1 Pre_1 Post := by
  intro l hfl _ _ p e ha hc hk s m args below hf hA hF happ hP
  obtain ⟨hcalls, hrest, hpre⟩ := hP
  obtain ⟨-, -, -, hnamed, -, -, -, hat⟩ := (Spec.applies_iff hf).mp happ
  obtain ⟨hg, hn⟩ := and_e (Cond.before_iff.mp (show (Jvm.Cond.and given_1 narrow_1).before args s = true from hpre))
  obtain ⟨hcount, hr1⟩ := and_e hg
  obtain ⟨ha0, hr2⟩ := and_e hr1
  obtain ⟨ha1, hr3⟩ := and_e hr2
  obtain ⟨ha2, hr4⟩ := and_e hr3
  obtain ⟨ha3, hr5⟩ := and_e hr4
  obtain ⟨ha4, hr6⟩ := and_e hr5
  obtain ⟨w0, w1, w2, w3, w4, w5, rfl⟩ : ∃ w0 w1 w2 w3 w4 w5 : Value, args = #[w0, w1, w2, w3, w4, w5] := by
    have hs : args.size = 6 := by simpa [Cond.value, given_1] using hcount
    obtain ⟨L⟩ := args
    match L, hs with
    | [w0, w1, w2, w3, w4, w5], _ => exact ⟨w0, w1, w2, w3, w4, w5, rfl⟩
  have hw := fun d (hd : d ∈ tables_1) => atoms_spec (ws := Jvm.Cond.code x code maxLocals ret :: tables_1) hat d (List.mem_cons_of_mem _ hd)
  have hfit : Fit s := fun {y c} hc i hi => by
    obtain ⟨ha, rfl⟩ := Array.getElem?_eq_some_iff.mp hc
    have q := List.all_eq_true.mp ((Array.all_eq_true_iff_forall_mem.mp hF) _ (Array.getElem_mem ha)) i (List.mem_range.mpr hi)
    simpa [Array.getElem?_eq_getElem hi] using q
  obtain ⟨i0, ei0⟩ := is_v ha0
  obtain rfl : w0 = (.int i0) := Option.some.inj ei0
  obtain ⟨i1, ei1⟩ := is_v ha1
  obtain rfl : w1 = (.int i1) := Option.some.inj ei1
  obtain ⟨i2, ei2⟩ := is_v ha2
  obtain rfl : w2 = (.int i2) := Option.some.inj ei2
  obtain ⟨i3, ei3⟩ := is_v ha3
  obtain rfl : w3 = (.int i3) := Option.some.inj ei3
  obtain ⟨i4, ei4⟩ := isL_v ha4
  obtain rfl : w4 = (.long i4) := Option.some.inj ei4
  obtain ⟨i5, ei5⟩ := is_v hr6
  obtain rfl : w5 = (.int i5) := Option.some.inj ei5
  obtain ⟨hn0, hm0⟩ := and_e hn
  obtain ⟨x_WRITE, ev_WRITE⟩ := exa_v hn0
  have S_WRITE := Sta.start ev_WRITE (Or.inr ⟨(hw _ (List.mem_of_getElem? (i := 1) rfl)), (hw _ (List.mem_of_getElem? (i := 2) rfl))⟩)
  have E_WRITE := Exa.start ev_WRITE hn0
  obtain ⟨x_READ, ev_READ⟩ := exa_v hm0
  have S_READ := Sta.start ev_READ (Or.inr ⟨(hw _ (List.mem_of_getElem? (i := 1) rfl)), (hw _ (List.mem_of_getElem? (i := 75) rfl))⟩)
  have E_READ := Exa.start ev_READ hm0
  obtain ⟨hsets, hown0⟩ := atoms_of _ (rest_1_c_eq ▸ (show rest_1_c.before _ s = true from hrest))
  obtain ⟨w0, ew0⟩ := is_v (Cond.before_iff.mp (hsets _ (List.mem_of_getElem? (i := 1) rfl)))
  have S_C := Sta.start ew0 (Or.inl (hsets _ (List.mem_of_getElem? (i := 0) rfl)))
  have hw0 : ¬ w0 = (0 : Int32) := by
    intro q
    have q1 := not_v (Cond.before_iff.mp (hsets _ (List.mem_of_getElem? (i := 2) rfl)))
    have q2 := eq_i ew0 (Term.int_eval (0 : Int32)) (congrArg Value.int q)
    rw [q2] at q1
    exact absurd q1 (by decide)
  obtain ⟨n, o, h1, h2, h3, _, L, rfl, ⟨rfl, N⟩, hq⟩ := rm0 l s _ hw tables_1 i0 i1 i2 i3 i4 i5 w0 x_WRITE x_READ s.heap s.heap.size (Nat.le_refl _) S_C S_WRITE S_READ hw0 p e ha hc hk s m _ below hf ((Spec.applies_iff_loose hf).mp happ).1 ⟨rfl, State.Warmed39.refl s, rfl⟩ trivial
  refine ⟨n, _, h1, h2, h3, hpost _ _ _ _ _ _ ⟨Cond.after_iff.mpr rfl, Cond.after_iff.mpr (eq_i res_at (Term.int_eval (1)) rfl), trivial⟩ ⟨hq.1, hq.2.1, (hq.2.2.sift fun y hy => Or.inr (N y hy)).mono (by decide) (by decide)⟩⟩
theorem main_1_1 : Claimed_1_1 := comes_1 fun _ _ _ _ _ _ h hF => ⟨h.1, hF⟩
theorem main_1_2 : Claimed_1_2 := comes_1 fun _ _ _ _ _ _ h hF => ⟨h.2.1, hF⟩
end Jvm.Pilot.@@N@@
namespace Jvm.Pilot.@@N@@
open Jvm Jvm.ClassFile Sem Op Lib Jvm.Free Jvm.Stand Jvm.Pilot.@@N@@.Jvm.D
/-! MADE BY PROGRAM (witnessworld.py) out of the Statement's table words and the real class files: 21 classes; the members and pool entries that the words name. The judged class is class 1, her method 1. -/
namespace start1
open Jvm.ClassFile
def u (s : String) : CpInfo := .utf8 (stringToUtf16 s)
/-- a pool by its gaps: so many unusable entries, then the entry; so many at the end -/
def gap : Nat → List CpInfo → List CpInfo
  | 0, r => r
  | n + 1, r => .unusable :: gap n r
def poolList (es : List (Nat × CpInfo)) (last : Nat) : List CpInfo := es.foldr (fun e r => gap e.1 (e.2 :: r)) (gap last [])
def pool (es : List (Nat × CpInfo)) (last : Nat) : Array CpInfo := ⟨poolList es last⟩
def fileOf (pool : Array CpInfo) (this : Nat) (attrs : Array Attribute := #[]) (ms : Array MethodInfo := #[]) (fl : Nat := 33) (sup : Nat := 0) (ifs : Array Nat := #[]) (fds : Array FieldInfo := #[]) : ClassFile where
  minorVersion := 0
  majorVersion := 65
  constantPool := pool
  accessFlags := fl
  thisClass := this
  superClass := sup
  interfaces := ifs
  fields := fds
  methods := ms
  attributes := attrs
def plain (name : String) (sup : Option ClassId) : Class where
  name := name
  kind := .ordinary
  loader := none
  accessFlags := 33
  super := sup
  interfaces := #[]
  cf := none
  fields := #[]
  methods := #[]
  instanceTypes := #[]
  staticTypes := #[]
  resolved := #[]
  callSites := []
  init := .initialized
  statics := none
  mirror := none

def pool0 : Array CpInfo := pool [(5, u "<init>"), (0, u "()V"), (1, .class_ 10), (1, u "java/lang/Object")] 113

def k0c0 : Code := { maxStack := 0, maxLocals := 1, code := object_method_1_code, exceptionTable := #[], attributes := #[] }
def k0m0 : Method := { name := "<init>", desc := "()V", sig := { parameters := [], returnType := none }, accessFlags := 1, code := some k0c0 }
/-- java/lang/Object -/
def k0 : Class := { plain "java/lang/Object" none with
  accessFlags := 33
  interfaces := #[]
  cf := some (fileOf pool0 8 #[] #[{ accessFlags := 1, nameIndex := 5, descriptorIndex := 6, attributes := #[] }] 33 0 #[] #[])
  fields := #[]
  methods := #[k0m0]
  instanceTypes := #[]
  staticTypes := #[]
  resolved := Array.replicate 124 none
  statics := none }

def pool1 : Array CpInfo := pool [(2, .class_ 4), (1, u "java/lang/Object"), (0, u "<init>"), (0, u "()V"), (0, .fieldref 8 9), (0, .class_ 10), (0, .nameAndType 11 12), (0, u "com/example/epochwise/epochwise/trace/Op"), (0, u "READ"), (0, u "Lcom/example/epochwise/epochwise/trace/Op;"), (0, .fieldref 8 14), (0, .nameAndType 15 12), (0, u "WRITE"), (0, .methodref 17 18), (0, .class_ 19), (0, .nameAndType 20 21), (0, u "java/lang/String"), (0, u "valueOf"), (0, u "(C)Ljava/lang/String;"), (0, .integer 1048576), (0, .long 18446744073709551615), (1, .class_ 26), (0, u "com/example/epochwise/epochwise/trace/Event"), (0, .methodref 25 28), (0, .nameAndType 5 29), (0, u "(JILcom/example/epochwise/epochwise/trace/Op;ILjava/lang/String;)V"), (0, .class_ 31), (0, u "com/example/epochwise/epochwise/race/Witness"), (0, .methodref 30 33), (0, .nameAndType 5 34), (0, u "(Lcom/example/epochwise/epochwise/trace/Event;I)V"), (0, .methodref 30 36), (0, .nameAndType 37 38), (0, u "sameEpoch"), (0, u "(Lcom/example/epochwise/epochwise/race/Witness;)Z"), (0, .class_ 40), (0, u "com/example/epochwise/epochwise/race/WitnessSameEpochPinLaw"), (2, u "law"), (0, u "(IIIIJI)Z")] 3

def k1m0 : Method := { name := "<init>", desc := "()V", sig := { parameters := [], returnType := none }, accessFlags := 1, code := none }
def k1c1 : Code := { maxStack := 8, maxLocals := 20, code := code, exceptionTable := #[], attributes := #[] }
def k1m1 : Method := { name := "law", desc := "(IIIIJI)Z", sig := { parameters := [.int, .int, .int, .int, .long, .int], returnType := some .boolean }, accessFlags := 9, code := some k1c1 }
/-- com/example/epochwise/epochwise/race/WitnessSameEpochPinLaw -/
def k1 : Class := { plain "com/example/epochwise/epochwise/race/WitnessSameEpochPinLaw" (some 0) with
  accessFlags := 49
  interfaces := #[]
  cf := some (fileOf pool1 39 #[] #[{ accessFlags := 1, nameIndex := 5, descriptorIndex := 6, attributes := #[] }, { accessFlags := 9, nameIndex := 43, descriptorIndex := 44, attributes := #[] }] 49 2 #[] #[])
  fields := #[]
  methods := #[k1m0, k1m1]
  instanceTypes := #[]
  staticTypes := #[]
  resolved := Array.replicate 48 none
  statics := none }

def pool2 : Array CpInfo := pool [(1, .class_ 2), (0, u "java/lang/constant/Constable"), (0, .class_ 4), (0, u "java/lang/Object")] 6

/-- java/lang/constant/Constable -/
def k2 : Class := { plain "java/lang/constant/Constable" (some 0) with
  accessFlags := 1537
  interfaces := #[]
  cf := some (fileOf pool2 1 #[] #[] 1537 3 #[] #[])
  fields := #[]
  methods := #[]
  instanceTypes := #[]
  staticTypes := #[]
  resolved := Array.replicate 11 none
  statics := none }

def pool3 : Array CpInfo := pool [(1, .class_ 2), (0, u "java/lang/Comparable"), (0, .class_ 4), (0, u "java/lang/Object")] 7

/-- java/lang/Comparable -/
def k3 : Class := { plain "java/lang/Comparable" (some 0) with
  accessFlags := 1537
  interfaces := #[]
  cf := some (fileOf pool3 1 #[] #[] 1537 3 #[] #[])
  fields := #[]
  methods := #[]
  instanceTypes := #[]
  staticTypes := #[]
  resolved := Array.replicate 12 none
  statics := none }

def pool4 : Array CpInfo := pool [(1, .class_ 2), (0, u "java/io/Serializable"), (0, .class_ 4), (0, u "java/lang/Object")] 2

/-- java/io/Serializable -/
def k4 : Class := { plain "java/io/Serializable" (some 0) with
  accessFlags := 1537
  interfaces := #[]
  cf := some (fileOf pool4 1 #[] #[] 1537 3 #[] #[])
  fields := #[]
  methods := #[]
  instanceTypes := #[]
  staticTypes := #[]
  resolved := Array.replicate 7 none
  statics := none }

def pool5 : Array CpInfo := pool [(2, .class_ 4), (1, u "java/lang/Enum"), (0, u "name"), (0, u "Ljava/lang/String;"), (2, u "ordinal"), (0, u "I"), (1, .class_ 14), (1, u "java/lang/Object"), (4, u "hash"), (86, .class_ 108), (1, u "java/lang/Enum$EnumDesc"), (2, .class_ 112), (0, u "java/lang/constant/Constable"), (0, .class_ 114), (0, u "java/lang/Comparable"), (0, .class_ 116), (0, u "java/io/Serializable")] 87

/-- java/lang/Enum -/
def k5 : Class := { plain "java/lang/Enum" (some 0) with
  accessFlags := 1057
  interfaces := #[2, 3, 4]
  cf := some (fileOf pool5 2 #[.nestMembers #[106]] #[] 1057 12 #[111, 113, 115] #[{ accessFlags := 18, nameIndex := 5, descriptorIndex := 6, attributes := #[] }, { accessFlags := 18, nameIndex := 9, descriptorIndex := 10, attributes := #[] }, { accessFlags := 2, nameIndex := 19, descriptorIndex := 10, attributes := #[] }])
  fields := #[{ name := "name", type := (.object "java/lang/String"), accessFlags := 18, slot := 0, constantValue := 0 }, { name := "ordinal", type := .int, accessFlags := 18, slot := 1, constantValue := 0 }, { name := "hash", type := .int, accessFlags := 2, slot := 2, constantValue := 0 }]
  methods := #[]
  instanceTypes := #[(.object "java/lang/String"), .int, .int]
  staticTypes := #[]
  resolved := Array.replicate 204 none
  statics := none }

def pool6 : Array CpInfo := pool [(1, .class_ 2), (0, u "com/example/epochwise/epochwise/trace/Op"), (2, u "READ"), (0, u "Lcom/example/epochwise/epochwise/trace/Op;"), (2, u "WRITE"), (2, u "ACQUIRE"), (2, u "RELEASE"), (2, u "FORK"), (2, u "JOIN"), (2, u "BEGIN"), (2, u "END"), (2, u "$VALUES"), (0, u "[Lcom/example/epochwise/epochwise/trace/Op;"), (6, .class_ 40), (1, u "java/lang/Enum"), (8, u "token"), (0, u "Ljava/lang/String;"), (2, u "operand"), (0, u "Lcom/example/epochwise/epochwise/trace/Op$Operand;"), (2, u "OPS"), (14, .class_ 74), (1, u "com/example/epochwise/epochwise/trace/Op$Operand")] 60

/-- com/example/epochwise/epochwise/trace/Op -/
def k6 : Class := { plain "com/example/epochwise/epochwise/trace/Op" (some 5) with
  accessFlags := 16433
  interfaces := #[]
  cf := some (fileOf pool6 1 #[.nestMembers #[72]] #[] 16433 38 #[] #[{ accessFlags := 16409, nameIndex := 5, descriptorIndex := 6, attributes := #[] }, { accessFlags := 16409, nameIndex := 9, descriptorIndex := 6, attributes := #[] }, { accessFlags := 16409, nameIndex := 12, descriptorIndex := 6, attributes := #[] }, { accessFlags := 16409, nameIndex := 15, descriptorIndex := 6, attributes := #[] }, { accessFlags := 16409, nameIndex := 18, descriptorIndex := 6, attributes := #[] }, { accessFlags := 16409, nameIndex := 21, descriptorIndex := 6, attributes := #[] }, { accessFlags := 16409, nameIndex := 24, descriptorIndex := 6, attributes := #[] }, { accessFlags := 16409, nameIndex := 27, descriptorIndex := 6, attributes := #[] }, { accessFlags := 26, nameIndex := 57, descriptorIndex := 31, attributes := #[] }, { accessFlags := 18, nameIndex := 49, descriptorIndex := 50, attributes := #[] }, { accessFlags := 18, nameIndex := 53, descriptorIndex := 54, attributes := #[] }, { accessFlags := 4122, nameIndex := 30, descriptorIndex := 31, attributes := #[] }])
  fields := #[{ name := "READ", type := (.object "com/example/epochwise/epochwise/trace/Op"), accessFlags := 16409, slot := 0, constantValue := 0 }, { name := "WRITE", type := (.object "com/example/epochwise/epochwise/trace/Op"), accessFlags := 16409, slot := 1, constantValue := 0 }, { name := "ACQUIRE", type := (.object "com/example/epochwise/epochwise/trace/Op"), accessFlags := 16409, slot := 2, constantValue := 0 }, { name := "RELEASE", type := (.object "com/example/epochwise/epochwise/trace/Op"), accessFlags := 16409, slot := 3, constantValue := 0 }, { name := "FORK", type := (.object "com/example/epochwise/epochwise/trace/Op"), accessFlags := 16409, slot := 4, constantValue := 0 }, { name := "JOIN", type := (.object "com/example/epochwise/epochwise/trace/Op"), accessFlags := 16409, slot := 5, constantValue := 0 }, { name := "BEGIN", type := (.object "com/example/epochwise/epochwise/trace/Op"), accessFlags := 16409, slot := 6, constantValue := 0 }, { name := "END", type := (.object "com/example/epochwise/epochwise/trace/Op"), accessFlags := 16409, slot := 7, constantValue := 0 }, { name := "OPS", type := (.array (.object "com/example/epochwise/epochwise/trace/Op")), accessFlags := 26, slot := 8, constantValue := 0 }, { name := "token", type := (.object "java/lang/String"), accessFlags := 18, slot := 3, constantValue := 0 }, { name := "operand", type := (.object "com/example/epochwise/epochwise/trace/Op$Operand"), accessFlags := 18, slot := 4, constantValue := 0 }, { name := "$VALUES", type := (.array (.object "com/example/epochwise/epochwise/trace/Op")), accessFlags := 4122, slot := 9, constantValue := 0 }]
  methods := #[]
  instanceTypes := #[(.object "java/lang/String"), .int, .int, (.object "java/lang/String"), (.object "com/example/epochwise/epochwise/trace/Op$Operand")]
  staticTypes := #[(.object "com/example/epochwise/epochwise/trace/Op"), (.object "com/example/epochwise/epochwise/trace/Op"), (.object "com/example/epochwise/epochwise/trace/Op"), (.object "com/example/epochwise/epochwise/trace/Op"), (.object "com/example/epochwise/epochwise/trace/Op"), (.object "com/example/epochwise/epochwise/trace/Op"), (.object "com/example/epochwise/epochwise/trace/Op"), (.object "com/example/epochwise/epochwise/trace/Op"), (.array (.object "com/example/epochwise/epochwise/trace/Op")), (.array (.object "com/example/epochwise/epochwise/trace/Op"))]
  resolved := Array.replicate 135 none
  statics := some 0 }

def pool7 : Array CpInfo := pool [(2, .class_ 4), (1, u "java/lang/CharSequence"), (42, .class_ 48), (0, u "java/lang/CharSequence$1CodePointIterator"), (10, .class_ 60), (0, u "java/lang/CharSequence$1CharIterator"), (5, .class_ 67), (0, u "java/lang/Object")] 63

/-- java/lang/CharSequence -/
def k7 : Class := { plain "java/lang/CharSequence" (some 0) with
  accessFlags := 1537
  interfaces := #[]
  cf := some (fileOf pool7 2 #[.nestMembers #[47, 59]] #[] 1537 66 #[] #[])
  fields := #[]
  methods := #[]
  instanceTypes := #[]
  staticTypes := #[]
  resolved := Array.replicate 131 none
  statics := none }

def pool8 : Array CpInfo := pool [(1, .class_ 2), (0, u "java/lang/constant/ConstantDesc"), (0, .class_ 4), (0, u "java/lang/Object")] 32

/-- java/lang/constant/ConstantDesc -/
def k8 : Class := { plain "java/lang/constant/ConstantDesc" (some 0) with
  accessFlags := 1537
  interfaces := #[]
  cf := some (fileOf pool8 1 #[] #[] 1537 3 #[] #[])
  fields := #[]
  methods := #[]
  instanceTypes := #[]
  staticTypes := #[]
  resolved := Array.replicate 37 none
  statics := none }

def pool9 : Array CpInfo := pool [(1, .methodref 2 3), (0, .class_ 4), (0, .nameAndType 5 6), (0, u "java/lang/Object"), (0, u "<init>"), (0, u "()V"), (2, .fieldref 10 11), (0, .class_ 12), (0, .nameAndType 13 14), (0, u "java/lang/String"), (0, u "value"), (0, u "[B"), (0, .fieldref 10 16), (0, .nameAndType 17 18), (0, u "coder"), (0, u "B"), (2, u "hash"), (0, u "I"), (2, u "hashIsZero"), (0, u "Z"), (11, .fieldref 10 39), (0, .nameAndType 40 26), (0, u "COMPACT_STRINGS"), (12, u "toBytes"), (53, .class_ 109), (1, u "java/lang/StringLatin1"), (99, .methodref 10 210), (0, .nameAndType 5 211), (0, u "([BB)V"), (157, u "(C)Z"), (205, .class_ 576), (0, u "java/lang/CharSequence"), (22, u "CASE_INSENSITIVE_ORDER"), (0, u "Ljava/util/Comparator;"), (181, u "valueOf"), (0, u "(C)Ljava/lang/String;"), (231, .methodref 107 1016), (0, .nameAndType 1017 369), (0, u "canEncode"), (0, .methodref 107 1019), (0, .nameAndType 53 1020), (0, u "(C)[B"), (80, u "serialPersistentFields"), (0, u "[Ljava/io/ObjectStreamField;"), (0, .class_ 1104), (0, u "java/lang/String$CaseInsensitiveComparator"), (1, .class_ 1107), (0, u "java/io/Serializable"), (0, .class_ 1109), (0, u "java/lang/Comparable"), (0, .class_ 1111), (0, u "java/lang/constant/Constable"), (0, .class_ 1113), (0, u "java/lang/constant/ConstantDesc"), (2, u "serialVersionUID"), (0, u "J"), (3, u "REPL"), (0, u "C"), (2, u "LATIN1"), (1, u "UTF16")] 323

def k9m0 : Method := { name := "<init>", desc := "()V", sig := { parameters := [], returnType := none }, accessFlags := 1, code := none }
def k9c1 : Code := { maxStack := 4, maxLocals := 1, code := jdk_42_method_139_code, exceptionTable := #[], attributes := #[] }
def k9m1 : Method := { name := "valueOf", desc := "(C)Ljava/lang/String;", sig := { parameters := [.char], returnType := some (.object "java/lang/String") }, accessFlags := 9, code := some k9c1 }
def k9c2 : Code := { maxStack := 2, maxLocals := 3, code := jdk_42_method_151_code, exceptionTable := #[], attributes := #[] }
def k9m2 : Method := { name := "<init>", desc := "([BB)V", sig := { parameters := [(.array .byte), .byte], returnType := none }, accessFlags := 0, code := some k9c2 }
/-- java/lang/String -/
def k9 : Class := { plain "java/lang/String" (some 0) with
  accessFlags := 49
  interfaces := #[4, 3, 7, 2, 8]
  cf := some (fileOf pool9 10 #[.nestMembers #[1103]] #[{ accessFlags := 1, nameIndex := 5, descriptorIndex := 6, attributes := #[] }, { accessFlags := 9, nameIndex := 782, descriptorIndex := 783, attributes := #[] }, { accessFlags := 0, nameIndex := 5, descriptorIndex := 211, attributes := #[] }] 49 2 #[1106, 1108, 575, 1110, 1112] #[{ accessFlags := 18, nameIndex := 13, descriptorIndex := 14, attributes := #[] }, { accessFlags := 18, nameIndex := 17, descriptorIndex := 18, attributes := #[] }, { accessFlags := 2, nameIndex := 21, descriptorIndex := 22, attributes := #[] }, { accessFlags := 2, nameIndex := 25, descriptorIndex := 26, attributes := #[] }, { accessFlags := 26, nameIndex := 1116, descriptorIndex := 1117, attributes := #[] }, { accessFlags := 24, nameIndex := 40, descriptorIndex := 26, attributes := #[] }, { accessFlags := 26, nameIndex := 1101, descriptorIndex := 1102, attributes := #[] }, { accessFlags := 26, nameIndex := 1121, descriptorIndex := 1122, attributes := #[] }, { accessFlags := 25, nameIndex := 599, descriptorIndex := 600, attributes := #[] }, { accessFlags := 24, nameIndex := 1125, descriptorIndex := 18, attributes := #[] }, { accessFlags := 24, nameIndex := 1127, descriptorIndex := 18, attributes := #[] }])
  fields := #[{ name := "value", type := (.array .byte), accessFlags := 18, slot := 0, constantValue := 0 }, { name := "coder", type := .byte, accessFlags := 18, slot := 1, constantValue := 0 }, { name := "hash", type := .int, accessFlags := 2, slot := 2, constantValue := 0 }, { name := "hashIsZero", type := .boolean, accessFlags := 2, slot := 3, constantValue := 0 }, { name := "serialVersionUID", type := .long, accessFlags := 26, slot := 0, constantValue := 0 }, { name := "COMPACT_STRINGS", type := .boolean, accessFlags := 24, slot := 1, constantValue := 0 }, { name := "serialPersistentFields", type := (.array (.object "java/io/ObjectStreamField")), accessFlags := 26, slot := 2, constantValue := 0 }, { name := "REPL", type := .char, accessFlags := 26, slot := 3, constantValue := 0 }, { name := "CASE_INSENSITIVE_ORDER", type := (.object "java/util/Comparator"), accessFlags := 25, slot := 4, constantValue := 0 }, { name := "LATIN1", type := .byte, accessFlags := 24, slot := 5, constantValue := 0 }, { name := "UTF16", type := .byte, accessFlags := 24, slot := 6, constantValue := 0 }]
  methods := #[k9m0, k9m1, k9m2]
  instanceTypes := #[(.array .byte), .byte, .int, .boolean]
  staticTypes := #[.long, .boolean, (.array (.object "java/io/ObjectStreamField")), .char, (.object "java/util/Comparator"), .byte, .byte]
  resolved := Array.replicate 1451 none
  statics := some 1 }

def pool10 : Array CpInfo := pool [(4, .class_ 6), (1, u "java/lang/Object"), (0, u "<init>"), (0, u "()V"), (5, .class_ 16), (1, u "java/lang/StringLatin1"), (73, u "canEncode"), (14, u "(C)Z"), (15, u "$assertionsDisabled"), (0, u "Z"), (98, .class_ 223), (1, u "java/lang/StringLatin1$LinesSpliterator"), (156, u "toBytes"), (1, u "(C)[B"), (7, .class_ 391), (0, u "java/lang/StringLatin1$CharsSpliterator")] 3

def k10m0 : Method := { name := "<init>", desc := "()V", sig := { parameters := [], returnType := none }, accessFlags := 0, code := none }
def k10c1 : Code := { maxStack := 2, maxLocals := 1, code := jdk_43_method_3_code, exceptionTable := #[], attributes := #[] }
def k10m1 : Method := { name := "canEncode", desc := "(C)Z", sig := { parameters := [.char], returnType := some .boolean }, accessFlags := 9, code := some k10c1 }
def k10c2 : Code := { maxStack := 4, maxLocals := 1, code := jdk_43_method_46_code, exceptionTable := #[], attributes := #[] }
def k10m2 : Method := { name := "toBytes", desc := "(C)[B", sig := { parameters := [.char], returnType := some (.array .byte) }, accessFlags := 9, code := some k10c2 }
/-- java/lang/StringLatin1 -/
def k10 : Class := { plain "java/lang/StringLatin1" (some 0) with
  accessFlags := 48
  interfaces := #[]
  cf := some (fileOf pool10 14 #[.nestMembers #[390, 221]] #[{ accessFlags := 0, nameIndex := 7, descriptorIndex := 8, attributes := #[] }, { accessFlags := 9, nameIndex := 90, descriptorIndex := 105, attributes := #[] }, { accessFlags := 9, nameIndex := 380, descriptorIndex := 382, attributes := #[] }] 48 4 #[] #[{ accessFlags := 4120, nameIndex := 121, descriptorIndex := 122, attributes := #[] }])
  fields := #[{ name := "$assertionsDisabled", type := .boolean, accessFlags := 4120, slot := 0, constantValue := 0 }]
  methods := #[k10m0, k10m1, k10m2]
  instanceTypes := #[]
  staticTypes := #[.boolean]
  resolved := Array.replicate 395 none
  statics := none }

def pool11 : Array CpInfo := pool [(1, .methodref 2 3), (0, .class_ 4), (0, .nameAndType 5 6), (0, u "java/lang/Object"), (0, u "<init>"), (0, u "()V"), (0, .class_ 8), (0, u "java/lang/Record")] 13

def k11c0 : Code := { maxStack := 1, maxLocals := 1, code := jdk_30_method_1_code, exceptionTable := #[], attributes := #[] }
def k11m0 : Method := { name := "<init>", desc := "()V", sig := { parameters := [], returnType := none }, accessFlags := 4, code := some k11c0 }
/-- java/lang/Record -/
def k11 : Class := { plain "java/lang/Record" (some 0) with
  accessFlags := 1057
  interfaces := #[]
  cf := some (fileOf pool11 7 #[] #[{ accessFlags := 4, nameIndex := 5, descriptorIndex := 6, attributes := #[] }] 1057 2 #[] #[])
  fields := #[]
  methods := #[k11m0]
  instanceTypes := #[]
  staticTypes := #[]
  resolved := Array.replicate 22 none
  statics := none }

def pool12 : Array CpInfo := pool [(1, .methodref 2 3), (0, .class_ 4), (0, .nameAndType 5 6), (0, u "java/lang/Record"), (0, u "<init>"), (0, u "()V"), (0, .fieldref 8 9), (0, .class_ 10), (0, .nameAndType 11 12), (0, u "com/example/epochwise/epochwise/trace/Event"), (0, u "index"), (0, u "J"), (0, .fieldref 8 14), (0, .nameAndType 15 16), (0, u "thread"), (0, u "I"), (0, .fieldref 8 18), (0, .nameAndType 19 20), (0, u "op"), (0, u "Lcom/example/epochwise/epochwise/trace/Op;"), (0, .fieldref 8 22), (0, .nameAndType 23 16), (0, u "operand"), (0, .fieldref 8 25), (0, .nameAndType 26 27), (0, u "loc"), (0, u "Ljava/lang/String;"), (12, u "(JILcom/example/epochwise/epochwise/trace/Op;ILjava/lang/String;)V"), (4, u "()I")] 27

def k12c0 : Code := { maxStack := 3, maxLocals := 7, code := prog_31_method_1_code, exceptionTable := #[], attributes := #[] }
def k12m0 : Method := { name := "<init>", desc := "(JILcom/example/epochwise/epochwise/trace/Op;ILjava/lang/String;)V", sig := { parameters := [.long, .int, (.object "com/example/epochwise/epochwise/trace/Op"), .int, (.object "java/lang/String")], returnType := none }, accessFlags := 1, code := some k12c0 }
def k12c1 : Code := { maxStack := 1, maxLocals := 1, code := prog_31_method_6_code, exceptionTable := #[], attributes := #[] }
def k12m1 : Method := { name := "thread", desc := "()I", sig := { parameters := [], returnType := some .int }, accessFlags := 1, code := some k12c1 }
/-- com/example/epochwise/epochwise/trace/Event -/
def k12 : Class := { plain "com/example/epochwise/epochwise/trace/Event" (some 11) with
  accessFlags := 49
  interfaces := #[]
  cf := some (fileOf pool12 8 #[] #[{ accessFlags := 1, nameIndex := 5, descriptorIndex := 40, attributes := #[] }, { accessFlags := 1, nameIndex := 15, descriptorIndex := 45, attributes := #[] }] 49 2 #[] #[{ accessFlags := 18, nameIndex := 11, descriptorIndex := 12, attributes := #[] }, { accessFlags := 18, nameIndex := 15, descriptorIndex := 16, attributes := #[] }, { accessFlags := 18, nameIndex := 19, descriptorIndex := 20, attributes := #[] }, { accessFlags := 18, nameIndex := 23, descriptorIndex := 16, attributes := #[] }, { accessFlags := 18, nameIndex := 26, descriptorIndex := 27, attributes := #[] }])
  fields := #[{ name := "index", type := .long, accessFlags := 18, slot := 0, constantValue := 0 }, { name := "thread", type := .int, accessFlags := 18, slot := 1, constantValue := 0 }, { name := "op", type := (.object "com/example/epochwise/epochwise/trace/Op"), accessFlags := 18, slot := 2, constantValue := 0 }, { name := "operand", type := .int, accessFlags := 18, slot := 3, constantValue := 0 }, { name := "loc", type := (.object "java/lang/String"), accessFlags := 18, slot := 4, constantValue := 0 }]
  methods := #[k12m0, k12m1]
  instanceTypes := #[.long, .int, (.object "com/example/epochwise/epochwise/trace/Op"), .int, (.object "java/lang/String")]
  staticTypes := #[]
  resolved := Array.replicate 73 none
  statics := none }

def pool13 : Array CpInfo := pool [(1, .methodref 2 3), (0, .class_ 4), (0, .nameAndType 5 6), (0, u "java/lang/Record"), (0, u "<init>"), (0, u "()V"), (0, .fieldref 8 9), (0, .class_ 10), (0, .nameAndType 11 12), (0, u "com/example/epochwise/epochwise/race/Witness"), (0, u "event"), (0, u "Lcom/example/epochwise/epochwise/trace/Event;"), (0, .fieldref 8 14), (0, .nameAndType 15 16), (0, u "clock"), (0, u "I"), (0, .methodref 18 19), (0, .class_ 20), (0, .nameAndType 21 22), (0, u "com/example/epochwise/epochwise/trace/Event"), (0, u "thread"), (0, u "()I"), (61, u "(Lcom/example/epochwise/epochwise/trace/Event;I)V"), (3, u "sameEpoch"), (0, u "(Lcom/example/epochwise/epochwise/race/Witness;)Z")] 31

def k13c0 : Code := { maxStack := 2, maxLocals := 3, code := prog_29_method_1_code, exceptionTable := #[], attributes := #[] }
def k13m0 : Method := { name := "<init>", desc := "(Lcom/example/epochwise/epochwise/trace/Event;I)V", sig := { parameters := [(.object "com/example/epochwise/epochwise/trace/Event"), .int], returnType := none }, accessFlags := 0, code := some k13c0 }
def k13c1 : Code := { maxStack := 2, maxLocals := 2, code := prog_29_method_3_code, exceptionTable := #[], attributes := #[] }
def k13m1 : Method := { name := "sameEpoch", desc := "(Lcom/example/epochwise/epochwise/race/Witness;)Z", sig := { parameters := [(.object "com/example/epochwise/epochwise/race/Witness")], returnType := some .boolean }, accessFlags := 0, code := some k13c1 }
/-- com/example/epochwise/epochwise/race/Witness -/
def k13 : Class := { plain "com/example/epochwise/epochwise/race/Witness" (some 11) with
  accessFlags := 48
  interfaces := #[]
  cf := some (fileOf pool13 8 #[] #[{ accessFlags := 0, nameIndex := 5, descriptorIndex := 84, attributes := #[] }, { accessFlags := 0, nameIndex := 88, descriptorIndex := 89, attributes := #[] }] 48 2 #[] #[{ accessFlags := 18, nameIndex := 11, descriptorIndex := 12, attributes := #[] }, { accessFlags := 18, nameIndex := 15, descriptorIndex := 16, attributes := #[] }])
  fields := #[{ name := "event", type := (.object "com/example/epochwise/epochwise/trace/Event"), accessFlags := 18, slot := 0, constantValue := 0 }, { name := "clock", type := .int, accessFlags := 18, slot := 1, constantValue := 0 }]
  methods := #[k13m0, k13m1]
  instanceTypes := #[(.object "com/example/epochwise/epochwise/trace/Event"), .int]
  staticTypes := #[]
  resolved := Array.replicate 121 none
  statics := none }

def pool14 : Array CpInfo := pool [(2, .class_ 4), (1, u "java/lang/Object"), (0, u "<init>"), (0, u "()V"), (17, .class_ 26), (1, u "jdk/internal/util/Preconditions"), (28, .class_ 56), (0, u "jdk/internal/util/Preconditions$4"), (57, .class_ 115), (0, u "jdk/internal/util/Preconditions$1"), (7, u "SIOOBE_FORMATTER"), (0, u "Ljava/util/function/BiFunction;"), (0, .class_ 126), (0, u "jdk/internal/util/Preconditions$2"), (3, u "AIOOBE_FORMATTER"), (0, .class_ 132), (0, u "jdk/internal/util/Preconditions$3"), (3, u "IOOBE_FORMATTER")] 57

def k14m0 : Method := { name := "<init>", desc := "()V", sig := { parameters := [], returnType := none }, accessFlags := 1, code := none }
/-- jdk/internal/util/Preconditions -/
def k14 : Class := { plain "jdk/internal/util/Preconditions" (some 0) with
  accessFlags := 33
  interfaces := #[]
  cf := some (fileOf pool14 24 #[.nestMembers #[55, 131, 125, 114]] #[{ accessFlags := 1, nameIndex := 5, descriptorIndex := 6, attributes := #[] }] 33 2 #[] #[{ accessFlags := 25, nameIndex := 123, descriptorIndex := 124, attributes := #[] }, { accessFlags := 25, nameIndex := 130, descriptorIndex := 124, attributes := #[] }, { accessFlags := 25, nameIndex := 136, descriptorIndex := 124, attributes := #[] }])
  fields := #[{ name := "SIOOBE_FORMATTER", type := (.object "java/util/function/BiFunction"), accessFlags := 25, slot := 0, constantValue := 0 }, { name := "AIOOBE_FORMATTER", type := (.object "java/util/function/BiFunction"), accessFlags := 25, slot := 1, constantValue := 0 }, { name := "IOOBE_FORMATTER", type := (.object "java/util/function/BiFunction"), accessFlags := 25, slot := 2, constantValue := 0 }]
  methods := #[k14m0]
  instanceTypes := #[]
  staticTypes := #[(.object "java/util/function/BiFunction"), (.object "java/util/function/BiFunction"), (.object "java/util/function/BiFunction")]
  resolved := Array.replicate 194 none
  statics := some 2 }

def pool15 : Array CpInfo := pool [(9, u "<init>"), (6, .class_ 18), (1, u "java/lang/Object"), (0, u "()V"), (1, .class_ 23), (1, u "jdk/internal/util/ArraysSupport"), (0, u "LOG2_ARRAY_LONG_INDEX_SCALE"), (0, u "I"), (2, u "U"), (0, u "Ljdk/internal/misc/Unsafe;"), (8, u "BIG_ENDIAN"), (0, u "Z"), (8, u "LOG2_BYTE_BIT_SIZE"), (4, u "LOG2_ARRAY_INT_INDEX_SCALE"), (54, u "JLA"), (0, u "Ljdk/internal/access/JavaLangAccess;"), (11, u "LOG2_ARRAY_BOOLEAN_INDEX_SCALE"), (9, u "LOG2_ARRAY_BYTE_INDEX_SCALE"), (5, u "LOG2_ARRAY_CHAR_INDEX_SCALE"), (5, u "LOG2_ARRAY_SHORT_INDEX_SCALE"), (18, u "LOG2_ARRAY_FLOAT_INDEX_SCALE"), (24, u "LOG2_ARRAY_DOUBLE_INDEX_SCALE"), (89, u "T_BOOLEAN"), (2, u "T_CHAR"), (1, u "T_FLOAT"), (1, u "T_DOUBLE"), (1, u "T_BYTE"), (1, u "T_SHORT"), (1, u "T_INT"), (1, u "T_LONG"), (1, u "SOFT_MAX_ARRAY_LENGTH")] 83

def k15m0 : Method := { name := "<init>", desc := "()V", sig := { parameters := [], returnType := none }, accessFlags := 2, code := none }
/-- jdk/internal/util/ArraysSupport -/
def k15 : Class := { plain "jdk/internal/util/ArraysSupport" (some 0) with
  accessFlags := 33
  interfaces := #[]
  cf := some (fileOf pool15 21 #[] #[{ accessFlags := 2, nameIndex := 9, descriptorIndex := 19, attributes := #[] }] 33 16 #[] #[{ accessFlags := 24, nameIndex := 28, descriptorIndex := 29, attributes := #[] }, { accessFlags := 26, nameIndex := 38, descriptorIndex := 39, attributes := #[] }, { accessFlags := 25, nameIndex := 121, descriptorIndex := 25, attributes := #[] }, { accessFlags := 25, nameIndex := 131, descriptorIndex := 25, attributes := #[] }, { accessFlags := 25, nameIndex := 137, descriptorIndex := 25, attributes := #[] }, { accessFlags := 25, nameIndex := 143, descriptorIndex := 25, attributes := #[] }, { accessFlags := 25, nameIndex := 53, descriptorIndex := 25, attributes := #[] }, { accessFlags := 25, nameIndex := 24, descriptorIndex := 25, attributes := #[] }, { accessFlags := 25, nameIndex := 162, descriptorIndex := 25, attributes := #[] }, { accessFlags := 25, nameIndex := 187, descriptorIndex := 25, attributes := #[] }, { accessFlags := 26, nameIndex := 48, descriptorIndex := 25, attributes := #[] }, { accessFlags := 25, nameIndex := 277, descriptorIndex := 25, attributes := #[] }, { accessFlags := 25, nameIndex := 280, descriptorIndex := 25, attributes := #[] }, { accessFlags := 25, nameIndex := 282, descriptorIndex := 25, attributes := #[] }, { accessFlags := 25, nameIndex := 284, descriptorIndex := 25, attributes := #[] }, { accessFlags := 25, nameIndex := 286, descriptorIndex := 25, attributes := #[] }, { accessFlags := 25, nameIndex := 288, descriptorIndex := 25, attributes := #[] }, { accessFlags := 25, nameIndex := 290, descriptorIndex := 25, attributes := #[] }, { accessFlags := 25, nameIndex := 292, descriptorIndex := 25, attributes := #[] }, { accessFlags := 26, nameIndex := 108, descriptorIndex := 109, attributes := #[] }, { accessFlags := 25, nameIndex := 294, descriptorIndex := 25, attributes := #[] }])
  fields := #[{ name := "U", type := (.object "jdk/internal/misc/Unsafe"), accessFlags := 24, slot := 0, constantValue := 0 }, { name := "BIG_ENDIAN", type := .boolean, accessFlags := 26, slot := 1, constantValue := 0 }, { name := "LOG2_ARRAY_BOOLEAN_INDEX_SCALE", type := .int, accessFlags := 25, slot := 2, constantValue := 0 }, { name := "LOG2_ARRAY_BYTE_INDEX_SCALE", type := .int, accessFlags := 25, slot := 3, constantValue := 0 }, { name := "LOG2_ARRAY_CHAR_INDEX_SCALE", type := .int, accessFlags := 25, slot := 4, constantValue := 0 }, { name := "LOG2_ARRAY_SHORT_INDEX_SCALE", type := .int, accessFlags := 25, slot := 5, constantValue := 0 }, { name := "LOG2_ARRAY_INT_INDEX_SCALE", type := .int, accessFlags := 25, slot := 6, constantValue := 0 }, { name := "LOG2_ARRAY_LONG_INDEX_SCALE", type := .int, accessFlags := 25, slot := 7, constantValue := 0 }, { name := "LOG2_ARRAY_FLOAT_INDEX_SCALE", type := .int, accessFlags := 25, slot := 8, constantValue := 0 }, { name := "LOG2_ARRAY_DOUBLE_INDEX_SCALE", type := .int, accessFlags := 25, slot := 9, constantValue := 0 }, { name := "LOG2_BYTE_BIT_SIZE", type := .int, accessFlags := 26, slot := 10, constantValue := 0 }, { name := "T_BOOLEAN", type := .int, accessFlags := 25, slot := 11, constantValue := 0 }, { name := "T_CHAR", type := .int, accessFlags := 25, slot := 12, constantValue := 0 }, { name := "T_FLOAT", type := .int, accessFlags := 25, slot := 13, constantValue := 0 }, { name := "T_DOUBLE", type := .int, accessFlags := 25, slot := 14, constantValue := 0 }, { name := "T_BYTE", type := .int, accessFlags := 25, slot := 15, constantValue := 0 }, { name := "T_SHORT", type := .int, accessFlags := 25, slot := 16, constantValue := 0 }, { name := "T_INT", type := .int, accessFlags := 25, slot := 17, constantValue := 0 }, { name := "T_LONG", type := .int, accessFlags := 25, slot := 18, constantValue := 0 }, { name := "JLA", type := (.object "jdk/internal/access/JavaLangAccess"), accessFlags := 26, slot := 19, constantValue := 0 }, { name := "SOFT_MAX_ARRAY_LENGTH", type := .int, accessFlags := 25, slot := 20, constantValue := 0 }]
  methods := #[k15m0]
  instanceTypes := #[]
  staticTypes := #[(.object "jdk/internal/misc/Unsafe"), .boolean, .int, .int, .int, .int, .int, .int, .int, .int, .int, .int, .int, .int, .int, .int, .int, .int, .int, (.object "jdk/internal/access/JavaLangAccess"), .int]
  resolved := Array.replicate 378 none
  statics := none }

def pool16 : Array CpInfo := pool [(1, u "java/lang/Cloneable"), (0, .class_ 1), (0, u "java/lang/Object"), (0, .class_ 3)] 3

/-- java/lang/Cloneable -/
def k16 : Class := { plain "java/lang/Cloneable" (some 0) with
  accessFlags := 1537
  interfaces := #[]
  cf := some (fileOf pool16 2 #[] #[] 1537 4 #[] #[])
  fields := #[]
  methods := #[]
  instanceTypes := #[]
  staticTypes := #[]
  resolved := Array.replicate 8 none
  statics := none }

/-- the primitive byte -/
def k17 : Class := { plain "byte" none with kind := .primitive 'B', accessFlags := 0x411 }
/-- [B -/
def k18 : Class := { plain "[B" (some 0) with kind := .array 17 .byte, interfaces := #[16, 4], accessFlags := 1041 }

/-- the primitive int -/
def k19 : Class := { plain "int" none with kind := .primitive 'I', accessFlags := 0x411 }
/-- [I -/
def k20 : Class := { plain "[I" (some 0) with kind := .array 19 .int, interfaces := #[16, 4], accessFlags := 1041 }

def heap : Heap := #[{ cls := 6, slots := #[.ref 3, .ref 4, .null, .null, .null, .null, .null, .null, .null, .null], vm := .statics 6 },
  { cls := 9, slots := #[.long 0, .int 1, .null, .int 0, .null, .int 0, .int 0], vm := .statics 9 },
  { cls := 14, slots := #[.null, .null, .null], vm := .statics 14 },
  { cls := 6, slots := #[.null, .int 0, .int 0, .null, .null], vm := .none },
  { cls := 6, slots := #[.null, .int 1, .int 0, .null, .null], vm := .none }]
def classes : Array Class := #[k0, k1, k2, k3, k4, k5, k6, k7, k8, k9, k10, k11, k12, k13, k14, k15, k16, k17, k18, k19, k20]
def interned : List (Array UInt16 × Addr) := []
def slotsUsed : Nat := 30
def theMethod : MethodId := ⟨1, 1⟩
def args0 : Array Value := #[.int 1, .int 2, .int 3, .int 4, .long 5, .int 6]
def aboutOver (below : List Frame) : State where
  vm := { classes := classes, interned := interned.toArray }
  heap := heap
  slotsUsed := slotsUsed
  threads := #[{ frames := .invoking theMethod args0 :: below }]
def below0 : List Frame := [.native { method := ⟨0, 0⟩, args := #[] }]
def about1 : State := aboutOver below0
def p0 : Program := .bare "" "" ""
def e0 : Env := launch0.env 0 0 0
theorem w_frames : about1.frames = Frame.invoking theMethod args0 :: below0 := rfl
set_option maxRecDepth 65536 in
theorem w_args : argsFit about1.vm theMethod args0 = true := by decide +kernel
set_option maxRecDepth 65536 in
theorem w_heap : heapFits about1 = true := by decide +kernel
set_option maxRecDepth 65536 in
theorem w_runnable : about1.curStatus? = some .runnable := by decide +kernel
set_option maxRecDepth 65536 in
theorem w_alone : about1.alone = true := by decide +kernel
set_option maxRecDepth 65536 in
theorem w_named : about1.methodNamed? x = some theMethod := by decide +kernel
set_option maxRecDepth 65536 in
theorem w_hears : about1.hears theMethod below0 = true := by decide +kernel
set_option maxRecDepth 65536 in
theorem w_ripe : about1.ripe theMethod args0 below0 = true := by decide +kernel
theorem w_running : about1.status = .running := rfl
set_option maxRecDepth 65536 in
theorem w_room : about1.hasRoom e0.platform room_1 = true :=
  launch0.hasRoom_least _ room_1 (by decide +kernel) (by decide +kernel) (by decide +kernel) (by decide +kernel) (by decide +kernel) (by decide +kernel)
theorem allAtoms_all (ts : List Jvm.Cond) (a : Array Jvm.Value) (st : Jvm.State) : (allAtoms ts).before a st = ts.all (fun c => c.before a st) := by
  induction ts with
  | nil => rfl
  | cons c t ih =>
    show (Jvm.Cond.and c (allAtoms t)).before a st = _
    rw [Jvm.Cond.before_and, ih, List.all_cons]
def words1 : List Jvm.Cond := Jvm.Cond.code x code maxLocals ret :: tables_1
/-- a 'code' word, met by the world's own term for the bytes: nothing is compared byte by byte -/
theorem code_word {y : MethodName} {bytes : ByteArray} {mx : Nat} {rt : Option FieldType} {a : Array Value} {s : State} {m : MethodId} {meth : Method} {c : Code} (h1 : s.methodNamed? y = some m) (h2 : s.vm.method? m = some meth) (h3 : meth.code = some c) (h4 : c.code = bytes)
    (h5 : (c.maxLocals == mx && c.exceptionTable.isEmpty && decide (c.maxStack ≤ mostOperands) && decide (meth.sig.returnType = rt) && !meth.locks && decide (parseMethodDescriptor y.desc = some meth.sig)) = true) : (Jvm.Cond.code y bytes mx rt).before a s = true := by
  simp only [Bool.and_eq_true, beq_iff_eq, Bool.not_eq_true', decide_eq_true_eq] at h5
  obtain ⟨⟨⟨⟨⟨g1, g2⟩, g3⟩, g4⟩, g5⟩, g6⟩ := h5
  simp [Cond.before, Cond.holds, Cond.value, h1, h2, h3, h4, g1, g2, g3, g4, g5, g6]
def isCode : Jvm.Cond → Bool
  | .code _ _ _ _ => true
  | _ => false
theorem all_split {L : List Jvm.Cond} {P : Jvm.Cond → Bool} (h1 : L.all (fun c => isCode c || P c) = true) (h2 : ∀ c ∈ L.filter isCode, P c = true) : L.all P = true := by
  refine List.all_eq_true.mpr fun c hc => ?_
  have h := List.all_eq_true.mp h1 c hc
  rcases Bool.eq_false_or_eq_true (isCode c) with hi | hi
  · exact h2 c (List.mem_filter.mpr ⟨hc, hi⟩)
  · simpa [hi] using h
set_option maxRecDepth 65536 in
theorem w_c0 : (Jvm.Cond.code x code maxLocals ret).before args0 about1 = true := code_word (m := ⟨1, 1⟩) (meth := k1m1) (c := k1c1) (by decide +kernel) rfl rfl rfl (by decide +kernel)
set_option maxRecDepth 65536 in
theorem w_c1 : (Jvm.Cond.code ({ cls := "java/lang/String", name := "valueOf", desc := "(C)Ljava/lang/String;" } : Jvm.MethodName) jdk_42_method_139_code (1 : Nat) (Option.some (Jvm.ClassFile.FieldType.object "java/lang/String"))).before args0 about1 = true := code_word (m := ⟨9, 1⟩) (meth := k9m1) (c := k9c1) (by decide +kernel) rfl rfl rfl (by decide +kernel)
set_option maxRecDepth 65536 in
theorem w_c2 : (Jvm.Cond.code ({ cls := "java/lang/StringLatin1", name := "canEncode", desc := "(C)Z" } : Jvm.MethodName) jdk_43_method_3_code (1 : Nat) (Option.some Jvm.ClassFile.FieldType.boolean)).before args0 about1 = true := code_word (m := ⟨10, 1⟩) (meth := k10m1) (c := k10c1) (by decide +kernel) rfl rfl rfl (by decide +kernel)
set_option maxRecDepth 65536 in
theorem w_c3 : (Jvm.Cond.code ({ cls := "java/lang/StringLatin1", name := "toBytes", desc := "(C)[B" } : Jvm.MethodName) jdk_43_method_46_code (1 : Nat) (Option.some (Jvm.ClassFile.FieldType.array Jvm.ClassFile.FieldType.byte))).before args0 about1 = true := code_word (m := ⟨10, 2⟩) (meth := k10m2) (c := k10c2) (by decide +kernel) rfl rfl rfl (by decide +kernel)
set_option maxRecDepth 65536 in
theorem w_c4 : (Jvm.Cond.code ({ cls := "java/lang/String", name := "<init>", desc := "([BB)V" } : Jvm.MethodName) jdk_42_method_151_code (3 : Nat) (Option.none : Option Jvm.ClassFile.FieldType)).before args0 about1 = true := code_word (m := ⟨9, 2⟩) (meth := k9m2) (c := k9c2) (by decide +kernel) rfl rfl rfl (by decide +kernel)
set_option maxRecDepth 65536 in
theorem w_c5 : (Jvm.Cond.code ({ cls := "java/lang/Object", name := "<init>", desc := "()V" } : Jvm.MethodName) object_method_1_code (1 : Nat) (Option.none : Option Jvm.ClassFile.FieldType)).before args0 about1 = true := code_word (m := ⟨0, 0⟩) (meth := k0m0) (c := k0c0) (by decide +kernel) rfl rfl rfl (by decide +kernel)
set_option maxRecDepth 65536 in
theorem w_c6 : (Jvm.Cond.code ({ cls := "com/example/epochwise/epochwise/trace/Event", name := "<init>", desc := "(JILcom/example/epochwise/epochwise/trace/Op;ILjava/lang/String;)V" } : Jvm.MethodName) prog_31_method_1_code (7 : Nat) (Option.none : Option Jvm.ClassFile.FieldType)).before args0 about1 = true := code_word (m := ⟨12, 0⟩) (meth := k12m0) (c := k12c0) (by decide +kernel) rfl rfl rfl (by decide +kernel)
set_option maxRecDepth 65536 in
theorem w_c7 : (Jvm.Cond.code ({ cls := "java/lang/Record", name := "<init>", desc := "()V" } : Jvm.MethodName) jdk_30_method_1_code (1 : Nat) (Option.none : Option Jvm.ClassFile.FieldType)).before args0 about1 = true := code_word (m := ⟨11, 0⟩) (meth := k11m0) (c := k11c0) (by decide +kernel) rfl rfl rfl (by decide +kernel)
set_option maxRecDepth 65536 in
theorem w_c8 : (Jvm.Cond.code ({ cls := "com/example/epochwise/epochwise/race/Witness", name := "<init>", desc := "(Lcom/example/epochwise/epochwise/trace/Event;I)V" } : Jvm.MethodName) prog_29_method_1_code (3 : Nat) (Option.none : Option Jvm.ClassFile.FieldType)).before args0 about1 = true := code_word (m := ⟨13, 0⟩) (meth := k13m0) (c := k13c0) (by decide +kernel) rfl rfl rfl (by decide +kernel)
set_option maxRecDepth 65536 in
theorem w_c9 : (Jvm.Cond.code ({ cls := "com/example/epochwise/epochwise/race/Witness", name := "sameEpoch", desc := "(Lcom/example/epochwise/epochwise/race/Witness;)Z" } : Jvm.MethodName) prog_29_method_3_code (2 : Nat) (Option.some Jvm.ClassFile.FieldType.boolean)).before args0 about1 = true := code_word (m := ⟨13, 1⟩) (meth := k13m1) (c := k13c1) (by decide +kernel) rfl rfl rfl (by decide +kernel)
set_option maxRecDepth 65536 in
theorem w_c10 : (Jvm.Cond.code ({ cls := "com/example/epochwise/epochwise/trace/Event", name := "thread", desc := "()I" } : Jvm.MethodName) prog_31_method_6_code (1 : Nat) (Option.some Jvm.ClassFile.FieldType.int)).before args0 about1 = true := code_word (m := ⟨12, 1⟩) (meth := k12m1) (c := k12c1) (by decide +kernel) rfl rfl rfl (by decide +kernel)
def codes1 : List Jvm.Cond := [Jvm.Cond.code x code maxLocals ret, Jvm.Cond.code ({ cls := "java/lang/String", name := "valueOf", desc := "(C)Ljava/lang/String;" } : Jvm.MethodName) jdk_42_method_139_code (1 : Nat) (Option.some (Jvm.ClassFile.FieldType.object "java/lang/String")), Jvm.Cond.code ({ cls := "java/lang/StringLatin1", name := "canEncode", desc := "(C)Z" } : Jvm.MethodName) jdk_43_method_3_code (1 : Nat) (Option.some Jvm.ClassFile.FieldType.boolean), Jvm.Cond.code ({ cls := "java/lang/StringLatin1", name := "toBytes", desc := "(C)[B" } : Jvm.MethodName) jdk_43_method_46_code (1 : Nat) (Option.some (Jvm.ClassFile.FieldType.array Jvm.ClassFile.FieldType.byte)), Jvm.Cond.code ({ cls := "java/lang/String", name := "<init>", desc := "([BB)V" } : Jvm.MethodName) jdk_42_method_151_code (3 : Nat) (Option.none : Option Jvm.ClassFile.FieldType), Jvm.Cond.code ({ cls := "java/lang/Object", name := "<init>", desc := "()V" } : Jvm.MethodName) object_method_1_code (1 : Nat) (Option.none : Option Jvm.ClassFile.FieldType), Jvm.Cond.code ({ cls := "com/example/epochwise/epochwise/trace/Event", name := "<init>", desc := "(JILcom/example/epochwise/epochwise/trace/Op;ILjava/lang/String;)V" } : Jvm.MethodName) prog_31_method_1_code (7 : Nat) (Option.none : Option Jvm.ClassFile.FieldType), Jvm.Cond.code ({ cls := "java/lang/Record", name := "<init>", desc := "()V" } : Jvm.MethodName) jdk_30_method_1_code (1 : Nat) (Option.none : Option Jvm.ClassFile.FieldType), Jvm.Cond.code ({ cls := "com/example/epochwise/epochwise/race/Witness", name := "<init>", desc := "(Lcom/example/epochwise/epochwise/trace/Event;I)V" } : Jvm.MethodName) prog_29_method_1_code (3 : Nat) (Option.none : Option Jvm.ClassFile.FieldType), Jvm.Cond.code ({ cls := "com/example/epochwise/epochwise/race/Witness", name := "sameEpoch", desc := "(Lcom/example/epochwise/epochwise/race/Witness;)Z" } : Jvm.MethodName) prog_29_method_3_code (2 : Nat) (Option.some Jvm.ClassFile.FieldType.boolean), Jvm.Cond.code ({ cls := "com/example/epochwise/epochwise/trace/Event", name := "thread", desc := "()I" } : Jvm.MethodName) prog_31_method_6_code (1 : Nat) (Option.some Jvm.ClassFile.FieldType.int)]
set_option maxRecDepth 65536 in
theorem codes_eq : words1.filter isCode = codes1 := rfl
theorem w_codes : ∀ c ∈ words1.filter isCode, c.before args0 about1 = true := by
  rw [codes_eq]
  intro c hc
  simp only [codes1, List.mem_cons, List.not_mem_nil, or_false] at hc
  rcases hc with rfl | rfl | rfl | rfl | rfl | rfl | rfl | rfl | rfl | rfl | rfl
  · exact w_c0
  · exact w_c1
  · exact w_c2
  · exact w_c3
  · exact w_c4
  · exact w_c5
  · exact w_c6
  · exact w_c7
  · exact w_c8
  · exact w_c9
  · exact w_c10
set_option maxRecDepth 65536 in
theorem w_t1 : (words1.take 24).all (fun c => isCode c || c.before args0 about1) = true := by decide +kernel
set_option maxRecDepth 65536 in
theorem w_t2 : ((words1.drop 24).take 24).all (fun c => isCode c || c.before args0 about1) = true := by decide +kernel
set_option maxRecDepth 65536 in
theorem w_t3 : (((words1.drop 24).drop 24).take 24).all (fun c => isCode c || c.before args0 about1) = true := by decide +kernel
set_option maxRecDepth 65536 in
theorem w_t4 : (((words1.drop 24).drop 24).drop 24).all (fun c => isCode c || c.before args0 about1) = true := by decide +kernel
theorem w_tables : (allAtoms (Jvm.Cond.code x code maxLocals ret :: tables_1)).before args0 about1 = true := by
  rw [allAtoms_all]
  show words1.all (fun c => c.before args0 about1) = true
  refine all_split ?_ w_codes
  rw [← List.take_append_drop 24 words1, List.all_append, w_t1, ← List.take_append_drop 24 (words1.drop 24), List.all_append, w_t2, ← List.take_append_drop 24 ((words1.drop 24).drop 24), List.all_append, w_t3, w_t4]
  rfl
set_option maxRecDepth 65536 in
theorem w_rest : rest_1_c.before args0 about1 = true := by decide +kernel
set_option maxRecDepth 65536 in
theorem w_case : (Jvm.Cond.and given_1 narrow_1).before args0 about1 = true := by decide +kernel
theorem w_applies : (headSpec (Jvm.Cond.code x code maxLocals ret :: tables_1) room_1).applies x e0.platform about1 = true :=
  (Spec.applies_iff w_frames).mpr ⟨w_running, w_runnable, w_alone, w_named, w_hears, w_ripe, w_room, w_tables⟩
theorem atStart : AtStart classFile x code maxLocals ret World_1 tables_1 room_1 Calls_1 rest_1 Pre_1 launch0 p0 e0 about1 theMethod args0 below0 :=
  ⟨lists_1, trivial, launch0.admits_env _ _ _, launch0.least_env, fairChoices_fair.cas, fairChoices_fair.clock, w_frames, w_args, w_heap, w_applies, trivial, w_rest, w_case⟩
end start1
theorem witness_1 : WitnessClaimed_1 := ⟨start1.p0, start1.e0, start1.about1, start1.theMethod, start1.args0, start1.below0, start1.atStart⟩
end Jvm.Pilot.@@N@@
