import JvmDerived
import JvmDerived.Pilot.@@N@@Statement
import JvmDerived.Pilot.@@N@@Code
set_option linter.unusedVariables false
set_option linter.unusedSimpArgs false
@@BLOCK:NumsL.lean.txt@@
namespace Jvm.Pilot.@@N@@
open Jvm Jvm.ClassFile Sem Op Lib Jvm.Free Jvm.Stand Jvm.LawKit Jvm.RoadKit Bundle Jvm.Pilot.@@N@@.Jvm.D
section OwnKit
variable {p : Program} {l : Launch} {e : Env} {R : Room} {s : State} {m : MethodId} {args : Array Value} {below : List Frame} {meth : Method} {c : Code} {T : State} {locs : List Loc} {cells slots : Nat}
/-- from the state a the run comes to a state of which P holds -/
def Gen (p : Program) (e : Env) (below : List Frame) (P : State → Prop) (a : State) : Prop := ∃ s₂, Steps p.tables e below a s₂ ∧ P s₂
theorem Gen.on {P : State → Prop} {a b : State} (k : Gen p e below P b) (h : ∀ t, Steps p.tables e below b t → Steps p.tables e below a t) : Gen p e below P a := by
  obtain ⟨s2, h1, h2⟩ := k
  exact ⟨s2, h _ h1, h2⟩
/-- the body has returned, and Q holds of what it returns, leaves and has written -/
def OwnP (below : List Frame) (s : State) (Q : Option Value → Heap → List Loc → Prop) (C S : Nat) (s₂ : State) : Prop := ∃ o, s₂.status = .running ∧ Ended s₂ below o ∧ ∃ v L, o = .returned v ∧ Q v s₂.heap L ∧ FrameEnd s o s₂ L C S
def Own (p : Program) (e : Env) (below : List Frame) (s : State) (Q : Option Value → Heap → List Loc → Prop) (C S : Nat) (a : State) : Prop := Gen p e below (OwnP below s Q C S) a
variable {Q : Option Value → Heap → List Loc → Prop} {C S : Nat}
theorem own_start {a : State} (k : Own p e below s Q C S a) : ∃ s₂ o, Steps p.tables e below a s₂ ∧ s₂.status = .running ∧ Ended s₂ below o ∧ ∃ v L, o = .returned v ∧ Q v s₂.heap L ∧ FrameEnd s o s₂ L C S := by
  obtain ⟨s2, h1, o, h2⟩ := k
  exact ⟨s2, o, h1, h2⟩
/-- the walk stands in a frame F, the heap being H, with what X had written -/
def own_at (X : Stand p l e R s m args below meth c T locs cells slots) (H : Heap) (F : JFrame) (s₂ : State) : Prop := ∃ T', Stand p l e R s m args below meth c T' locs cells slots ∧ T'.heap = H ∧ s₂ = T'.setTop F
theorem own_ret (X : Stand p l e R s m args below meth c T locs cells slots) {g : JFrame} {v : Option Value} (hv : meth.sig.returnType = none → v = none) (hlocks : meth.locks = false) (hc : cells ≤ C) (hs : slots ≤ S) (hq : Q v T.heap locs)
    (st : ∀ fs, (∀ (f : JFrame) (acts : List Action), f.method = m → f.locked = none → f.entered = [] → (doReturn e (T.setTop f) acts v).1 = T.setFrames fs) → Steps p.tables e below (T.setTop g) (T.setFrames fs)) : Own p e below s Q C S (T.setTop g) := by
  obtain ⟨fs, hr, hrun, hended, hW, hsame⟩ := X.leave (v := v) hv hlocks
  exact ⟨_, st fs hr, _, hrun, hended, _, _, rfl, hq, ⟨_, rfl⟩, hW, hsame.mono hc hs⟩
theorem own_retI (X : Stand p l e R s m args below meth c T locs cells slots) (hx : p.tables.exec = Jvm.exec) {pc : Nat} {Ls : Array Slot} {z : Int32} {rest : List Value} (hret : meth.sig.returnType = some .int) (hd : decode c.code pc = .ok (.ireturn, 1)) (hc : cells ≤ C) (hs : slots ≤ S) (hq : Q (some (.int z)) T.heap locs) (hlocks : meth.locks = false := by first | assumption | exact BodyLoose.notSynchronized (by assumption)) : Own p e below s Q C S (T.setTop (mkF m pc Ls (.int z :: rest))) :=
  own_ret X (fun h => by rw [hret] at h; cases h) hlocks hc hs hq fun fs hr => retOut X hx hret rfl (Or.inl ⟨rfl, Or.inl rfl, z, rfl⟩) hd hr
theorem own_retN (X : Stand p l e R s m args below meth c T locs cells slots) (hx : p.tables.exec = Jvm.exec) {pc : Nat} {Ls : Array Slot} {z : Int32} {t : FieldType} {rest : List Value} (hret : meth.sig.returnType = some t) (ht : t = .boolean ∨ t = .byte ∨ t = .char ∨ t = .short) (hz : nar t z = z) (hd : decode c.code pc = .ok (.ireturn, 1)) (hc : cells ≤ C) (hs : slots ≤ S) (hq : Q (some (.int z)) T.heap locs) (hlocks : meth.locks = false := by first | assumption | exact BodyLoose.notSynchronized (by assumption)) : Own p e below s Q C S (T.setTop (mkF m pc Ls (.int z :: rest))) :=
  own_ret X (fun h => by rw [hret] at h; cases h) hlocks hc hs hq fun fs hr => retN X hx hret ht hd (by rw [hz]; exact hr)
theorem own_retJ (X : Stand p l e R s m args below meth c T locs cells slots) (hx : p.tables.exec = Jvm.exec) {pc : Nat} {Ls : Array Slot} {z : Int64} {rest : List Value} (hret : meth.sig.returnType = some .long) (hd : decode c.code pc = .ok (.lreturn, 1)) (hc : cells ≤ C) (hs : slots ≤ S) (hq : Q (some (.long z)) T.heap locs) (hlocks : meth.locks = false := by first | assumption | exact BodyLoose.notSynchronized (by assumption)) : Own p e below s Q C S (T.setTop (mkF m pc Ls (.long z :: rest))) :=
  own_ret X (fun h => by rw [hret] at h; cases h) hlocks hc hs hq fun fs hr => retOut X hx hret rfl (Or.inr (Or.inl ⟨rfl, rfl, z, rfl⟩)) hd hr
theorem own_retA (X : Stand p l e R s m args below meth c T locs cells slots) (hx : p.tables.exec = Jvm.exec) {pc : Nat} {Ls : Array Slot} {w : Value} {t : FieldType} {rest : List Value} (hret : meth.sig.returnType = some t) (ht : t.isReference = true) (hw : w.isRef = true) (hd : decode c.code pc = .ok (.areturn, 1)) (hc : cells ≤ C) (hs : slots ≤ S) (hq : Q (some w) T.heap locs) (hlocks : meth.locks = false := by first | assumption | exact BodyLoose.notSynchronized (by assumption)) : Own p e below s Q C S (T.setTop (mkF m pc Ls (w :: rest))) :=
  own_ret X (fun h => by rw [hret] at h; cases h) hlocks hc hs hq fun fs hr => retOut X hx hret (by cases t <;> cases w <;> simp [FieldType.isReference, Value.isRef] at ht hw <;> rfl) (Or.inr (Or.inr (Or.inr (Or.inr ⟨rfl, ht, hw⟩)))) hd hr
theorem own_ret0 (X : Stand p l e R s m args below meth c T locs cells slots) (hx : p.tables.exec = Jvm.exec) {pc : Nat} {Ls : Array Slot} (hret : meth.sig.returnType = none) (hd : decode c.code pc = .ok (.return_, 1)) (hc : cells ≤ C) (hs : slots ≤ S) (hq : Q none T.heap locs) (hlocks : meth.locks = false := by first | assumption | exact BodyLoose.notSynchronized (by assumption)) : Own p e below s Q C S (T.setTop (mkF m pc Ls [])) :=
  own_ret X (fun _ => rfl) hlocks hc hs hq fun fs hr => X.returnOut hx hret hd hr
theorem own_lt1 {a b : Int64} (h : a < b) : ifCond.holds .lt (lcmpW a b) = true ∧ ifCond.holds .ge (lcmpW a b) = false := by
  have h1 : ¬ a > b := fun q => by rw [gt_iff_lt, Int64.lt_iff_toInt_lt] at q; rw [Int64.lt_iff_toInt_lt] at h; omega
  have h2 : ¬ a = b := fun q => by subst q; exact h1 h
  rw [lcmpW, if_neg h1, if_neg h2]; exact ⟨rfl, rfl⟩
theorem own_lt0 {a b : Int64} (h : ¬ a < b) : ifCond.holds .lt (lcmpW a b) = false ∧ ifCond.holds .ge (lcmpW a b) = true := by
  rw [lcmpW]
  by_cases h1 : a > b
  · rw [if_pos h1]; exact ⟨rfl, rfl⟩
  · have h2 : a = b := by rw [gt_iff_lt, Int64.lt_iff_toInt_lt] at h1; rw [Int64.lt_iff_toInt_lt] at h; exact Int64.toInt_inj.mp (by omega)
    rw [if_neg h1, if_pos h2]; exact ⟨rfl, rfl⟩
theorem own_gt1 {a b : Int64} (h : b < a) : ifCond.holds .gt (lcmpW a b) = true ∧ ifCond.holds .le (lcmpW a b) = false := by
  rw [lcmpW, if_pos h]; exact ⟨rfl, rfl⟩
theorem own_gt0 {a b : Int64} (h : ¬ b < a) : ifCond.holds .gt (lcmpW a b) = false ∧ ifCond.holds .le (lcmpW a b) = true := by
  rw [lcmpW, if_neg h]
  by_cases h1 : a = b
  · rw [if_pos h1]; exact ⟨rfl, rfl⟩
  · rw [if_neg h1]; exact ⟨rfl, rfl⟩
theorem own_eq1 {a b : Int64} (h : a = b) : ifCond.holds .eq (lcmpW a b) = true ∧ ifCond.holds .ne (lcmpW a b) = false := by
  have h1 : ¬ a > b := fun q => by subst h; rw [gt_iff_lt, Int64.lt_iff_toInt_lt] at q; omega
  rw [lcmpW, if_neg h1, if_pos h]; exact ⟨rfl, rfl⟩
theorem own_eq0 {a b : Int64} (h : ¬ a = b) : ifCond.holds .eq (lcmpW a b) = false ∧ ifCond.holds .ne (lcmpW a b) = true := by
  rw [lcmpW]
  by_cases h1 : a > b
  · rw [if_pos h1]; exact ⟨rfl, rfl⟩
  · rw [if_neg h1, if_neg h]; exact ⟨rfl, rfl⟩
theorem own_sta_keep {Z : State} {h h' : Heap} {C n d : String} {w : Value} (F : Sta Z h C n d w) (K : Keep h h' []) : Sta Z h' C n d w := by
  obtain ⟨cf, i, k, f, st, cell, h1, h2, h3, h4, h5, h6⟩ := F
  exact ⟨cf, i, k, f, st, cell, h1, h2, h3, h4, K.2.1 st cell h5 nin0, h6⟩
theorem own_arr_keep {Z : State} {h h' : Heap} {a : Addr} {cl : Cell} {ty : FieldType} {ws : List Addr} (A : Arr Z h a cl ty) (K : Keep h h' ws) (q : a ∉ ws) : Arr Z h' a cl ty := ⟨K.2.1 a cl A.1 q, A.2⟩
end OwnKit


theorem d2_0 : decode jdk_30_method_1_code 0 = .ok (.aload_n 0, 1) := by decide +kernel
theorem d2_1 : decode jdk_30_method_1_code 1 = .ok (.invokespecial 1, 3) := by decide +kernel
theorem d2_4 : decode jdk_30_method_1_code 4 = .ok (.return_, 1) := by decide +kernel
theorem pn_2 : plainName "java/lang/Record" = true := by first | (simp [plainName, overriddenIn]; done) | decide +kernel
theorem ef_2 (m : MethodId) (x0 : Addr) : entryFrame m #[(.ref x0)] 1 = mkF m 0 #[.val (.ref x0)] [] := by first | (simp [entryFrame, mkF, argsToLocals, Value.category]; done) | rfl
def Q2 (Z : State) (a1 : Addr) (h0 : Heap) (n0 : Nat) (v : Option Value) (h : Heap) (L : List Loc) : Prop := v = none ∧ Fr n0 L ∧ h = h0
set_option maxRecDepth 65536 in
set_option maxHeartbeats 40000000 in
theorem rm2 (l : Launch) (Z : State) (a0 : Array Value) (hw : ∀ d ∈ tables_1, d.before a0 Z = true) (ws : List Jvm.Cond) (a1 : Addr) (h0 : Heap) (n0 : Nat) (Z0 : n0 ≤ h0.size)  :
    MetFree l (⟨"java/lang/Record", "<init>", "()V"⟩ : MethodName) (head1 (Jvm.Cond.code (⟨"java/lang/Record", "<init>", "()V"⟩ : MethodName) jdk_30_method_1_code 1 none :: ws) ({ frames := 1, cells := 0, slots := 0, locals := 12 } : Room)) (fun a U => a = #[(.ref a1)] ∧ Z.Warmed39 U.vm ∧ U.heap = h0) (fun _ _ _ _ _ => True) (fun _ U o U' => ∃ v L, o = .returned v ∧ Q2 Z a1 h0 n0 v U'.heap L ∧ FrameEnd U o U' L ({ frames := 1, cells := 0, slots := 0, locals := 12 } : Room).cells ({ frames := 1, cells := 0, slots := 0, locals := 12 } : Room).slots) := by
  refine MetFree.of_bodySF (plainFor_of_name pn_2) hisR ?_
  intro p e s m args below meth c s₁ Bd hml0 hP hK
  obtain ⟨rfl, hZ, hh⟩ := hP
  have hx := Bd.exec
  have hby := Bd.bytes
  have hml : c.maxLocals = 1 := hml0
  have hown : s.vm.findClass "java/lang/Record" = some m.cls := findClass_of_methodNamed Bd.named
  have hnm := (name_of_methodNamed Bd.named Bd.method).1
  have X0 : Stand p l e ({ frames := 1, cells := 0, slots := 0, locals := 12 } : Room) s m #[(.ref a1)] below meth c s₁ [] 0 0 := Stand.of_body Bd
  have e0 : s₁.heap = h0 := by rw [← hh, Bd.state]; rfl
  have N0 := Fr.nil n0
  refine own_start (Q := Q2 Z a1 h0 n0) (C := ({ frames := 1, cells := 0, slots := 0, locals := 12 } : Room).cells) (S := ({ frames := 1, cells := 0, slots := 0, locals := 12 } : Room).slots) ?_
  rw [ef_2 m a1]
  refine Gen.on (b := s₁.setTop (mkF m 1 #[.val (.ref a1)] [(.ref a1)])) ?_ (fun t k => XS.aloadN X0.here hx rfl (hb hby d2_0) rfl rfl k)
  obtain ⟨T1, X1, e1, st1⟩ := initO X0 hx hZ hown (hw _ (List.mem_of_getElem? (i := 12) rfl)) (hw _ (List.mem_of_getElem? (i := 13) rfl)) (hw _ (List.mem_of_getElem? (i := 14) rfl)) e0 (g := (mkF m 1 #[.val (.ref a1)] [(.ref a1)])) rfl (by rw [hml]; rfl) rfl (hb hby d2_1) (by decide) (W := 0) (by show 2 * 0 + _ ≤ _; exact Nat.le_of_eq rfl) (by decide)
  refine Gen.on (b := T1.setTop (mkF m 4 #[.val (.ref a1)] [])) ?_ (fun t k => st1 t k)
  refine own_ret0 X1 hx Bd.returns (hb hby d2_4) (by decide) (by decide) ?_
  exact ⟨rfl, N0, e1⟩

theorem d1_0 : decode prog_11_method_1_code 0 = .ok (.aload_n 0, 1) := by decide +kernel
theorem d1_1 : decode prog_11_method_1_code 1 = .ok (.invokespecial 3, 3) := by decide +kernel
theorem d1_4 : decode prog_11_method_1_code 4 = .ok (.lload_n 1, 1) := by decide +kernel
theorem d1_5 : decode prog_11_method_1_code 5 = .ok (.lconst 0, 1) := by decide +kernel
theorem d1_6 : decode prog_11_method_1_code 6 = .ok (.lcmp, 1) := by decide +kernel
theorem d1_7 : decode prog_11_method_1_code 7 = .ok (.ifCond .ge 17, 3) := by decide +kernel
theorem d1_24 : decode prog_11_method_1_code 24 = .ok (.lload_n 3, 1) := by decide +kernel
theorem d1_25 : decode prog_11_method_1_code 25 = .ok (.lconst 0, 1) := by decide +kernel
theorem d1_26 : decode prog_11_method_1_code 26 = .ok (.lcmp, 1) := by decide +kernel
theorem d1_27 : decode prog_11_method_1_code 27 = .ok (.ifCond .ge 17, 3) := by decide +kernel
theorem d1_44 : decode prog_11_method_1_code 44 = .ok (.aload_n 0, 1) := by decide +kernel
theorem d1_45 : decode prog_11_method_1_code 45 = .ok (.lload_n 1, 1) := by decide +kernel
theorem d1_46 : decode prog_11_method_1_code 46 = .ok (.putfield 19, 3) := by decide +kernel
theorem d1_49 : decode prog_11_method_1_code 49 = .ok (.aload_n 0, 1) := by decide +kernel
theorem d1_50 : decode prog_11_method_1_code 50 = .ok (.lload_n 3, 1) := by decide +kernel
theorem d1_51 : decode prog_11_method_1_code 51 = .ok (.putfield 25, 3) := by decide +kernel
theorem d1_54 : decode prog_11_method_1_code 54 = .ok (.return_, 1) := by decide +kernel
theorem pn_1 : plainName "com/example/theseus/theseus/language/Page" = true := by first | (simp [plainName, overriddenIn]; done) | decide +kernel
theorem pd_1_0 : parseMethodDescriptor "()V" = some ⟨[], none⟩ := by decide +kernel
theorem ef_1 (m : MethodId) (x0 : Addr) (x1 : Int64) (x2 : Int64) : entryFrame m #[(.ref x0), (.long x1), (.long x2)] 5 = mkF m 0 #[.val (.ref x0), .val (.long x1), .second, .val (.long x2), .second] [] := by first | (simp [entryFrame, mkF, argsToLocals, Value.category]; done) | rfl
def Q1 (Z : State) (a1 : Addr) (q2 : Int64) (q3 : Int64) (u1 : Value) (u2 : Value) (h0 : Heap) (n0 : Nat) (v : Option Value) (h : Heap) (L : List Loc) : Prop := v = none ∧ Fr n0 L ∧ Keep h0 h [a1] ∧ Exa Z h a1 "com/example/theseus/theseus/language/Page" ∧ Fld Z h a1 "com/example/theseus/theseus/language/Page" "offset" "J" (.long q2) ∧ Fld Z h a1 "com/example/theseus/theseus/language/Page" "limit" "J" (.long q3)
set_option maxRecDepth 65536 in
set_option maxHeartbeats 40000000 in
theorem rm1 (l : Launch) (Z : State) (a0 : Array Value) (hw : ∀ d ∈ tables_1, d.before a0 Z = true) (ws : List Jvm.Cond) (a1 : Addr) (q2 : Int64) (q3 : Int64) (u1 : Value) (u2 : Value) (h0 : Heap) (n0 : Nat) (Z0 : n0 ≤ h0.size) (P0 : Exa Z h0 a1 "com/example/theseus/theseus/language/Page") (P1 : Fld Z h0 a1 "com/example/theseus/theseus/language/Page" "offset" "J" u1) (P2 : Fld Z h0 a1 "com/example/theseus/theseus/language/Page" "limit" "J" u2) (g_a1 : n0 ≤ a1) (hc0 : ¬ (q2 < (0 : Int64))) (hc1 : ¬ (q3 < (0 : Int64))) :
    MetFree l (⟨"com/example/theseus/theseus/language/Page", "<init>", "(JJ)V"⟩ : MethodName) (head1 (Jvm.Cond.code (⟨"com/example/theseus/theseus/language/Page", "<init>", "(JJ)V"⟩ : MethodName) prog_11_method_1_code 5 none :: ws) ({ frames := 2, cells := 0, slots := 0, locals := 24 } : Room)) (fun a U => a = #[(.ref a1), (.long q2), (.long q3)] ∧ Z.Warmed39 U.vm ∧ U.heap = h0) (fun _ _ _ _ _ => True) (fun _ U o U' => ∃ v L, o = .returned v ∧ Q1 Z a1 q2 q3 u1 u2 h0 n0 v U'.heap L ∧ FrameEnd U o U' L ({ frames := 2, cells := 0, slots := 0, locals := 24 } : Room).cells ({ frames := 2, cells := 0, slots := 0, locals := 24 } : Room).slots) := by
  refine MetFree.of_bodySF (plainFor_of_name pn_1) hisR ?_
  intro p e s m args below meth c s₁ Bd hml0 hP hK
  obtain ⟨rfl, hZ, hh⟩ := hP
  have hx := Bd.exec
  have hby := Bd.bytes
  have hml : c.maxLocals = 5 := hml0
  have hown : s.vm.findClass "com/example/theseus/theseus/language/Page" = some m.cls := findClass_of_methodNamed Bd.named
  have hnm := (name_of_methodNamed Bd.named Bd.method).1
  have X0 : Stand p l e ({ frames := 2, cells := 0, slots := 0, locals := 24 } : Room) s m #[(.ref a1), (.long q2), (.long q3)] below meth c s₁ [] 0 0 := Stand.of_body Bd
  have e0 : s₁.heap = h0 := by rw [← hh, Bd.state]; rfl
  have N0 := Fr.nil n0
  refine own_start (Q := Q1 Z a1 q2 q3 u1 u2 h0 n0) (C := ({ frames := 2, cells := 0, slots := 0, locals := 24 } : Room).cells) (S := ({ frames := 2, cells := 0, slots := 0, locals := 24 } : Room).slots) ?_
  rw [ef_1 m a1 q2 q3]
  have K0 : Keep h0 h0 [a1] := Keep.refl h0 [a1]
  refine Gen.on (b := s₁.setTop (mkF m 1 #[.val (.ref a1), .val (.long q2), .second, .val (.long q3), .second] [(.ref a1)])) ?_ (fun t k => XS.aloadN X0.here hx rfl (hb hby d1_0) rfl rfl k)
  obtain ⟨_, _, ⟨T1, L1, k1, n1⟩, -, X1, ⟨Lc1, hQ1, l1, y1, z1⟩, st1⟩ := X0.specialBack hx (y := (⟨"java/lang/Record", "<init>", "()V"⟩ : MethodName)) rfl hown (mvT hZ (hw _ (List.mem_of_getElem? (i := 7) rfl))) (mvT hZ (hw _ (List.mem_of_getElem? (i := 8) rfl))) (mvT hZ (hw _ (List.mem_of_getElem? (i := 11) rfl))) (by decide) (backOf (W := 0) (rm2 l Z a0 hw [] a1  h0 n0 Z0 ) hZ (hw _ (List.mem_of_getElem? (i := 11) rfl)) (hw _ (List.mem_of_getElem? (i := 10) rfl)) (by decide) (by decide)) (g := (mkF m 1 #[.val (.ref a1), .val (.long q2), .second, .val (.long q3), .second] [(.ref a1)])) rfl (by rw [hml]; rfl) (Steps.refl _) (a := a1) (argsL := []) (rest := []) (lenOf pd_1_0 rfl) rfl (by show 2 * 0 + _ ≤ _; exact Nat.le_of_eq rfl) (hb hby d1_1) (fun _ _ => ⟨rfl, e0, (by decide : 0 + 0 ≤ _), (by decide : 0 + 0 ≤ _)⟩)
  dsimp only [Pt.U, Pt.locs, Pt.cells, Pt.slots] at X1 l1 y1 z1 st1 hQ1
  subst l1 y1 z1
  obtain ⟨rfl, N1q, e1⟩ := hQ1
  have N1 := Fr.app N0 N1q
  refine Gen.on (b := T1.setTop (mkF m 4 #[.val (.ref a1), .val (.long q2), .second, .val (.long q3), .second] [])) ?_ (fun t k => st1.trans k)
  refine Gen.on (b := T1.setTop (mkF m 5 #[.val (.ref a1), .val (.long q2), .second, .val (.long q3), .second] [(.long q2)])) ?_ (fun t k => XS.lloadN X1.here hx rfl (hb hby d1_4) rfl k)
  refine Gen.on (b := T1.setTop (mkF m 6 #[.val (.ref a1), .val (.long q2), .second, .val (.long q3), .second] [(.long (0 : Int64)), (.long q2)])) ?_ (fun t k => XS.lconst X1.here hx rfl (hb hby d1_5) k)
  refine Gen.on (b := T1.setTop (mkF m 7 #[.val (.ref a1), .val (.long q2), .second, .val (.long q3), .second] [(.int (lcmpW q2 (0 : Int64)))])) ?_ (fun t k => XS.lcmp X1.here hx rfl (hb hby d1_6) rfl k)
  refine Gen.on (b := T1.setTop (mkF m 24 #[.val (.ref a1), .val (.long q2), .second, .val (.long q3), .second] [])) ?_ (fun t k => XS.ifYes X1.here hx rfl (pc0 := 7) (pc' := 24) rfl (hb hby d1_7) rfl (own_lt0 hc0).2 (by decide) (by decide) k)
  refine Gen.on (b := T1.setTop (mkF m 25 #[.val (.ref a1), .val (.long q2), .second, .val (.long q3), .second] [(.long q3)])) ?_ (fun t k => XS.lloadN X1.here hx rfl (hb hby d1_24) rfl k)
  refine Gen.on (b := T1.setTop (mkF m 26 #[.val (.ref a1), .val (.long q2), .second, .val (.long q3), .second] [(.long (0 : Int64)), (.long q3)])) ?_ (fun t k => XS.lconst X1.here hx rfl (hb hby d1_25) k)
  refine Gen.on (b := T1.setTop (mkF m 27 #[.val (.ref a1), .val (.long q2), .second, .val (.long q3), .second] [(.int (lcmpW q3 (0 : Int64)))])) ?_ (fun t k => XS.lcmp X1.here hx rfl (hb hby d1_26) rfl k)
  refine Gen.on (b := T1.setTop (mkF m 44 #[.val (.ref a1), .val (.long q2), .second, .val (.long q3), .second] [])) ?_ (fun t k => XS.ifYes X1.here hx rfl (pc0 := 27) (pc' := 44) rfl (hb hby d1_27) rfl (own_lt0 hc1).2 (by decide) (by decide) k)
  refine Gen.on (b := T1.setTop (mkF m 45 #[.val (.ref a1), .val (.long q2), .second, .val (.long q3), .second] [(.ref a1)])) ?_ (fun t k => XS.aloadN X1.here hx rfl (hb hby d1_44) rfl rfl k)
  refine Gen.on (b := T1.setTop (mkF m 46 #[.val (.ref a1), .val (.long q2), .second, .val (.long q3), .second] [(.long q2), (.ref a1)])) ?_ (fun t k => XS.lloadN X1.here hx rfl (hb hby d1_45) rfl k)
  obtain ⟨T2, h2, X2, e2, W2, st2⟩ := putF X1 hx hZ hown (host := "") (Or.inl (hw _ (List.mem_of_getElem? (i := 15) rfl))) Via.refl e1 P1 P0 (Or.inr ⟨(hw _ (List.mem_of_getElem? (i := 16) rfl)), rfl, hnm⟩) (hw _ (List.mem_of_getElem? (i := 2) rfl)) (ty := .long) (by decide) rfl rfl (g := (mkF m 46 #[.val (.ref a1), .val (.long q2), .second, .val (.long q3), .second] [(.long q2), (.ref a1)])) rfl rfl (hb hby d1_46)
  have Fw2 := P1.same W2
  have Z2 : n0 ≤ h2.size := Nat.le_trans Z0 (Keep.of_wr W2).1
  have K2 : Keep h0 h2 [a1] := K0.wr W2 (Or.inl (List.mem_of_getElem? (i := 0) rfl))
  have N2 := Fr.snoc X2 N1 g_a1
  refine Gen.on (b := T2.setTop (mkF m 49 #[.val (.ref a1), .val (.long q2), .second, .val (.long q3), .second] [])) ?_ (fun t k => st2 t k)
  refine Gen.on (b := T2.setTop (mkF m 50 #[.val (.ref a1), .val (.long q2), .second, .val (.long q3), .second] [(.ref a1)])) ?_ (fun t k => XS.aloadN X2.here hx rfl (hb hby d1_49) rfl rfl k)
  refine Gen.on (b := T2.setTop (mkF m 51 #[.val (.ref a1), .val (.long q2), .second, .val (.long q3), .second] [(.long q3), (.ref a1)])) ?_ (fun t k => XS.lloadN X2.here hx rfl (hb hby d1_50) rfl k)
  have fa3 := (P2.other W2 (Or.inr (slot_ne (Or.inr (hw _ (List.mem_of_getElem? (i := 18) rfl))) (Or.inr (hw _ (List.mem_of_getElem? (i := 16) rfl))) (by decide) (t := .long) (t' := .long) (by decide) (by decide))))
  have fa4 := (P0.wr W2)
  obtain ⟨T5, h5, X5, e5, W5, st5⟩ := putF X2 hx hZ hown (host := "") (Or.inl (hw _ (List.mem_of_getElem? (i := 17) rfl))) Via.refl e2 fa3 fa4 (Or.inr ⟨(hw _ (List.mem_of_getElem? (i := 18) rfl)), rfl, hnm⟩) (hw _ (List.mem_of_getElem? (i := 2) rfl)) (ty := .long) (by decide) rfl rfl (g := (mkF m 51 #[.val (.ref a1), .val (.long q2), .second, .val (.long q3), .second] [(.long q3), (.ref a1)])) rfl rfl (hb hby d1_51)
  have Fw5 := fa3.same W5
  have Z5 : n0 ≤ h5.size := Nat.le_trans Z2 (Keep.of_wr W5).1
  have K5 : Keep h0 h5 [a1] := K2.wr W5 (Or.inl (List.mem_of_getElem? (i := 0) rfl))
  have N5 := Fr.snoc X5 N2 g_a1
  refine Gen.on (b := T5.setTop (mkF m 54 #[.val (.ref a1), .val (.long q2), .second, .val (.long q3), .second] [])) ?_ (fun t k => st5 t k)
  refine own_ret0 X5 hx Bd.returns (hb hby d1_54) (by decide) (by decide) ?_
  have fa6 := (fa4.wr W5)
  have fa7 := (Fw2.other W5 (Or.inr (slot_ne (Or.inr (hw _ (List.mem_of_getElem? (i := 16) rfl))) (Or.inr (hw _ (List.mem_of_getElem? (i := 18) rfl))) (by decide) (t := .long) (t' := .long) (by decide) (by decide))))
  show Q1 Z a1 q2 q3 u1 u2 h0 n0 _ T5.heap _
  rw [e5]
  exact ⟨rfl, N5, K5, fa6, fa7, Fw5⟩
def f4 (w1 : Int64) : Int32 := if w1 = (9223372036854775807 : Int64) then (0 : Int32) else (1 : Int32)
theorem d4_0 : decode prog_11_method_2_code 0 = .ok (.aload_n 0, 1) := by decide +kernel
theorem d4_1 : decode prog_11_method_2_code 1 = .ok (.getfield 25, 3) := by decide +kernel
theorem d4_4 : decode prog_11_method_2_code 4 = .ok (.ldc2_w 28, 3) := by decide +kernel
theorem d4_7 : decode prog_11_method_2_code 7 = .ok (.lcmp, 1) := by decide +kernel
theorem d4_8 : decode prog_11_method_2_code 8 = .ok (.ifCond .eq 7, 3) := by decide +kernel
theorem d4_11 : decode prog_11_method_2_code 11 = .ok (.iconst 1, 1) := by decide +kernel
theorem d4_12 : decode prog_11_method_2_code 12 = .ok (.goto 4, 3) := by decide +kernel
theorem d4_15 : decode prog_11_method_2_code 15 = .ok (.iconst 0, 1) := by decide +kernel
theorem d4_16 : decode prog_11_method_2_code 16 = .ok (.ireturn, 1) := by decide +kernel
theorem pn_4 : plainName "com/example/theseus/theseus/language/Page" = true := by first | (simp [plainName, overriddenIn]; done) | decide +kernel
theorem ef_4 (m : MethodId) (x0 : Addr) : entryFrame m #[(.ref x0)] 1 = mkF m 0 #[.val (.ref x0)] [] := by first | (simp [entryFrame, mkF, argsToLocals, Value.category]; done) | rfl
def Q4 (Z : State) (a1 : Addr) (w1 : Int64) (h0 : Heap) (n0 : Nat) (v : Option Value) (h : Heap) (L : List Loc) : Prop := v = some (.int (f4 w1)) ∧ Fr n0 L ∧ h = h0
set_option maxRecDepth 65536 in
set_option maxHeartbeats 40000000 in
theorem rm4 (l : Launch) (Z : State) (a0 : Array Value) (hw : ∀ d ∈ tables_1, d.before a0 Z = true) (ws : List Jvm.Cond) (a1 : Addr) (w1 : Int64) (h0 : Heap) (n0 : Nat) (Z0 : n0 ≤ h0.size) (P0 : Fld Z h0 a1 "com/example/theseus/theseus/language/Page" "limit" "J" (.long w1)) :
    MetFree l (⟨"com/example/theseus/theseus/language/Page", "isLimited", "()Z"⟩ : MethodName) (head1 (Jvm.Cond.code (⟨"com/example/theseus/theseus/language/Page", "isLimited", "()Z"⟩ : MethodName) prog_11_method_2_code 1 (some .boolean) :: ws) ({ frames := 0, cells := 0, slots := 0, locals := 0 } : Room)) (fun a U => a = #[(.ref a1)] ∧ Z.Warmed39 U.vm ∧ U.heap = h0) (fun _ _ _ _ _ => True) (fun _ U o U' => ∃ v L, o = .returned v ∧ Q4 Z a1 w1 h0 n0 v U'.heap L ∧ FrameEnd U o U' L ({ frames := 0, cells := 0, slots := 0, locals := 0 } : Room).cells ({ frames := 0, cells := 0, slots := 0, locals := 0 } : Room).slots) := by
  refine MetFree.of_bodySF (plainFor_of_name pn_4) hisR ?_
  intro p e s m args below meth c s₁ Bd hml0 hP hK
  obtain ⟨rfl, hZ, hh⟩ := hP
  have hx := Bd.exec
  have hby := Bd.bytes
  have hml : c.maxLocals = 1 := hml0
  have hown : s.vm.findClass "com/example/theseus/theseus/language/Page" = some m.cls := findClass_of_methodNamed Bd.named
  have hnm := (name_of_methodNamed Bd.named Bd.method).1
  have X0 : Stand p l e ({ frames := 0, cells := 0, slots := 0, locals := 0 } : Room) s m #[(.ref a1)] below meth c s₁ [] 0 0 := Stand.of_body Bd
  have e0 : s₁.heap = h0 := by rw [← hh, Bd.state]; rfl
  have N0 := Fr.nil n0
  refine own_start (Q := Q4 Z a1 w1 h0 n0) (C := ({ frames := 0, cells := 0, slots := 0, locals := 0 } : Room).cells) (S := ({ frames := 0, cells := 0, slots := 0, locals := 0 } : Room).slots) ?_
  rw [ef_4 m a1]
  refine Gen.on (b := s₁.setTop (mkF m 1 #[.val (.ref a1)] [(.ref a1)])) ?_ (fun t k => XS.aloadN X0.here hx rfl (hb hby d4_0) rfl rfl k)
  obtain ⟨T1, X1, e1, st1⟩ := getF X0 hx hZ hown (host := "") (Or.inl (hw _ (List.mem_of_getElem? (i := 17) rfl))) Via.refl e0 P0 (g := (mkF m 1 #[.val (.ref a1)] [(.ref a1)])) rfl rfl (hb hby d4_1)
  refine Gen.on (b := T1.setTop (mkF m 4 #[.val (.ref a1)] [(.long w1)])) ?_ (fun t k => st1 t k)
  refine Gen.on (b := T1.setTop (mkF m 7 #[.val (.ref a1)] [(.long (9223372036854775807 : Int64)), (.long w1)])) ?_ (fun t k => X1.ldc2Long hx hown (mvT hZ (hw _ (List.mem_of_getElem? (i := 24) rfl))) (g := (mkF m 4 #[.val (.ref a1)] [(.long w1)])) rfl (hb hby d4_4) t k)
  refine Gen.on (b := T1.setTop (mkF m 8 #[.val (.ref a1)] [(.int (lcmpW w1 (9223372036854775807 : Int64)))])) ?_ (fun t k => XS.lcmp X1.here hx rfl (hb hby d4_7) rfl k)
  by_cases c8_1 : w1 = (9223372036854775807 : Int64)
  · refine Gen.on (b := T1.setTop (mkF m 15 #[.val (.ref a1)] [])) ?_ (fun t k => XS.ifYes X1.here hx rfl (pc0 := 8) (pc' := 15) rfl (hb hby d4_8) rfl (own_eq1 c8_1).1 (by decide) (by decide) k)
    refine Gen.on (b := T1.setTop (mkF m 16 #[.val (.ref a1)] [(.int (0 : Int32))])) ?_ (fun t k => XS.iconst X1.here hx rfl (hb hby d4_15) k)
    refine own_retN (t := .boolean) X1 hx Bd.returns (by simp) (by decide) (hb hby d4_16) (by decide) (by decide) ?_
    exact ⟨(by simp only [f4, if_pos c8_1]), N0, e1⟩
  · refine Gen.on (b := T1.setTop (mkF m 11 #[.val (.ref a1)] [])) ?_ (fun t k => XS.ifNo X1.here hx rfl (hb hby d4_8) rfl (own_eq0 c8_1).1 k)
    refine Gen.on (b := T1.setTop (mkF m 12 #[.val (.ref a1)] [(.int (1 : Int32))])) ?_ (fun t k => XS.iconst X1.here hx rfl (hb hby d4_11) k)
    refine Gen.on (b := T1.setTop (mkF m 16 #[.val (.ref a1)] [(.int (1 : Int32))])) ?_ (fun t k => XS.goto X1.here hx rfl (pc0 := 12) (pc' := 16) rfl (hb hby d4_12) (by decide) (by decide) k)
    refine own_retN (t := .boolean) X1 hx Bd.returns (by simp) (by decide) (hb hby d4_16) (by decide) (by decide) ?_
    exact ⟨(by simp only [f4, if_neg c8_1]), N0, e1⟩

theorem own_nn (x : Int64) : ¬ ((x &&& (9223372036854775807 : Int64)) < (0 : Int64)) := by
  have e : (x &&& (9223372036854775807 : Int64)).toInt = x.toInt % 2 ^ 63 := Jvm.Kit.i64_mask x 9223372036854775807 (k := 63) (by decide) (by decide)
  have e0 : (0 : Int64).toInt = 0 := by decide +kernel
  rw [Int64.lt_iff_toInt_lt, e, e0]; omega
theorem own_y (x : Int64) (h : x = (9223372036854775807 : Int64)) : f4 x = 0 := by rw [f4, if_pos h]
theorem own_n (x : Int64) (h : ¬ x = (9223372036854775807 : Int64)) : f4 x = 1 := by rw [f4, if_neg h]

theorem pn_0 : plainName "com/example/theseus/theseus/language/PageIsLimitedPinLaw" = true := by first | (simp [plainName, overriddenIn]; done) | decide +kernel
theorem pd_0_0 : parseMethodDescriptor "(JJ)V" = some ⟨[.long, .long], none⟩ := by decide +kernel
theorem pd_0_1 : parseMethodDescriptor "()Z" = some ⟨[], some .boolean⟩ := by decide +kernel
theorem ef_0 (m : MethodId) (x0 : Int64) (x1 : Int64) (x2 : Int32) : entryFrame m #[(.long x0), (.long x1), (.int x2)] maxLocals = mkF m 0 #[.val (.long x0), .second, .val (.long x1), .second, .val (.int x2), .unset, .unset, .unset, .unset, .unset, .unset, .unset] [] := by first | (simp [entryFrame, mkF, argsToLocals, Value.category, maxLocals]; done) | rfl
def Q0 (n0 : Nat) (v : Option Value) (h : Heap) (L : List Loc) : Prop := v = some (.int 1) ∧ Fr n0 L
set_option maxRecDepth 65536 in
set_option maxHeartbeats 40000000 in
theorem rm0 (l : Launch) (Z : State) (a0 : Array Value) (hw : ∀ d ∈ tables_1, d.before a0 Z = true) (ws : List Jvm.Cond) (q1 : Int64) (q2 : Int64) (p3 : Int32) (h0 : Heap) (n0 : Nat) (Z0 : n0 ≤ h0.size)  :
    MetFree l x (head1 (Jvm.Cond.code x code maxLocals ret :: ws) room_1) (fun a U => a = #[(.long q1), (.long q2), (.int p3)] ∧ Z.Warmed39 U.vm ∧ U.heap = h0) (fun _ _ _ _ _ => True) (fun _ U o U' => ∃ v L, o = .returned v ∧ Q0 n0 v U'.heap L ∧ FrameEnd U o U' L room_1.cells room_1.slots) := by
  refine MetFree.of_bodySF (plainFor_of_name pn_0) hisR ?_
  intro p e s m args below meth c s₁ Bd hml0 hP hK
  obtain ⟨rfl, hZ, hh⟩ := hP
  have hx := Bd.exec
  have hby := Bd.bytes
  have hml : c.maxLocals = 12 := hml0
  have hown : s.vm.findClass "com/example/theseus/theseus/language/PageIsLimitedPinLaw" = some m.cls := findClass_of_methodNamed Bd.named
  have hnm := (name_of_methodNamed Bd.named Bd.method).1
  have X0 : Stand p l e room_1 s m #[(.long q1), (.long q2), (.int p3)] below meth c s₁ [] 0 0 := Stand.of_body Bd
  have e0 : s₁.heap = h0 := by rw [← hh, Bd.state]; rfl
  have N0 := Fr.nil n0
  refine own_start (Q := Q0 n0) (C := room_1.cells) (S := room_1.slots) ?_
  rw [ef_0 m q1 q2 p3]
  refine Gen.on (b := s₁.setTop (mkF m 1 #[.val (.long q1), .second, .val (.long q2), .second, .val (.int p3), .unset, .unset, .unset, .unset, .unset, .unset, .unset] [(.long q1)])) ?_ (fun t k => XS.lloadN X0.here hx rfl (hb hby at_0) rfl k)
  refine Gen.on (b := s₁.setTop (mkF m 4 #[.val (.long q1), .second, .val (.long q2), .second, .val (.int p3), .unset, .unset, .unset, .unset, .unset, .unset, .unset] [(.long (9223372036854775807 : Int64)), (.long q1)])) ?_ (fun t k => X0.ldc2Long hx hown (mvT hZ (hw _ (List.mem_of_getElem? (i := 0) rfl))) (g := (mkF m 1 #[.val (.long q1), .second, .val (.long q2), .second, .val (.int p3), .unset, .unset, .unset, .unset, .unset, .unset, .unset] [(.long q1)])) rfl (hb hby at_1) t k)
  refine Gen.on (b := s₁.setTop (mkF m 5 #[.val (.long q1), .second, .val (.long q2), .second, .val (.int p3), .unset, .unset, .unset, .unset, .unset, .unset, .unset] [(.long (q1 &&& (9223372036854775807 : Int64)))])) ?_ (fun t k => XS.land X0.here hx rfl (hb hby at_4) rfl k)
  refine Gen.on (b := s₁.setTop (mkF m 7 #[.val (.long q1), .second, .val (.long q2), .second, .val (.int p3), .val (.long (q1 &&& (9223372036854775807 : Int64))), .second, .unset, .unset, .unset, .unset, .unset] [])) ?_ (fun t k => XS.lstore X0.here hx rfl (hb hby at_5) rfl (l' := #[.val (.long q1), .second, .val (.long q2), .second, .val (.int p3), .val (.long (q1 &&& (9223372036854775807 : Int64))), .second, .unset, .unset, .unset, .unset, .unset]) rfl k)
  refine Gen.on (b := s₁.setTop (mkF m 9 #[.val (.long q1), .second, .val (.long q2), .second, .val (.int p3), .val (.long (q1 &&& (9223372036854775807 : Int64))), .second, .unset, .unset, .unset, .unset, .unset] [(.int p3)])) ?_ (fun t k => XS.iload X0.here hx rfl (hb hby at_7) rfl k)
  refine Gen.on (b := s₁.setTop (mkF m 10 #[.val (.long q1), .second, .val (.long q2), .second, .val (.int p3), .val (.long (q1 &&& (9223372036854775807 : Int64))), .second, .unset, .unset, .unset, .unset, .unset] [(.int (3 : Int32)), (.int p3)])) ?_ (fun t k => XS.iconst X0.here hx rfl (hb hby at_9) k)
  refine Gen.on (b := s₁.setTop (mkF m 11 #[.val (.long q1), .second, .val (.long q2), .second, .val (.int p3), .val (.long (q1 &&& (9223372036854775807 : Int64))), .second, .unset, .unset, .unset, .unset, .unset] [(.int (p3 &&& (3 : Int32)))])) ?_ (fun t k => XS.iand X0.here hx rfl (hb hby at_10) rfl k)
  refine Gen.on (b := s₁.setTop (mkF m 13 #[.val (.long q1), .second, .val (.long q2), .second, .val (.int p3), .val (.long (q1 &&& (9223372036854775807 : Int64))), .second, .unset, .unset, .val (.int (p3 &&& (3 : Int32))), .unset, .unset] [])) ?_ (fun t k => XS.istore X0.here hx rfl (hb hby at_11) rfl (l' := #[.val (.long q1), .second, .val (.long q2), .second, .val (.int p3), .val (.long (q1 &&& (9223372036854775807 : Int64))), .second, .unset, .unset, .val (.int (p3 &&& (3 : Int32))), .unset, .unset]) rfl k)
  refine Gen.on (b := s₁.setTop (mkF m 15 #[.val (.long q1), .second, .val (.long q2), .second, .val (.int p3), .val (.long (q1 &&& (9223372036854775807 : Int64))), .second, .unset, .unset, .val (.int (p3 &&& (3 : Int32))), .unset, .unset] [(.int (p3 &&& (3 : Int32)))])) ?_ (fun t k => XS.iload X0.here hx rfl (hb hby at_13) rfl k)
  by_cases c15_1 : (p3 &&& (3 : Int32)) = (0 : Int32)
  · refine Gen.on (b := s₁.setTop (mkF m 18 #[.val (.long q1), .second, .val (.long q2), .second, .val (.int p3), .val (.long (q1 &&& (9223372036854775807 : Int64))), .second, .unset, .unset, .val (.int (p3 &&& (3 : Int32))), .unset, .unset] [])) ?_ (fun t k => XS.ifNo X0.here hx rfl (hb hby at_15) rfl ((if0 _ _).trans (teq c15_1).2) k)
    refine Gen.on (b := s₁.setTop (mkF m 21 #[.val (.long q1), .second, .val (.long q2), .second, .val (.int p3), .val (.long (q1 &&& (9223372036854775807 : Int64))), .second, .unset, .unset, .val (.int (p3 &&& (3 : Int32))), .unset, .unset] [(.long (9223372036854775807 : Int64))])) ?_ (fun t k => X0.ldc2Long hx hown (mvT hZ (hw _ (List.mem_of_getElem? (i := 0) rfl))) (g := (mkF m 18 #[.val (.long q1), .second, .val (.long q2), .second, .val (.int p3), .val (.long (q1 &&& (9223372036854775807 : Int64))), .second, .unset, .unset, .val (.int (p3 &&& (3 : Int32))), .unset, .unset] [])) rfl (hb hby at_18) t k)
    refine Gen.on (b := s₁.setTop (mkF m 23 #[.val (.long q1), .second, .val (.long q2), .second, .val (.int p3), .val (.long (q1 &&& (9223372036854775807 : Int64))), .second, .val (.long (9223372036854775807 : Int64)), .second, .val (.int (p3 &&& (3 : Int32))), .unset, .unset] [])) ?_ (fun t k => XS.lstore X0.here hx rfl (hb hby at_21) rfl (l' := #[.val (.long q1), .second, .val (.long q2), .second, .val (.int p3), .val (.long (q1 &&& (9223372036854775807 : Int64))), .second, .val (.long (9223372036854775807 : Int64)), .second, .val (.int (p3 &&& (3 : Int32))), .unset, .unset]) rfl k)
    refine Gen.on (b := s₁.setTop (mkF m 59 #[.val (.long q1), .second, .val (.long q2), .second, .val (.int p3), .val (.long (q1 &&& (9223372036854775807 : Int64))), .second, .val (.long (9223372036854775807 : Int64)), .second, .val (.int (p3 &&& (3 : Int32))), .unset, .unset] [])) ?_ (fun t k => XS.goto X0.here hx rfl (pc0 := 23) (pc' := 59) rfl (hb hby at_23) (by decide) (by decide) k)
    obtain ⟨b1, g1⟩ : ∃ z, z = h0.size := ⟨_, rfl⟩
    have g_b1 : n0 ≤ b1 := Nat.le_trans Z0 (Nat.le_of_eq g1.symm)
    obtain ⟨T1, h1, X1, e1, E1, A1, D1, -, st1⟩ := newO X0 hx hZ hown (hw _ (List.mem_of_getElem? (i := 1) rfl)) (hw _ (List.mem_of_getElem? (i := 2) rfl)) (hw _ (List.mem_of_getElem? (i := 3) rfl)) e0 (g := (mkF m 59 #[.val (.long q1), .second, .val (.long q2), .second, .val (.int p3), .val (.long (q1 &&& (9223372036854775807 : Int64))), .second, .val (.long (9223372036854775807 : Int64)), .second, .val (.int (p3 &&& (3 : Int32))), .unset, .unset] [])) rfl (hb hby at_59) (by decide) (by decide)
    rw [← g1] at A1 D1 st1
    have Z1 : n0 ≤ h1.size := Nat.le_trans Z0 E1.1
    have F1_offset : Fld Z h1 b1 "com/example/theseus/theseus/language/Page" "offset" "J" (.long (0 : Int64)) := D1 (Or.inr (hw _ (List.mem_of_getElem? (i := 16) rfl))) (ty := .long) (by decide)
    have F1_limit : Fld Z h1 b1 "com/example/theseus/theseus/language/Page" "limit" "J" (.long (0 : Int64)) := D1 (Or.inr (hw _ (List.mem_of_getElem? (i := 18) rfl))) (ty := .long) (by decide)
    refine Gen.on (b := T1.setTop (mkF m 62 #[.val (.long q1), .second, .val (.long q2), .second, .val (.int p3), .val (.long (q1 &&& (9223372036854775807 : Int64))), .second, .val (.long (9223372036854775807 : Int64)), .second, .val (.int (p3 &&& (3 : Int32))), .unset, .unset] [(.ref b1)])) ?_ (fun t k => st1 t k)
    refine Gen.on (b := T1.setTop (mkF m 63 #[.val (.long q1), .second, .val (.long q2), .second, .val (.int p3), .val (.long (q1 &&& (9223372036854775807 : Int64))), .second, .val (.long (9223372036854775807 : Int64)), .second, .val (.int (p3 &&& (3 : Int32))), .unset, .unset] [(.ref b1), (.ref b1)])) ?_ (fun t k => XS.dup X1.here hx rfl (hb hby at_62) rfl rfl k)
    refine Gen.on (b := T1.setTop (mkF m 65 #[.val (.long q1), .second, .val (.long q2), .second, .val (.int p3), .val (.long (q1 &&& (9223372036854775807 : Int64))), .second, .val (.long (9223372036854775807 : Int64)), .second, .val (.int (p3 &&& (3 : Int32))), .unset, .unset] [(.long (q1 &&& (9223372036854775807 : Int64))), (.ref b1), (.ref b1)])) ?_ (fun t k => XS.lload X1.here hx rfl (hb hby at_63) rfl k)
    refine Gen.on (b := T1.setTop (mkF m 67 #[.val (.long q1), .second, .val (.long q2), .second, .val (.int p3), .val (.long (q1 &&& (9223372036854775807 : Int64))), .second, .val (.long (9223372036854775807 : Int64)), .second, .val (.int (p3 &&& (3 : Int32))), .unset, .unset] [(.long (9223372036854775807 : Int64)), (.long (q1 &&& (9223372036854775807 : Int64))), (.ref b1), (.ref b1)])) ?_ (fun t k => XS.lload X1.here hx rfl (hb hby at_65) rfl k)
    obtain ⟨_, _, ⟨T2, L2, k2, n2⟩, -, X2, ⟨Lc2, hQ2, l2, y2, z2⟩, st2⟩ := X1.specialBack hx (y := (⟨"com/example/theseus/theseus/language/Page", "<init>", "(JJ)V"⟩ : MethodName)) rfl hown (mvT hZ (hw _ (List.mem_of_getElem? (i := 4) rfl))) (mvT hZ (hw _ (List.mem_of_getElem? (i := 5) rfl))) (mvT hZ (hw _ (List.mem_of_getElem? (i := 6) rfl))) (by decide) (backOf (W := 1) (rm1 l Z a0 hw [] b1 (q1 &&& (9223372036854775807 : Int64)) (9223372036854775807 : Int64) (.long (0 : Int64)) (.long (0 : Int64)) h1 n0 Z1 A1 F1_offset F1_limit g_b1 (own_nn q1) (by decide)) hZ (hw _ (List.mem_of_getElem? (i := 6) rfl)) (hw _ (List.mem_of_getElem? (i := 3) rfl)) (by decide) (by decide)) (g := (mkF m 67 #[.val (.long q1), .second, .val (.long q2), .second, .val (.int p3), .val (.long (q1 &&& (9223372036854775807 : Int64))), .second, .val (.long (9223372036854775807 : Int64)), .second, .val (.int (p3 &&& (3 : Int32))), .unset, .unset] [(.long (9223372036854775807 : Int64)), (.long (q1 &&& (9223372036854775807 : Int64))), (.ref b1), (.ref b1)])) rfl (by rw [hml]; rfl) (Steps.refl _) (a := b1) (argsL := [(.long (q1 &&& (9223372036854775807 : Int64))), (.long (9223372036854775807 : Int64))]) (rest := [(.ref b1)]) (lenOf pd_0_0 rfl) rfl (by show 2 * 0 + _ ≤ _; exact Nat.le_of_eq rfl) (hb hby at_67) (fun _ _ => ⟨rfl, e1, (by decide : 1 + 0 ≤ _), (by decide : 2 + 0 ≤ _)⟩)
    dsimp only [Pt.U, Pt.locs, Pt.cells, Pt.slots] at X2 l2 y2 z2 st2 hQ2
    subst l2 y2 z2
    obtain ⟨rfl, N2q, Kc2, hf2_0, hf2_1, hf2_2⟩ := hQ2
    have N2 := Fr.app N0 N2q
    have Z2 : n0 ≤ T2.heap.size := Nat.le_trans Z1 Kc2.1
    refine Gen.on (b := T2.setTop (mkF m 70 #[.val (.long q1), .second, .val (.long q2), .second, .val (.int p3), .val (.long (q1 &&& (9223372036854775807 : Int64))), .second, .val (.long (9223372036854775807 : Int64)), .second, .val (.int (p3 &&& (3 : Int32))), .unset, .unset] [(.ref b1)])) ?_ (fun t k => st2.trans k)
    refine Gen.on (b := T2.setTop (mkF m 72 #[.val (.long q1), .second, .val (.long q2), .second, .val (.int p3), .val (.long (q1 &&& (9223372036854775807 : Int64))), .second, .val (.long (9223372036854775807 : Int64)), .second, .val (.int (p3 &&& (3 : Int32))), .val (.ref b1), .unset] [])) ?_ (fun t k => XS.astore X2.here hx rfl (hb hby at_70) rfl rfl (l' := #[.val (.long q1), .second, .val (.long q2), .second, .val (.int p3), .val (.long (q1 &&& (9223372036854775807 : Int64))), .second, .val (.long (9223372036854775807 : Int64)), .second, .val (.int (p3 &&& (3 : Int32))), .val (.ref b1), .unset]) rfl k)
    refine Gen.on (b := T2.setTop (mkF m 74 #[.val (.long q1), .second, .val (.long q2), .second, .val (.int p3), .val (.long (q1 &&& (9223372036854775807 : Int64))), .second, .val (.long (9223372036854775807 : Int64)), .second, .val (.int (p3 &&& (3 : Int32))), .val (.ref b1), .unset] [(.long (9223372036854775807 : Int64))])) ?_ (fun t k => XS.lload X2.here hx rfl (hb hby at_72) rfl k)
    refine Gen.on (b := T2.setTop (mkF m 77 #[.val (.long q1), .second, .val (.long q2), .second, .val (.int p3), .val (.long (q1 &&& (9223372036854775807 : Int64))), .second, .val (.long (9223372036854775807 : Int64)), .second, .val (.int (p3 &&& (3 : Int32))), .val (.ref b1), .unset] [(.long (9223372036854775807 : Int64)), (.long (9223372036854775807 : Int64))])) ?_ (fun t k => X2.ldc2Long hx hown (mvT hZ (hw _ (List.mem_of_getElem? (i := 0) rfl))) (g := (mkF m 74 #[.val (.long q1), .second, .val (.long q2), .second, .val (.int p3), .val (.long (q1 &&& (9223372036854775807 : Int64))), .second, .val (.long (9223372036854775807 : Int64)), .second, .val (.int (p3 &&& (3 : Int32))), .val (.ref b1), .unset] [(.long (9223372036854775807 : Int64))])) rfl (hb hby at_74) t k)
    refine Gen.on (b := T2.setTop (mkF m 78 #[.val (.long q1), .second, .val (.long q2), .second, .val (.int p3), .val (.long (q1 &&& (9223372036854775807 : Int64))), .second, .val (.long (9223372036854775807 : Int64)), .second, .val (.int (p3 &&& (3 : Int32))), .val (.ref b1), .unset] [(.int (lcmpW (9223372036854775807 : Int64) (9223372036854775807 : Int64)))])) ?_ (fun t k => XS.lcmp X2.here hx rfl (hb hby at_77) rfl k)
    refine Gen.on (b := T2.setTop (mkF m 85 #[.val (.long q1), .second, .val (.long q2), .second, .val (.int p3), .val (.long (q1 &&& (9223372036854775807 : Int64))), .second, .val (.long (9223372036854775807 : Int64)), .second, .val (.int (p3 &&& (3 : Int32))), .val (.ref b1), .unset] [])) ?_ (fun t k => XS.ifYes X2.here hx rfl (pc0 := 78) (pc' := 85) rfl (hb hby at_78) rfl (own_eq1 (by decide : (9223372036854775807 : Int64) = (9223372036854775807 : Int64))).1 (by decide) (by decide) k)
    refine Gen.on (b := T2.setTop (mkF m 86 #[.val (.long q1), .second, .val (.long q2), .second, .val (.int p3), .val (.long (q1 &&& (9223372036854775807 : Int64))), .second, .val (.long (9223372036854775807 : Int64)), .second, .val (.int (p3 &&& (3 : Int32))), .val (.ref b1), .unset] [(.int (0 : Int32))])) ?_ (fun t k => XS.iconst X2.here hx rfl (hb hby at_85) k)
    refine Gen.on (b := T2.setTop (mkF m 88 #[.val (.long q1), .second, .val (.long q2), .second, .val (.int p3), .val (.long (q1 &&& (9223372036854775807 : Int64))), .second, .val (.long (9223372036854775807 : Int64)), .second, .val (.int (p3 &&& (3 : Int32))), .val (.ref b1), .val (.int (0 : Int32))] [])) ?_ (fun t k => XS.istore X2.here hx rfl (hb hby at_86) rfl (l' := #[.val (.long q1), .second, .val (.long q2), .second, .val (.int p3), .val (.long (q1 &&& (9223372036854775807 : Int64))), .second, .val (.long (9223372036854775807 : Int64)), .second, .val (.int (p3 &&& (3 : Int32))), .val (.ref b1), .val (.int (0 : Int32))]) rfl k)
    refine Gen.on (b := T2.setTop (mkF m 90 #[.val (.long q1), .second, .val (.long q2), .second, .val (.int p3), .val (.long (q1 &&& (9223372036854775807 : Int64))), .second, .val (.long (9223372036854775807 : Int64)), .second, .val (.int (p3 &&& (3 : Int32))), .val (.ref b1), .val (.int (0 : Int32))] [(.ref b1)])) ?_ (fun t k => XS.aload X2.here hx rfl (hb hby at_88) rfl rfl k)
    obtain ⟨cq3, kq3, q3a, q3b, q3c⟩ := isOf hZ rfl hf2_0
    obtain ⟨_, _, ⟨T3, L3, k3, n3⟩, -, X3, ⟨Lc3, hQ3, l3, y3, z3⟩, st3⟩ := X2.virtualBack hx (y := (⟨"com/example/theseus/theseus/language/Page", "isLimited", "()Z"⟩ : MethodName)) (z := (⟨"com/example/theseus/theseus/language/Page", "isLimited", "()Z"⟩ : MethodName)) hown (mvT hZ (hw _ (List.mem_of_getElem? (i := 19) rfl))) (mvT hZ (hw _ (List.mem_of_getElem? (i := 20) rfl))) (notFace_of_selects (args := #[]) (mvT hZ (hw _ (List.mem_of_getElem? (i := 22) rfl)))) (mvT hZ (hw _ (List.mem_of_getElem? (i := 22) rfl))) (mvT hZ (hw _ (List.mem_of_getElem? (i := 21) rfl))) (by decide) (backOf (W := 0) (rm4 l Z a0 hw [] b1 (9223372036854775807 : Int64) T2.heap n0 Z2 hf2_2) hZ (hw _ (List.mem_of_getElem? (i := 23) rfl)) (hw _ (List.mem_of_getElem? (i := 3) rfl)) (by decide) (by decide)) q3a q3c (g := (mkF m 90 #[.val (.long q1), .second, .val (.long q2), .second, .val (.int p3), .val (.long (q1 &&& (9223372036854775807 : Int64))), .second, .val (.long (9223372036854775807 : Int64)), .second, .val (.int (p3 &&& (3 : Int32))), .val (.ref b1), .val (.int (0 : Int32))] [(.ref b1)])) rfl (by rw [hml]; rfl) (Steps.refl _) (argsL := []) (rest := []) (lenOf pd_0_1 rfl) rfl (by show 2 * 0 + _ ≤ _; exact Nat.le_of_eq rfl) (hb hby at_90) (fun _ _ => ⟨rfl, rfl, (by decide : 1 + 0 ≤ _), (by decide : 2 + 0 ≤ _)⟩)
    dsimp only [Pt.U, Pt.locs, Pt.cells, Pt.slots] at X3 l3 y3 z3 st3 hQ3
    subst l3 y3 z3
    obtain ⟨rfl, N3q, e3⟩ := hQ3
    have N3 := Fr.app N2 N3q
    refine Gen.on (b := T3.setTop (mkF m 93 #[.val (.long q1), .second, .val (.long q2), .second, .val (.int p3), .val (.long (q1 &&& (9223372036854775807 : Int64))), .second, .val (.long (9223372036854775807 : Int64)), .second, .val (.int (p3 &&& (3 : Int32))), .val (.ref b1), .val (.int (0 : Int32))] [(.int (f4 (9223372036854775807 : Int64)))])) ?_ (fun t k => st3.trans k)
    refine Gen.on (b := T3.setTop (mkF m 95 #[.val (.long q1), .second, .val (.long q2), .second, .val (.int p3), .val (.long (q1 &&& (9223372036854775807 : Int64))), .second, .val (.long (9223372036854775807 : Int64)), .second, .val (.int (p3 &&& (3 : Int32))), .val (.ref b1), .val (.int (0 : Int32))] [(.int (0 : Int32)), (.int (f4 (9223372036854775807 : Int64)))])) ?_ (fun t k => XS.iload X3.here hx rfl (hb hby at_93) rfl k)
    refine Gen.on (b := T3.setTop (mkF m 98 #[.val (.long q1), .second, .val (.long q2), .second, .val (.int p3), .val (.long (q1 &&& (9223372036854775807 : Int64))), .second, .val (.long (9223372036854775807 : Int64)), .second, .val (.int (p3 &&& (3 : Int32))), .val (.ref b1), .val (.int (0 : Int32))] [])) ?_ (fun t k => XS.icmpNo X3.here hx rfl (hb hby at_95) rfl (teq (own_y (9223372036854775807 : Int64) (by decide : (9223372036854775807 : Int64) = (9223372036854775807 : Int64)))).2 k)
    refine Gen.on (b := T3.setTop (mkF m 99 #[.val (.long q1), .second, .val (.long q2), .second, .val (.int p3), .val (.long (q1 &&& (9223372036854775807 : Int64))), .second, .val (.long (9223372036854775807 : Int64)), .second, .val (.int (p3 &&& (3 : Int32))), .val (.ref b1), .val (.int (0 : Int32))] [(.int (1 : Int32))])) ?_ (fun t k => XS.iconst X3.here hx rfl (hb hby at_98) k)
    refine Gen.on (b := T3.setTop (mkF m 103 #[.val (.long q1), .second, .val (.long q2), .second, .val (.int p3), .val (.long (q1 &&& (9223372036854775807 : Int64))), .second, .val (.long (9223372036854775807 : Int64)), .second, .val (.int (p3 &&& (3 : Int32))), .val (.ref b1), .val (.int (0 : Int32))] [(.int (1 : Int32))])) ?_ (fun t k => XS.goto X3.here hx rfl (pc0 := 99) (pc' := 103) rfl (hb hby at_99) (by decide) (by decide) k)
    refine own_retN (t := .boolean) X3 hx Bd.returns (by simp) (by decide) (hb hby at_103) (by decide) (by decide) ?_
    exact ⟨rfl, N3⟩
  · refine Gen.on (b := s₁.setTop (mkF m 26 #[.val (.long q1), .second, .val (.long q2), .second, .val (.int p3), .val (.long (q1 &&& (9223372036854775807 : Int64))), .second, .unset, .unset, .val (.int (p3 &&& (3 : Int32))), .unset, .unset] [])) ?_ (fun t k => XS.ifYes X0.here hx rfl (pc0 := 15) (pc' := 26) rfl (hb hby at_15) rfl ((if0 _ _).trans (feq c15_1).2) (by decide) (by decide) k)
    refine Gen.on (b := s₁.setTop (mkF m 28 #[.val (.long q1), .second, .val (.long q2), .second, .val (.int p3), .val (.long (q1 &&& (9223372036854775807 : Int64))), .second, .unset, .unset, .val (.int (p3 &&& (3 : Int32))), .unset, .unset] [(.int (p3 &&& (3 : Int32)))])) ?_ (fun t k => XS.iload X0.here hx rfl (hb hby at_26) rfl k)
    refine Gen.on (b := s₁.setTop (mkF m 29 #[.val (.long q1), .second, .val (.long q2), .second, .val (.int p3), .val (.long (q1 &&& (9223372036854775807 : Int64))), .second, .unset, .unset, .val (.int (p3 &&& (3 : Int32))), .unset, .unset] [(.int (1 : Int32)), (.int (p3 &&& (3 : Int32)))])) ?_ (fun t k => XS.iconst X0.here hx rfl (hb hby at_28) k)
    by_cases c29_2 : (p3 &&& (3 : Int32)) = (1 : Int32)
    · refine Gen.on (b := s₁.setTop (mkF m 32 #[.val (.long q1), .second, .val (.long q2), .second, .val (.int p3), .val (.long (q1 &&& (9223372036854775807 : Int64))), .second, .unset, .unset, .val (.int (p3 &&& (3 : Int32))), .unset, .unset] [])) ?_ (fun t k => XS.icmpNo X0.here hx rfl (hb hby at_29) rfl (teq c29_2).2 k)
      refine Gen.on (b := s₁.setTop (mkF m 35 #[.val (.long q1), .second, .val (.long q2), .second, .val (.int p3), .val (.long (q1 &&& (9223372036854775807 : Int64))), .second, .unset, .unset, .val (.int (p3 &&& (3 : Int32))), .unset, .unset] [(.long (9223372036854775806 : Int64))])) ?_ (fun t k => X0.ldc2Long hx hown (mvT hZ (hw _ (List.mem_of_getElem? (i := 25) rfl))) (g := (mkF m 32 #[.val (.long q1), .second, .val (.long q2), .second, .val (.int p3), .val (.long (q1 &&& (9223372036854775807 : Int64))), .second, .unset, .unset, .val (.int (p3 &&& (3 : Int32))), .unset, .unset] [])) rfl (hb hby at_32) t k)
      refine Gen.on (b := s₁.setTop (mkF m 37 #[.val (.long q1), .second, .val (.long q2), .second, .val (.int p3), .val (.long (q1 &&& (9223372036854775807 : Int64))), .second, .val (.long (9223372036854775806 : Int64)), .second, .val (.int (p3 &&& (3 : Int32))), .unset, .unset] [])) ?_ (fun t k => XS.lstore X0.here hx rfl (hb hby at_35) rfl (l' := #[.val (.long q1), .second, .val (.long q2), .second, .val (.int p3), .val (.long (q1 &&& (9223372036854775807 : Int64))), .second, .val (.long (9223372036854775806 : Int64)), .second, .val (.int (p3 &&& (3 : Int32))), .unset, .unset]) rfl k)
      refine Gen.on (b := s₁.setTop (mkF m 59 #[.val (.long q1), .second, .val (.long q2), .second, .val (.int p3), .val (.long (q1 &&& (9223372036854775807 : Int64))), .second, .val (.long (9223372036854775806 : Int64)), .second, .val (.int (p3 &&& (3 : Int32))), .unset, .unset] [])) ?_ (fun t k => XS.goto X0.here hx rfl (pc0 := 37) (pc' := 59) rfl (hb hby at_37) (by decide) (by decide) k)
      obtain ⟨b4, g4⟩ : ∃ z, z = h0.size := ⟨_, rfl⟩
      have g_b4 : n0 ≤ b4 := Nat.le_trans Z0 (Nat.le_of_eq g4.symm)
      obtain ⟨T4, h4, X4, e4, E4, A4, D4, -, st4⟩ := newO X0 hx hZ hown (hw _ (List.mem_of_getElem? (i := 1) rfl)) (hw _ (List.mem_of_getElem? (i := 2) rfl)) (hw _ (List.mem_of_getElem? (i := 3) rfl)) e0 (g := (mkF m 59 #[.val (.long q1), .second, .val (.long q2), .second, .val (.int p3), .val (.long (q1 &&& (9223372036854775807 : Int64))), .second, .val (.long (9223372036854775806 : Int64)), .second, .val (.int (p3 &&& (3 : Int32))), .unset, .unset] [])) rfl (hb hby at_59) (by decide) (by decide)
      rw [← g4] at A4 D4 st4
      have Z4 : n0 ≤ h4.size := Nat.le_trans Z0 E4.1
      have F4_offset : Fld Z h4 b4 "com/example/theseus/theseus/language/Page" "offset" "J" (.long (0 : Int64)) := D4 (Or.inr (hw _ (List.mem_of_getElem? (i := 16) rfl))) (ty := .long) (by decide)
      have F4_limit : Fld Z h4 b4 "com/example/theseus/theseus/language/Page" "limit" "J" (.long (0 : Int64)) := D4 (Or.inr (hw _ (List.mem_of_getElem? (i := 18) rfl))) (ty := .long) (by decide)
      refine Gen.on (b := T4.setTop (mkF m 62 #[.val (.long q1), .second, .val (.long q2), .second, .val (.int p3), .val (.long (q1 &&& (9223372036854775807 : Int64))), .second, .val (.long (9223372036854775806 : Int64)), .second, .val (.int (p3 &&& (3 : Int32))), .unset, .unset] [(.ref b4)])) ?_ (fun t k => st4 t k)
      refine Gen.on (b := T4.setTop (mkF m 63 #[.val (.long q1), .second, .val (.long q2), .second, .val (.int p3), .val (.long (q1 &&& (9223372036854775807 : Int64))), .second, .val (.long (9223372036854775806 : Int64)), .second, .val (.int (p3 &&& (3 : Int32))), .unset, .unset] [(.ref b4), (.ref b4)])) ?_ (fun t k => XS.dup X4.here hx rfl (hb hby at_62) rfl rfl k)
      refine Gen.on (b := T4.setTop (mkF m 65 #[.val (.long q1), .second, .val (.long q2), .second, .val (.int p3), .val (.long (q1 &&& (9223372036854775807 : Int64))), .second, .val (.long (9223372036854775806 : Int64)), .second, .val (.int (p3 &&& (3 : Int32))), .unset, .unset] [(.long (q1 &&& (9223372036854775807 : Int64))), (.ref b4), (.ref b4)])) ?_ (fun t k => XS.lload X4.here hx rfl (hb hby at_63) rfl k)
      refine Gen.on (b := T4.setTop (mkF m 67 #[.val (.long q1), .second, .val (.long q2), .second, .val (.int p3), .val (.long (q1 &&& (9223372036854775807 : Int64))), .second, .val (.long (9223372036854775806 : Int64)), .second, .val (.int (p3 &&& (3 : Int32))), .unset, .unset] [(.long (9223372036854775806 : Int64)), (.long (q1 &&& (9223372036854775807 : Int64))), (.ref b4), (.ref b4)])) ?_ (fun t k => XS.lload X4.here hx rfl (hb hby at_65) rfl k)
      obtain ⟨_, _, ⟨T5, L5, k5, n5⟩, -, X5, ⟨Lc5, hQ5, l5, y5, z5⟩, st5⟩ := X4.specialBack hx (y := (⟨"com/example/theseus/theseus/language/Page", "<init>", "(JJ)V"⟩ : MethodName)) rfl hown (mvT hZ (hw _ (List.mem_of_getElem? (i := 4) rfl))) (mvT hZ (hw _ (List.mem_of_getElem? (i := 5) rfl))) (mvT hZ (hw _ (List.mem_of_getElem? (i := 6) rfl))) (by decide) (backOf (W := 1) (rm1 l Z a0 hw [] b4 (q1 &&& (9223372036854775807 : Int64)) (9223372036854775806 : Int64) (.long (0 : Int64)) (.long (0 : Int64)) h4 n0 Z4 A4 F4_offset F4_limit g_b4 (own_nn q1) (by decide)) hZ (hw _ (List.mem_of_getElem? (i := 6) rfl)) (hw _ (List.mem_of_getElem? (i := 3) rfl)) (by decide) (by decide)) (g := (mkF m 67 #[.val (.long q1), .second, .val (.long q2), .second, .val (.int p3), .val (.long (q1 &&& (9223372036854775807 : Int64))), .second, .val (.long (9223372036854775806 : Int64)), .second, .val (.int (p3 &&& (3 : Int32))), .unset, .unset] [(.long (9223372036854775806 : Int64)), (.long (q1 &&& (9223372036854775807 : Int64))), (.ref b4), (.ref b4)])) rfl (by rw [hml]; rfl) (Steps.refl _) (a := b4) (argsL := [(.long (q1 &&& (9223372036854775807 : Int64))), (.long (9223372036854775806 : Int64))]) (rest := [(.ref b4)]) (lenOf pd_0_0 rfl) rfl (by show 2 * 0 + _ ≤ _; exact Nat.le_of_eq rfl) (hb hby at_67) (fun _ _ => ⟨rfl, e4, (by decide : 1 + 0 ≤ _), (by decide : 2 + 0 ≤ _)⟩)
      dsimp only [Pt.U, Pt.locs, Pt.cells, Pt.slots] at X5 l5 y5 z5 st5 hQ5
      subst l5 y5 z5
      obtain ⟨rfl, N5q, Kc5, hf5_0, hf5_1, hf5_2⟩ := hQ5
      have N5 := Fr.app N0 N5q
      have Z5 : n0 ≤ T5.heap.size := Nat.le_trans Z4 Kc5.1
      refine Gen.on (b := T5.setTop (mkF m 70 #[.val (.long q1), .second, .val (.long q2), .second, .val (.int p3), .val (.long (q1 &&& (9223372036854775807 : Int64))), .second, .val (.long (9223372036854775806 : Int64)), .second, .val (.int (p3 &&& (3 : Int32))), .unset, .unset] [(.ref b4)])) ?_ (fun t k => st5.trans k)
      refine Gen.on (b := T5.setTop (mkF m 72 #[.val (.long q1), .second, .val (.long q2), .second, .val (.int p3), .val (.long (q1 &&& (9223372036854775807 : Int64))), .second, .val (.long (9223372036854775806 : Int64)), .second, .val (.int (p3 &&& (3 : Int32))), .val (.ref b4), .unset] [])) ?_ (fun t k => XS.astore X5.here hx rfl (hb hby at_70) rfl rfl (l' := #[.val (.long q1), .second, .val (.long q2), .second, .val (.int p3), .val (.long (q1 &&& (9223372036854775807 : Int64))), .second, .val (.long (9223372036854775806 : Int64)), .second, .val (.int (p3 &&& (3 : Int32))), .val (.ref b4), .unset]) rfl k)
      refine Gen.on (b := T5.setTop (mkF m 74 #[.val (.long q1), .second, .val (.long q2), .second, .val (.int p3), .val (.long (q1 &&& (9223372036854775807 : Int64))), .second, .val (.long (9223372036854775806 : Int64)), .second, .val (.int (p3 &&& (3 : Int32))), .val (.ref b4), .unset] [(.long (9223372036854775806 : Int64))])) ?_ (fun t k => XS.lload X5.here hx rfl (hb hby at_72) rfl k)
      refine Gen.on (b := T5.setTop (mkF m 77 #[.val (.long q1), .second, .val (.long q2), .second, .val (.int p3), .val (.long (q1 &&& (9223372036854775807 : Int64))), .second, .val (.long (9223372036854775806 : Int64)), .second, .val (.int (p3 &&& (3 : Int32))), .val (.ref b4), .unset] [(.long (9223372036854775807 : Int64)), (.long (9223372036854775806 : Int64))])) ?_ (fun t k => X5.ldc2Long hx hown (mvT hZ (hw _ (List.mem_of_getElem? (i := 0) rfl))) (g := (mkF m 74 #[.val (.long q1), .second, .val (.long q2), .second, .val (.int p3), .val (.long (q1 &&& (9223372036854775807 : Int64))), .second, .val (.long (9223372036854775806 : Int64)), .second, .val (.int (p3 &&& (3 : Int32))), .val (.ref b4), .unset] [(.long (9223372036854775806 : Int64))])) rfl (hb hby at_74) t k)
      refine Gen.on (b := T5.setTop (mkF m 78 #[.val (.long q1), .second, .val (.long q2), .second, .val (.int p3), .val (.long (q1 &&& (9223372036854775807 : Int64))), .second, .val (.long (9223372036854775806 : Int64)), .second, .val (.int (p3 &&& (3 : Int32))), .val (.ref b4), .unset] [(.int (lcmpW (9223372036854775806 : Int64) (9223372036854775807 : Int64)))])) ?_ (fun t k => XS.lcmp X5.here hx rfl (hb hby at_77) rfl k)
      refine Gen.on (b := T5.setTop (mkF m 81 #[.val (.long q1), .second, .val (.long q2), .second, .val (.int p3), .val (.long (q1 &&& (9223372036854775807 : Int64))), .second, .val (.long (9223372036854775806 : Int64)), .second, .val (.int (p3 &&& (3 : Int32))), .val (.ref b4), .unset] [])) ?_ (fun t k => XS.ifNo X5.here hx rfl (hb hby at_78) rfl (own_eq0 (by decide : ¬ ((9223372036854775806 : Int64) = (9223372036854775807 : Int64)))).1 k)
      refine Gen.on (b := T5.setTop (mkF m 82 #[.val (.long q1), .second, .val (.long q2), .second, .val (.int p3), .val (.long (q1 &&& (9223372036854775807 : Int64))), .second, .val (.long (9223372036854775806 : Int64)), .second, .val (.int (p3 &&& (3 : Int32))), .val (.ref b4), .unset] [(.int (1 : Int32))])) ?_ (fun t k => XS.iconst X5.here hx rfl (hb hby at_81) k)
      refine Gen.on (b := T5.setTop (mkF m 86 #[.val (.long q1), .second, .val (.long q2), .second, .val (.int p3), .val (.long (q1 &&& (9223372036854775807 : Int64))), .second, .val (.long (9223372036854775806 : Int64)), .second, .val (.int (p3 &&& (3 : Int32))), .val (.ref b4), .unset] [(.int (1 : Int32))])) ?_ (fun t k => XS.goto X5.here hx rfl (pc0 := 82) (pc' := 86) rfl (hb hby at_82) (by decide) (by decide) k)
      refine Gen.on (b := T5.setTop (mkF m 88 #[.val (.long q1), .second, .val (.long q2), .second, .val (.int p3), .val (.long (q1 &&& (9223372036854775807 : Int64))), .second, .val (.long (9223372036854775806 : Int64)), .second, .val (.int (p3 &&& (3 : Int32))), .val (.ref b4), .val (.int (1 : Int32))] [])) ?_ (fun t k => XS.istore X5.here hx rfl (hb hby at_86) rfl (l' := #[.val (.long q1), .second, .val (.long q2), .second, .val (.int p3), .val (.long (q1 &&& (9223372036854775807 : Int64))), .second, .val (.long (9223372036854775806 : Int64)), .second, .val (.int (p3 &&& (3 : Int32))), .val (.ref b4), .val (.int (1 : Int32))]) rfl k)
      refine Gen.on (b := T5.setTop (mkF m 90 #[.val (.long q1), .second, .val (.long q2), .second, .val (.int p3), .val (.long (q1 &&& (9223372036854775807 : Int64))), .second, .val (.long (9223372036854775806 : Int64)), .second, .val (.int (p3 &&& (3 : Int32))), .val (.ref b4), .val (.int (1 : Int32))] [(.ref b4)])) ?_ (fun t k => XS.aload X5.here hx rfl (hb hby at_88) rfl rfl k)
      obtain ⟨cq6, kq6, q6a, q6b, q6c⟩ := isOf hZ rfl hf5_0
      obtain ⟨_, _, ⟨T6, L6, k6, n6⟩, -, X6, ⟨Lc6, hQ6, l6, y6, z6⟩, st6⟩ := X5.virtualBack hx (y := (⟨"com/example/theseus/theseus/language/Page", "isLimited", "()Z"⟩ : MethodName)) (z := (⟨"com/example/theseus/theseus/language/Page", "isLimited", "()Z"⟩ : MethodName)) hown (mvT hZ (hw _ (List.mem_of_getElem? (i := 19) rfl))) (mvT hZ (hw _ (List.mem_of_getElem? (i := 20) rfl))) (notFace_of_selects (args := #[]) (mvT hZ (hw _ (List.mem_of_getElem? (i := 22) rfl)))) (mvT hZ (hw _ (List.mem_of_getElem? (i := 22) rfl))) (mvT hZ (hw _ (List.mem_of_getElem? (i := 21) rfl))) (by decide) (backOf (W := 0) (rm4 l Z a0 hw [] b4 (9223372036854775806 : Int64) T5.heap n0 Z5 hf5_2) hZ (hw _ (List.mem_of_getElem? (i := 23) rfl)) (hw _ (List.mem_of_getElem? (i := 3) rfl)) (by decide) (by decide)) q6a q6c (g := (mkF m 90 #[.val (.long q1), .second, .val (.long q2), .second, .val (.int p3), .val (.long (q1 &&& (9223372036854775807 : Int64))), .second, .val (.long (9223372036854775806 : Int64)), .second, .val (.int (p3 &&& (3 : Int32))), .val (.ref b4), .val (.int (1 : Int32))] [(.ref b4)])) rfl (by rw [hml]; rfl) (Steps.refl _) (argsL := []) (rest := []) (lenOf pd_0_1 rfl) rfl (by show 2 * 0 + _ ≤ _; exact Nat.le_of_eq rfl) (hb hby at_90) (fun _ _ => ⟨rfl, rfl, (by decide : 1 + 0 ≤ _), (by decide : 2 + 0 ≤ _)⟩)
      dsimp only [Pt.U, Pt.locs, Pt.cells, Pt.slots] at X6 l6 y6 z6 st6 hQ6
      subst l6 y6 z6
      obtain ⟨rfl, N6q, e6⟩ := hQ6
      have N6 := Fr.app N5 N6q
      refine Gen.on (b := T6.setTop (mkF m 93 #[.val (.long q1), .second, .val (.long q2), .second, .val (.int p3), .val (.long (q1 &&& (9223372036854775807 : Int64))), .second, .val (.long (9223372036854775806 : Int64)), .second, .val (.int (p3 &&& (3 : Int32))), .val (.ref b4), .val (.int (1 : Int32))] [(.int (f4 (9223372036854775806 : Int64)))])) ?_ (fun t k => st6.trans k)
      refine Gen.on (b := T6.setTop (mkF m 95 #[.val (.long q1), .second, .val (.long q2), .second, .val (.int p3), .val (.long (q1 &&& (9223372036854775807 : Int64))), .second, .val (.long (9223372036854775806 : Int64)), .second, .val (.int (p3 &&& (3 : Int32))), .val (.ref b4), .val (.int (1 : Int32))] [(.int (1 : Int32)), (.int (f4 (9223372036854775806 : Int64)))])) ?_ (fun t k => XS.iload X6.here hx rfl (hb hby at_93) rfl k)
      refine Gen.on (b := T6.setTop (mkF m 98 #[.val (.long q1), .second, .val (.long q2), .second, .val (.int p3), .val (.long (q1 &&& (9223372036854775807 : Int64))), .second, .val (.long (9223372036854775806 : Int64)), .second, .val (.int (p3 &&& (3 : Int32))), .val (.ref b4), .val (.int (1 : Int32))] [])) ?_ (fun t k => XS.icmpNo X6.here hx rfl (hb hby at_95) rfl (teq (own_n (9223372036854775806 : Int64) (by decide : ¬ ((9223372036854775806 : Int64) = (9223372036854775807 : Int64))))).2 k)
      refine Gen.on (b := T6.setTop (mkF m 99 #[.val (.long q1), .second, .val (.long q2), .second, .val (.int p3), .val (.long (q1 &&& (9223372036854775807 : Int64))), .second, .val (.long (9223372036854775806 : Int64)), .second, .val (.int (p3 &&& (3 : Int32))), .val (.ref b4), .val (.int (1 : Int32))] [(.int (1 : Int32))])) ?_ (fun t k => XS.iconst X6.here hx rfl (hb hby at_98) k)
      refine Gen.on (b := T6.setTop (mkF m 103 #[.val (.long q1), .second, .val (.long q2), .second, .val (.int p3), .val (.long (q1 &&& (9223372036854775807 : Int64))), .second, .val (.long (9223372036854775806 : Int64)), .second, .val (.int (p3 &&& (3 : Int32))), .val (.ref b4), .val (.int (1 : Int32))] [(.int (1 : Int32))])) ?_ (fun t k => XS.goto X6.here hx rfl (pc0 := 99) (pc' := 103) rfl (hb hby at_99) (by decide) (by decide) k)
      refine own_retN (t := .boolean) X6 hx Bd.returns (by simp) (by decide) (hb hby at_103) (by decide) (by decide) ?_
      exact ⟨rfl, N6⟩
    · refine Gen.on (b := s₁.setTop (mkF m 40 #[.val (.long q1), .second, .val (.long q2), .second, .val (.int p3), .val (.long (q1 &&& (9223372036854775807 : Int64))), .second, .unset, .unset, .val (.int (p3 &&& (3 : Int32))), .unset, .unset] [])) ?_ (fun t k => XS.icmpYes X0.here hx rfl (pc0 := 29) (pc' := 40) rfl (hb hby at_29) rfl (feq c29_2).2 (by decide) (by decide) k)
      refine Gen.on (b := s₁.setTop (mkF m 42 #[.val (.long q1), .second, .val (.long q2), .second, .val (.int p3), .val (.long (q1 &&& (9223372036854775807 : Int64))), .second, .unset, .unset, .val (.int (p3 &&& (3 : Int32))), .unset, .unset] [(.int (p3 &&& (3 : Int32)))])) ?_ (fun t k => XS.iload X0.here hx rfl (hb hby at_40) rfl k)
      refine Gen.on (b := s₁.setTop (mkF m 43 #[.val (.long q1), .second, .val (.long q2), .second, .val (.int p3), .val (.long (q1 &&& (9223372036854775807 : Int64))), .second, .unset, .unset, .val (.int (p3 &&& (3 : Int32))), .unset, .unset] [(.int (2 : Int32)), (.int (p3 &&& (3 : Int32)))])) ?_ (fun t k => XS.iconst X0.here hx rfl (hb hby at_42) k)
      by_cases c43_3 : (p3 &&& (3 : Int32)) = (2 : Int32)
      · refine Gen.on (b := s₁.setTop (mkF m 46 #[.val (.long q1), .second, .val (.long q2), .second, .val (.int p3), .val (.long (q1 &&& (9223372036854775807 : Int64))), .second, .unset, .unset, .val (.int (p3 &&& (3 : Int32))), .unset, .unset] [])) ?_ (fun t k => XS.icmpNo X0.here hx rfl (hb hby at_43) rfl (teq c43_3).2 k)
        refine Gen.on (b := s₁.setTop (mkF m 47 #[.val (.long q1), .second, .val (.long q2), .second, .val (.int p3), .val (.long (q1 &&& (9223372036854775807 : Int64))), .second, .unset, .unset, .val (.int (p3 &&& (3 : Int32))), .unset, .unset] [(.long (0 : Int64))])) ?_ (fun t k => XS.lconst X0.here hx rfl (hb hby at_46) k)
        refine Gen.on (b := s₁.setTop (mkF m 49 #[.val (.long q1), .second, .val (.long q2), .second, .val (.int p3), .val (.long (q1 &&& (9223372036854775807 : Int64))), .second, .val (.long (0 : Int64)), .second, .val (.int (p3 &&& (3 : Int32))), .unset, .unset] [])) ?_ (fun t k => XS.lstore X0.here hx rfl (hb hby at_47) rfl (l' := #[.val (.long q1), .second, .val (.long q2), .second, .val (.int p3), .val (.long (q1 &&& (9223372036854775807 : Int64))), .second, .val (.long (0 : Int64)), .second, .val (.int (p3 &&& (3 : Int32))), .unset, .unset]) rfl k)
        refine Gen.on (b := s₁.setTop (mkF m 59 #[.val (.long q1), .second, .val (.long q2), .second, .val (.int p3), .val (.long (q1 &&& (9223372036854775807 : Int64))), .second, .val (.long (0 : Int64)), .second, .val (.int (p3 &&& (3 : Int32))), .unset, .unset] [])) ?_ (fun t k => XS.goto X0.here hx rfl (pc0 := 49) (pc' := 59) rfl (hb hby at_49) (by decide) (by decide) k)
        obtain ⟨b7, g7⟩ : ∃ z, z = h0.size := ⟨_, rfl⟩
        have g_b7 : n0 ≤ b7 := Nat.le_trans Z0 (Nat.le_of_eq g7.symm)
        obtain ⟨T7, h7, X7, e7, E7, A7, D7, -, st7⟩ := newO X0 hx hZ hown (hw _ (List.mem_of_getElem? (i := 1) rfl)) (hw _ (List.mem_of_getElem? (i := 2) rfl)) (hw _ (List.mem_of_getElem? (i := 3) rfl)) e0 (g := (mkF m 59 #[.val (.long q1), .second, .val (.long q2), .second, .val (.int p3), .val (.long (q1 &&& (9223372036854775807 : Int64))), .second, .val (.long (0 : Int64)), .second, .val (.int (p3 &&& (3 : Int32))), .unset, .unset] [])) rfl (hb hby at_59) (by decide) (by decide)
        rw [← g7] at A7 D7 st7
        have Z7 : n0 ≤ h7.size := Nat.le_trans Z0 E7.1
        have F7_offset : Fld Z h7 b7 "com/example/theseus/theseus/language/Page" "offset" "J" (.long (0 : Int64)) := D7 (Or.inr (hw _ (List.mem_of_getElem? (i := 16) rfl))) (ty := .long) (by decide)
        have F7_limit : Fld Z h7 b7 "com/example/theseus/theseus/language/Page" "limit" "J" (.long (0 : Int64)) := D7 (Or.inr (hw _ (List.mem_of_getElem? (i := 18) rfl))) (ty := .long) (by decide)
        refine Gen.on (b := T7.setTop (mkF m 62 #[.val (.long q1), .second, .val (.long q2), .second, .val (.int p3), .val (.long (q1 &&& (9223372036854775807 : Int64))), .second, .val (.long (0 : Int64)), .second, .val (.int (p3 &&& (3 : Int32))), .unset, .unset] [(.ref b7)])) ?_ (fun t k => st7 t k)
        refine Gen.on (b := T7.setTop (mkF m 63 #[.val (.long q1), .second, .val (.long q2), .second, .val (.int p3), .val (.long (q1 &&& (9223372036854775807 : Int64))), .second, .val (.long (0 : Int64)), .second, .val (.int (p3 &&& (3 : Int32))), .unset, .unset] [(.ref b7), (.ref b7)])) ?_ (fun t k => XS.dup X7.here hx rfl (hb hby at_62) rfl rfl k)
        refine Gen.on (b := T7.setTop (mkF m 65 #[.val (.long q1), .second, .val (.long q2), .second, .val (.int p3), .val (.long (q1 &&& (9223372036854775807 : Int64))), .second, .val (.long (0 : Int64)), .second, .val (.int (p3 &&& (3 : Int32))), .unset, .unset] [(.long (q1 &&& (9223372036854775807 : Int64))), (.ref b7), (.ref b7)])) ?_ (fun t k => XS.lload X7.here hx rfl (hb hby at_63) rfl k)
        refine Gen.on (b := T7.setTop (mkF m 67 #[.val (.long q1), .second, .val (.long q2), .second, .val (.int p3), .val (.long (q1 &&& (9223372036854775807 : Int64))), .second, .val (.long (0 : Int64)), .second, .val (.int (p3 &&& (3 : Int32))), .unset, .unset] [(.long (0 : Int64)), (.long (q1 &&& (9223372036854775807 : Int64))), (.ref b7), (.ref b7)])) ?_ (fun t k => XS.lload X7.here hx rfl (hb hby at_65) rfl k)
        obtain ⟨_, _, ⟨T8, L8, k8, n8⟩, -, X8, ⟨Lc8, hQ8, l8, y8, z8⟩, st8⟩ := X7.specialBack hx (y := (⟨"com/example/theseus/theseus/language/Page", "<init>", "(JJ)V"⟩ : MethodName)) rfl hown (mvT hZ (hw _ (List.mem_of_getElem? (i := 4) rfl))) (mvT hZ (hw _ (List.mem_of_getElem? (i := 5) rfl))) (mvT hZ (hw _ (List.mem_of_getElem? (i := 6) rfl))) (by decide) (backOf (W := 1) (rm1 l Z a0 hw [] b7 (q1 &&& (9223372036854775807 : Int64)) (0 : Int64) (.long (0 : Int64)) (.long (0 : Int64)) h7 n0 Z7 A7 F7_offset F7_limit g_b7 (own_nn q1) (by decide)) hZ (hw _ (List.mem_of_getElem? (i := 6) rfl)) (hw _ (List.mem_of_getElem? (i := 3) rfl)) (by decide) (by decide)) (g := (mkF m 67 #[.val (.long q1), .second, .val (.long q2), .second, .val (.int p3), .val (.long (q1 &&& (9223372036854775807 : Int64))), .second, .val (.long (0 : Int64)), .second, .val (.int (p3 &&& (3 : Int32))), .unset, .unset] [(.long (0 : Int64)), (.long (q1 &&& (9223372036854775807 : Int64))), (.ref b7), (.ref b7)])) rfl (by rw [hml]; rfl) (Steps.refl _) (a := b7) (argsL := [(.long (q1 &&& (9223372036854775807 : Int64))), (.long (0 : Int64))]) (rest := [(.ref b7)]) (lenOf pd_0_0 rfl) rfl (by show 2 * 0 + _ ≤ _; exact Nat.le_of_eq rfl) (hb hby at_67) (fun _ _ => ⟨rfl, e7, (by decide : 1 + 0 ≤ _), (by decide : 2 + 0 ≤ _)⟩)
        dsimp only [Pt.U, Pt.locs, Pt.cells, Pt.slots] at X8 l8 y8 z8 st8 hQ8
        subst l8 y8 z8
        obtain ⟨rfl, N8q, Kc8, hf8_0, hf8_1, hf8_2⟩ := hQ8
        have N8 := Fr.app N0 N8q
        have Z8 : n0 ≤ T8.heap.size := Nat.le_trans Z7 Kc8.1
        refine Gen.on (b := T8.setTop (mkF m 70 #[.val (.long q1), .second, .val (.long q2), .second, .val (.int p3), .val (.long (q1 &&& (9223372036854775807 : Int64))), .second, .val (.long (0 : Int64)), .second, .val (.int (p3 &&& (3 : Int32))), .unset, .unset] [(.ref b7)])) ?_ (fun t k => st8.trans k)
        refine Gen.on (b := T8.setTop (mkF m 72 #[.val (.long q1), .second, .val (.long q2), .second, .val (.int p3), .val (.long (q1 &&& (9223372036854775807 : Int64))), .second, .val (.long (0 : Int64)), .second, .val (.int (p3 &&& (3 : Int32))), .val (.ref b7), .unset] [])) ?_ (fun t k => XS.astore X8.here hx rfl (hb hby at_70) rfl rfl (l' := #[.val (.long q1), .second, .val (.long q2), .second, .val (.int p3), .val (.long (q1 &&& (9223372036854775807 : Int64))), .second, .val (.long (0 : Int64)), .second, .val (.int (p3 &&& (3 : Int32))), .val (.ref b7), .unset]) rfl k)
        refine Gen.on (b := T8.setTop (mkF m 74 #[.val (.long q1), .second, .val (.long q2), .second, .val (.int p3), .val (.long (q1 &&& (9223372036854775807 : Int64))), .second, .val (.long (0 : Int64)), .second, .val (.int (p3 &&& (3 : Int32))), .val (.ref b7), .unset] [(.long (0 : Int64))])) ?_ (fun t k => XS.lload X8.here hx rfl (hb hby at_72) rfl k)
        refine Gen.on (b := T8.setTop (mkF m 77 #[.val (.long q1), .second, .val (.long q2), .second, .val (.int p3), .val (.long (q1 &&& (9223372036854775807 : Int64))), .second, .val (.long (0 : Int64)), .second, .val (.int (p3 &&& (3 : Int32))), .val (.ref b7), .unset] [(.long (9223372036854775807 : Int64)), (.long (0 : Int64))])) ?_ (fun t k => X8.ldc2Long hx hown (mvT hZ (hw _ (List.mem_of_getElem? (i := 0) rfl))) (g := (mkF m 74 #[.val (.long q1), .second, .val (.long q2), .second, .val (.int p3), .val (.long (q1 &&& (9223372036854775807 : Int64))), .second, .val (.long (0 : Int64)), .second, .val (.int (p3 &&& (3 : Int32))), .val (.ref b7), .unset] [(.long (0 : Int64))])) rfl (hb hby at_74) t k)
        refine Gen.on (b := T8.setTop (mkF m 78 #[.val (.long q1), .second, .val (.long q2), .second, .val (.int p3), .val (.long (q1 &&& (9223372036854775807 : Int64))), .second, .val (.long (0 : Int64)), .second, .val (.int (p3 &&& (3 : Int32))), .val (.ref b7), .unset] [(.int (lcmpW (0 : Int64) (9223372036854775807 : Int64)))])) ?_ (fun t k => XS.lcmp X8.here hx rfl (hb hby at_77) rfl k)
        refine Gen.on (b := T8.setTop (mkF m 81 #[.val (.long q1), .second, .val (.long q2), .second, .val (.int p3), .val (.long (q1 &&& (9223372036854775807 : Int64))), .second, .val (.long (0 : Int64)), .second, .val (.int (p3 &&& (3 : Int32))), .val (.ref b7), .unset] [])) ?_ (fun t k => XS.ifNo X8.here hx rfl (hb hby at_78) rfl (own_eq0 (by decide : ¬ ((0 : Int64) = (9223372036854775807 : Int64)))).1 k)
        refine Gen.on (b := T8.setTop (mkF m 82 #[.val (.long q1), .second, .val (.long q2), .second, .val (.int p3), .val (.long (q1 &&& (9223372036854775807 : Int64))), .second, .val (.long (0 : Int64)), .second, .val (.int (p3 &&& (3 : Int32))), .val (.ref b7), .unset] [(.int (1 : Int32))])) ?_ (fun t k => XS.iconst X8.here hx rfl (hb hby at_81) k)
        refine Gen.on (b := T8.setTop (mkF m 86 #[.val (.long q1), .second, .val (.long q2), .second, .val (.int p3), .val (.long (q1 &&& (9223372036854775807 : Int64))), .second, .val (.long (0 : Int64)), .second, .val (.int (p3 &&& (3 : Int32))), .val (.ref b7), .unset] [(.int (1 : Int32))])) ?_ (fun t k => XS.goto X8.here hx rfl (pc0 := 82) (pc' := 86) rfl (hb hby at_82) (by decide) (by decide) k)
        refine Gen.on (b := T8.setTop (mkF m 88 #[.val (.long q1), .second, .val (.long q2), .second, .val (.int p3), .val (.long (q1 &&& (9223372036854775807 : Int64))), .second, .val (.long (0 : Int64)), .second, .val (.int (p3 &&& (3 : Int32))), .val (.ref b7), .val (.int (1 : Int32))] [])) ?_ (fun t k => XS.istore X8.here hx rfl (hb hby at_86) rfl (l' := #[.val (.long q1), .second, .val (.long q2), .second, .val (.int p3), .val (.long (q1 &&& (9223372036854775807 : Int64))), .second, .val (.long (0 : Int64)), .second, .val (.int (p3 &&& (3 : Int32))), .val (.ref b7), .val (.int (1 : Int32))]) rfl k)
        refine Gen.on (b := T8.setTop (mkF m 90 #[.val (.long q1), .second, .val (.long q2), .second, .val (.int p3), .val (.long (q1 &&& (9223372036854775807 : Int64))), .second, .val (.long (0 : Int64)), .second, .val (.int (p3 &&& (3 : Int32))), .val (.ref b7), .val (.int (1 : Int32))] [(.ref b7)])) ?_ (fun t k => XS.aload X8.here hx rfl (hb hby at_88) rfl rfl k)
        obtain ⟨cq9, kq9, q9a, q9b, q9c⟩ := isOf hZ rfl hf8_0
        obtain ⟨_, _, ⟨T9, L9, k9, n9⟩, -, X9, ⟨Lc9, hQ9, l9, y9, z9⟩, st9⟩ := X8.virtualBack hx (y := (⟨"com/example/theseus/theseus/language/Page", "isLimited", "()Z"⟩ : MethodName)) (z := (⟨"com/example/theseus/theseus/language/Page", "isLimited", "()Z"⟩ : MethodName)) hown (mvT hZ (hw _ (List.mem_of_getElem? (i := 19) rfl))) (mvT hZ (hw _ (List.mem_of_getElem? (i := 20) rfl))) (notFace_of_selects (args := #[]) (mvT hZ (hw _ (List.mem_of_getElem? (i := 22) rfl)))) (mvT hZ (hw _ (List.mem_of_getElem? (i := 22) rfl))) (mvT hZ (hw _ (List.mem_of_getElem? (i := 21) rfl))) (by decide) (backOf (W := 0) (rm4 l Z a0 hw [] b7 (0 : Int64) T8.heap n0 Z8 hf8_2) hZ (hw _ (List.mem_of_getElem? (i := 23) rfl)) (hw _ (List.mem_of_getElem? (i := 3) rfl)) (by decide) (by decide)) q9a q9c (g := (mkF m 90 #[.val (.long q1), .second, .val (.long q2), .second, .val (.int p3), .val (.long (q1 &&& (9223372036854775807 : Int64))), .second, .val (.long (0 : Int64)), .second, .val (.int (p3 &&& (3 : Int32))), .val (.ref b7), .val (.int (1 : Int32))] [(.ref b7)])) rfl (by rw [hml]; rfl) (Steps.refl _) (argsL := []) (rest := []) (lenOf pd_0_1 rfl) rfl (by show 2 * 0 + _ ≤ _; exact Nat.le_of_eq rfl) (hb hby at_90) (fun _ _ => ⟨rfl, rfl, (by decide : 1 + 0 ≤ _), (by decide : 2 + 0 ≤ _)⟩)
        dsimp only [Pt.U, Pt.locs, Pt.cells, Pt.slots] at X9 l9 y9 z9 st9 hQ9
        subst l9 y9 z9
        obtain ⟨rfl, N9q, e9⟩ := hQ9
        have N9 := Fr.app N8 N9q
        refine Gen.on (b := T9.setTop (mkF m 93 #[.val (.long q1), .second, .val (.long q2), .second, .val (.int p3), .val (.long (q1 &&& (9223372036854775807 : Int64))), .second, .val (.long (0 : Int64)), .second, .val (.int (p3 &&& (3 : Int32))), .val (.ref b7), .val (.int (1 : Int32))] [(.int (f4 (0 : Int64)))])) ?_ (fun t k => st9.trans k)
        refine Gen.on (b := T9.setTop (mkF m 95 #[.val (.long q1), .second, .val (.long q2), .second, .val (.int p3), .val (.long (q1 &&& (9223372036854775807 : Int64))), .second, .val (.long (0 : Int64)), .second, .val (.int (p3 &&& (3 : Int32))), .val (.ref b7), .val (.int (1 : Int32))] [(.int (1 : Int32)), (.int (f4 (0 : Int64)))])) ?_ (fun t k => XS.iload X9.here hx rfl (hb hby at_93) rfl k)
        refine Gen.on (b := T9.setTop (mkF m 98 #[.val (.long q1), .second, .val (.long q2), .second, .val (.int p3), .val (.long (q1 &&& (9223372036854775807 : Int64))), .second, .val (.long (0 : Int64)), .second, .val (.int (p3 &&& (3 : Int32))), .val (.ref b7), .val (.int (1 : Int32))] [])) ?_ (fun t k => XS.icmpNo X9.here hx rfl (hb hby at_95) rfl (teq (own_n (0 : Int64) (by decide : ¬ ((0 : Int64) = (9223372036854775807 : Int64))))).2 k)
        refine Gen.on (b := T9.setTop (mkF m 99 #[.val (.long q1), .second, .val (.long q2), .second, .val (.int p3), .val (.long (q1 &&& (9223372036854775807 : Int64))), .second, .val (.long (0 : Int64)), .second, .val (.int (p3 &&& (3 : Int32))), .val (.ref b7), .val (.int (1 : Int32))] [(.int (1 : Int32))])) ?_ (fun t k => XS.iconst X9.here hx rfl (hb hby at_98) k)
        refine Gen.on (b := T9.setTop (mkF m 103 #[.val (.long q1), .second, .val (.long q2), .second, .val (.int p3), .val (.long (q1 &&& (9223372036854775807 : Int64))), .second, .val (.long (0 : Int64)), .second, .val (.int (p3 &&& (3 : Int32))), .val (.ref b7), .val (.int (1 : Int32))] [(.int (1 : Int32))])) ?_ (fun t k => XS.goto X9.here hx rfl (pc0 := 99) (pc' := 103) rfl (hb hby at_99) (by decide) (by decide) k)
        refine own_retN (t := .boolean) X9 hx Bd.returns (by simp) (by decide) (hb hby at_103) (by decide) (by decide) ?_
        exact ⟨rfl, N9⟩
      · refine Gen.on (b := s₁.setTop (mkF m 52 #[.val (.long q1), .second, .val (.long q2), .second, .val (.int p3), .val (.long (q1 &&& (9223372036854775807 : Int64))), .second, .unset, .unset, .val (.int (p3 &&& (3 : Int32))), .unset, .unset] [])) ?_ (fun t k => XS.icmpYes X0.here hx rfl (pc0 := 43) (pc' := 52) rfl (hb hby at_43) rfl (feq c43_3).2 (by decide) (by decide) k)
        refine Gen.on (b := s₁.setTop (mkF m 53 #[.val (.long q1), .second, .val (.long q2), .second, .val (.int p3), .val (.long (q1 &&& (9223372036854775807 : Int64))), .second, .unset, .unset, .val (.int (p3 &&& (3 : Int32))), .unset, .unset] [(.long q2)])) ?_ (fun t k => XS.lloadN X0.here hx rfl (hb hby at_52) rfl k)
        refine Gen.on (b := s₁.setTop (mkF m 56 #[.val (.long q1), .second, .val (.long q2), .second, .val (.int p3), .val (.long (q1 &&& (9223372036854775807 : Int64))), .second, .unset, .unset, .val (.int (p3 &&& (3 : Int32))), .unset, .unset] [(.long (9223372036854775807 : Int64)), (.long q2)])) ?_ (fun t k => X0.ldc2Long hx hown (mvT hZ (hw _ (List.mem_of_getElem? (i := 0) rfl))) (g := (mkF m 53 #[.val (.long q1), .second, .val (.long q2), .second, .val (.int p3), .val (.long (q1 &&& (9223372036854775807 : Int64))), .second, .unset, .unset, .val (.int (p3 &&& (3 : Int32))), .unset, .unset] [(.long q2)])) rfl (hb hby at_53) t k)
        refine Gen.on (b := s₁.setTop (mkF m 57 #[.val (.long q1), .second, .val (.long q2), .second, .val (.int p3), .val (.long (q1 &&& (9223372036854775807 : Int64))), .second, .unset, .unset, .val (.int (p3 &&& (3 : Int32))), .unset, .unset] [(.long (q2 &&& (9223372036854775807 : Int64)))])) ?_ (fun t k => XS.land X0.here hx rfl (hb hby at_56) rfl k)
        refine Gen.on (b := s₁.setTop (mkF m 59 #[.val (.long q1), .second, .val (.long q2), .second, .val (.int p3), .val (.long (q1 &&& (9223372036854775807 : Int64))), .second, .val (.long (q2 &&& (9223372036854775807 : Int64))), .second, .val (.int (p3 &&& (3 : Int32))), .unset, .unset] [])) ?_ (fun t k => XS.lstore X0.here hx rfl (hb hby at_57) rfl (l' := #[.val (.long q1), .second, .val (.long q2), .second, .val (.int p3), .val (.long (q1 &&& (9223372036854775807 : Int64))), .second, .val (.long (q2 &&& (9223372036854775807 : Int64))), .second, .val (.int (p3 &&& (3 : Int32))), .unset, .unset]) rfl k)
        obtain ⟨b10, g10⟩ : ∃ z, z = h0.size := ⟨_, rfl⟩
        have g_b10 : n0 ≤ b10 := Nat.le_trans Z0 (Nat.le_of_eq g10.symm)
        obtain ⟨T10, h10, X10, e10, E10, A10, D10, -, st10⟩ := newO X0 hx hZ hown (hw _ (List.mem_of_getElem? (i := 1) rfl)) (hw _ (List.mem_of_getElem? (i := 2) rfl)) (hw _ (List.mem_of_getElem? (i := 3) rfl)) e0 (g := (mkF m 59 #[.val (.long q1), .second, .val (.long q2), .second, .val (.int p3), .val (.long (q1 &&& (9223372036854775807 : Int64))), .second, .val (.long (q2 &&& (9223372036854775807 : Int64))), .second, .val (.int (p3 &&& (3 : Int32))), .unset, .unset] [])) rfl (hb hby at_59) (by decide) (by decide)
        rw [← g10] at A10 D10 st10
        have Z10 : n0 ≤ h10.size := Nat.le_trans Z0 E10.1
        have F10_offset : Fld Z h10 b10 "com/example/theseus/theseus/language/Page" "offset" "J" (.long (0 : Int64)) := D10 (Or.inr (hw _ (List.mem_of_getElem? (i := 16) rfl))) (ty := .long) (by decide)
        have F10_limit : Fld Z h10 b10 "com/example/theseus/theseus/language/Page" "limit" "J" (.long (0 : Int64)) := D10 (Or.inr (hw _ (List.mem_of_getElem? (i := 18) rfl))) (ty := .long) (by decide)
        refine Gen.on (b := T10.setTop (mkF m 62 #[.val (.long q1), .second, .val (.long q2), .second, .val (.int p3), .val (.long (q1 &&& (9223372036854775807 : Int64))), .second, .val (.long (q2 &&& (9223372036854775807 : Int64))), .second, .val (.int (p3 &&& (3 : Int32))), .unset, .unset] [(.ref b10)])) ?_ (fun t k => st10 t k)
        refine Gen.on (b := T10.setTop (mkF m 63 #[.val (.long q1), .second, .val (.long q2), .second, .val (.int p3), .val (.long (q1 &&& (9223372036854775807 : Int64))), .second, .val (.long (q2 &&& (9223372036854775807 : Int64))), .second, .val (.int (p3 &&& (3 : Int32))), .unset, .unset] [(.ref b10), (.ref b10)])) ?_ (fun t k => XS.dup X10.here hx rfl (hb hby at_62) rfl rfl k)
        refine Gen.on (b := T10.setTop (mkF m 65 #[.val (.long q1), .second, .val (.long q2), .second, .val (.int p3), .val (.long (q1 &&& (9223372036854775807 : Int64))), .second, .val (.long (q2 &&& (9223372036854775807 : Int64))), .second, .val (.int (p3 &&& (3 : Int32))), .unset, .unset] [(.long (q1 &&& (9223372036854775807 : Int64))), (.ref b10), (.ref b10)])) ?_ (fun t k => XS.lload X10.here hx rfl (hb hby at_63) rfl k)
        refine Gen.on (b := T10.setTop (mkF m 67 #[.val (.long q1), .second, .val (.long q2), .second, .val (.int p3), .val (.long (q1 &&& (9223372036854775807 : Int64))), .second, .val (.long (q2 &&& (9223372036854775807 : Int64))), .second, .val (.int (p3 &&& (3 : Int32))), .unset, .unset] [(.long (q2 &&& (9223372036854775807 : Int64))), (.long (q1 &&& (9223372036854775807 : Int64))), (.ref b10), (.ref b10)])) ?_ (fun t k => XS.lload X10.here hx rfl (hb hby at_65) rfl k)
        obtain ⟨_, _, ⟨T11, L11, k11, n11⟩, -, X11, ⟨Lc11, hQ11, l11, y11, z11⟩, st11⟩ := X10.specialBack hx (y := (⟨"com/example/theseus/theseus/language/Page", "<init>", "(JJ)V"⟩ : MethodName)) rfl hown (mvT hZ (hw _ (List.mem_of_getElem? (i := 4) rfl))) (mvT hZ (hw _ (List.mem_of_getElem? (i := 5) rfl))) (mvT hZ (hw _ (List.mem_of_getElem? (i := 6) rfl))) (by decide) (backOf (W := 1) (rm1 l Z a0 hw [] b10 (q1 &&& (9223372036854775807 : Int64)) (q2 &&& (9223372036854775807 : Int64)) (.long (0 : Int64)) (.long (0 : Int64)) h10 n0 Z10 A10 F10_offset F10_limit g_b10 (own_nn q1) (own_nn q2)) hZ (hw _ (List.mem_of_getElem? (i := 6) rfl)) (hw _ (List.mem_of_getElem? (i := 3) rfl)) (by decide) (by decide)) (g := (mkF m 67 #[.val (.long q1), .second, .val (.long q2), .second, .val (.int p3), .val (.long (q1 &&& (9223372036854775807 : Int64))), .second, .val (.long (q2 &&& (9223372036854775807 : Int64))), .second, .val (.int (p3 &&& (3 : Int32))), .unset, .unset] [(.long (q2 &&& (9223372036854775807 : Int64))), (.long (q1 &&& (9223372036854775807 : Int64))), (.ref b10), (.ref b10)])) rfl (by rw [hml]; rfl) (Steps.refl _) (a := b10) (argsL := [(.long (q1 &&& (9223372036854775807 : Int64))), (.long (q2 &&& (9223372036854775807 : Int64)))]) (rest := [(.ref b10)]) (lenOf pd_0_0 rfl) rfl (by show 2 * 0 + _ ≤ _; exact Nat.le_of_eq rfl) (hb hby at_67) (fun _ _ => ⟨rfl, e10, (by decide : 1 + 0 ≤ _), (by decide : 2 + 0 ≤ _)⟩)
        dsimp only [Pt.U, Pt.locs, Pt.cells, Pt.slots] at X11 l11 y11 z11 st11 hQ11
        subst l11 y11 z11
        obtain ⟨rfl, N11q, Kc11, hf11_0, hf11_1, hf11_2⟩ := hQ11
        have N11 := Fr.app N0 N11q
        have Z11 : n0 ≤ T11.heap.size := Nat.le_trans Z10 Kc11.1
        refine Gen.on (b := T11.setTop (mkF m 70 #[.val (.long q1), .second, .val (.long q2), .second, .val (.int p3), .val (.long (q1 &&& (9223372036854775807 : Int64))), .second, .val (.long (q2 &&& (9223372036854775807 : Int64))), .second, .val (.int (p3 &&& (3 : Int32))), .unset, .unset] [(.ref b10)])) ?_ (fun t k => st11.trans k)
        refine Gen.on (b := T11.setTop (mkF m 72 #[.val (.long q1), .second, .val (.long q2), .second, .val (.int p3), .val (.long (q1 &&& (9223372036854775807 : Int64))), .second, .val (.long (q2 &&& (9223372036854775807 : Int64))), .second, .val (.int (p3 &&& (3 : Int32))), .val (.ref b10), .unset] [])) ?_ (fun t k => XS.astore X11.here hx rfl (hb hby at_70) rfl rfl (l' := #[.val (.long q1), .second, .val (.long q2), .second, .val (.int p3), .val (.long (q1 &&& (9223372036854775807 : Int64))), .second, .val (.long (q2 &&& (9223372036854775807 : Int64))), .second, .val (.int (p3 &&& (3 : Int32))), .val (.ref b10), .unset]) rfl k)
        refine Gen.on (b := T11.setTop (mkF m 74 #[.val (.long q1), .second, .val (.long q2), .second, .val (.int p3), .val (.long (q1 &&& (9223372036854775807 : Int64))), .second, .val (.long (q2 &&& (9223372036854775807 : Int64))), .second, .val (.int (p3 &&& (3 : Int32))), .val (.ref b10), .unset] [(.long (q2 &&& (9223372036854775807 : Int64)))])) ?_ (fun t k => XS.lload X11.here hx rfl (hb hby at_72) rfl k)
        refine Gen.on (b := T11.setTop (mkF m 77 #[.val (.long q1), .second, .val (.long q2), .second, .val (.int p3), .val (.long (q1 &&& (9223372036854775807 : Int64))), .second, .val (.long (q2 &&& (9223372036854775807 : Int64))), .second, .val (.int (p3 &&& (3 : Int32))), .val (.ref b10), .unset] [(.long (9223372036854775807 : Int64)), (.long (q2 &&& (9223372036854775807 : Int64)))])) ?_ (fun t k => X11.ldc2Long hx hown (mvT hZ (hw _ (List.mem_of_getElem? (i := 0) rfl))) (g := (mkF m 74 #[.val (.long q1), .second, .val (.long q2), .second, .val (.int p3), .val (.long (q1 &&& (9223372036854775807 : Int64))), .second, .val (.long (q2 &&& (9223372036854775807 : Int64))), .second, .val (.int (p3 &&& (3 : Int32))), .val (.ref b10), .unset] [(.long (q2 &&& (9223372036854775807 : Int64)))])) rfl (hb hby at_74) t k)
        refine Gen.on (b := T11.setTop (mkF m 78 #[.val (.long q1), .second, .val (.long q2), .second, .val (.int p3), .val (.long (q1 &&& (9223372036854775807 : Int64))), .second, .val (.long (q2 &&& (9223372036854775807 : Int64))), .second, .val (.int (p3 &&& (3 : Int32))), .val (.ref b10), .unset] [(.int (lcmpW (q2 &&& (9223372036854775807 : Int64)) (9223372036854775807 : Int64)))])) ?_ (fun t k => XS.lcmp X11.here hx rfl (hb hby at_77) rfl k)
        by_cases c78_4 : (q2 &&& (9223372036854775807 : Int64)) = (9223372036854775807 : Int64)
        · refine Gen.on (b := T11.setTop (mkF m 85 #[.val (.long q1), .second, .val (.long q2), .second, .val (.int p3), .val (.long (q1 &&& (9223372036854775807 : Int64))), .second, .val (.long (q2 &&& (9223372036854775807 : Int64))), .second, .val (.int (p3 &&& (3 : Int32))), .val (.ref b10), .unset] [])) ?_ (fun t k => XS.ifYes X11.here hx rfl (pc0 := 78) (pc' := 85) rfl (hb hby at_78) rfl (own_eq1 c78_4).1 (by decide) (by decide) k)
          refine Gen.on (b := T11.setTop (mkF m 86 #[.val (.long q1), .second, .val (.long q2), .second, .val (.int p3), .val (.long (q1 &&& (9223372036854775807 : Int64))), .second, .val (.long (q2 &&& (9223372036854775807 : Int64))), .second, .val (.int (p3 &&& (3 : Int32))), .val (.ref b10), .unset] [(.int (0 : Int32))])) ?_ (fun t k => XS.iconst X11.here hx rfl (hb hby at_85) k)
          refine Gen.on (b := T11.setTop (mkF m 88 #[.val (.long q1), .second, .val (.long q2), .second, .val (.int p3), .val (.long (q1 &&& (9223372036854775807 : Int64))), .second, .val (.long (q2 &&& (9223372036854775807 : Int64))), .second, .val (.int (p3 &&& (3 : Int32))), .val (.ref b10), .val (.int (0 : Int32))] [])) ?_ (fun t k => XS.istore X11.here hx rfl (hb hby at_86) rfl (l' := #[.val (.long q1), .second, .val (.long q2), .second, .val (.int p3), .val (.long (q1 &&& (9223372036854775807 : Int64))), .second, .val (.long (q2 &&& (9223372036854775807 : Int64))), .second, .val (.int (p3 &&& (3 : Int32))), .val (.ref b10), .val (.int (0 : Int32))]) rfl k)
          refine Gen.on (b := T11.setTop (mkF m 90 #[.val (.long q1), .second, .val (.long q2), .second, .val (.int p3), .val (.long (q1 &&& (9223372036854775807 : Int64))), .second, .val (.long (q2 &&& (9223372036854775807 : Int64))), .second, .val (.int (p3 &&& (3 : Int32))), .val (.ref b10), .val (.int (0 : Int32))] [(.ref b10)])) ?_ (fun t k => XS.aload X11.here hx rfl (hb hby at_88) rfl rfl k)
          obtain ⟨cq12, kq12, q12a, q12b, q12c⟩ := isOf hZ rfl hf11_0
          obtain ⟨_, _, ⟨T12, L12, k12, n12⟩, -, X12, ⟨Lc12, hQ12, l12, y12, z12⟩, st12⟩ := X11.virtualBack hx (y := (⟨"com/example/theseus/theseus/language/Page", "isLimited", "()Z"⟩ : MethodName)) (z := (⟨"com/example/theseus/theseus/language/Page", "isLimited", "()Z"⟩ : MethodName)) hown (mvT hZ (hw _ (List.mem_of_getElem? (i := 19) rfl))) (mvT hZ (hw _ (List.mem_of_getElem? (i := 20) rfl))) (notFace_of_selects (args := #[]) (mvT hZ (hw _ (List.mem_of_getElem? (i := 22) rfl)))) (mvT hZ (hw _ (List.mem_of_getElem? (i := 22) rfl))) (mvT hZ (hw _ (List.mem_of_getElem? (i := 21) rfl))) (by decide) (backOf (W := 0) (rm4 l Z a0 hw [] b10 (q2 &&& (9223372036854775807 : Int64)) T11.heap n0 Z11 hf11_2) hZ (hw _ (List.mem_of_getElem? (i := 23) rfl)) (hw _ (List.mem_of_getElem? (i := 3) rfl)) (by decide) (by decide)) q12a q12c (g := (mkF m 90 #[.val (.long q1), .second, .val (.long q2), .second, .val (.int p3), .val (.long (q1 &&& (9223372036854775807 : Int64))), .second, .val (.long (q2 &&& (9223372036854775807 : Int64))), .second, .val (.int (p3 &&& (3 : Int32))), .val (.ref b10), .val (.int (0 : Int32))] [(.ref b10)])) rfl (by rw [hml]; rfl) (Steps.refl _) (argsL := []) (rest := []) (lenOf pd_0_1 rfl) rfl (by show 2 * 0 + _ ≤ _; exact Nat.le_of_eq rfl) (hb hby at_90) (fun _ _ => ⟨rfl, rfl, (by decide : 1 + 0 ≤ _), (by decide : 2 + 0 ≤ _)⟩)
          dsimp only [Pt.U, Pt.locs, Pt.cells, Pt.slots] at X12 l12 y12 z12 st12 hQ12
          subst l12 y12 z12
          obtain ⟨rfl, N12q, e12⟩ := hQ12
          have N12 := Fr.app N11 N12q
          refine Gen.on (b := T12.setTop (mkF m 93 #[.val (.long q1), .second, .val (.long q2), .second, .val (.int p3), .val (.long (q1 &&& (9223372036854775807 : Int64))), .second, .val (.long (q2 &&& (9223372036854775807 : Int64))), .second, .val (.int (p3 &&& (3 : Int32))), .val (.ref b10), .val (.int (0 : Int32))] [(.int (f4 (q2 &&& (9223372036854775807 : Int64))))])) ?_ (fun t k => st12.trans k)
          refine Gen.on (b := T12.setTop (mkF m 95 #[.val (.long q1), .second, .val (.long q2), .second, .val (.int p3), .val (.long (q1 &&& (9223372036854775807 : Int64))), .second, .val (.long (q2 &&& (9223372036854775807 : Int64))), .second, .val (.int (p3 &&& (3 : Int32))), .val (.ref b10), .val (.int (0 : Int32))] [(.int (0 : Int32)), (.int (f4 (q2 &&& (9223372036854775807 : Int64))))])) ?_ (fun t k => XS.iload X12.here hx rfl (hb hby at_93) rfl k)
          refine Gen.on (b := T12.setTop (mkF m 98 #[.val (.long q1), .second, .val (.long q2), .second, .val (.int p3), .val (.long (q1 &&& (9223372036854775807 : Int64))), .second, .val (.long (q2 &&& (9223372036854775807 : Int64))), .second, .val (.int (p3 &&& (3 : Int32))), .val (.ref b10), .val (.int (0 : Int32))] [])) ?_ (fun t k => XS.icmpNo X12.here hx rfl (hb hby at_95) rfl (teq (own_y (q2 &&& (9223372036854775807 : Int64)) c78_4)).2 k)
          refine Gen.on (b := T12.setTop (mkF m 99 #[.val (.long q1), .second, .val (.long q2), .second, .val (.int p3), .val (.long (q1 &&& (9223372036854775807 : Int64))), .second, .val (.long (q2 &&& (9223372036854775807 : Int64))), .second, .val (.int (p3 &&& (3 : Int32))), .val (.ref b10), .val (.int (0 : Int32))] [(.int (1 : Int32))])) ?_ (fun t k => XS.iconst X12.here hx rfl (hb hby at_98) k)
          refine Gen.on (b := T12.setTop (mkF m 103 #[.val (.long q1), .second, .val (.long q2), .second, .val (.int p3), .val (.long (q1 &&& (9223372036854775807 : Int64))), .second, .val (.long (q2 &&& (9223372036854775807 : Int64))), .second, .val (.int (p3 &&& (3 : Int32))), .val (.ref b10), .val (.int (0 : Int32))] [(.int (1 : Int32))])) ?_ (fun t k => XS.goto X12.here hx rfl (pc0 := 99) (pc' := 103) rfl (hb hby at_99) (by decide) (by decide) k)
          refine own_retN (t := .boolean) X12 hx Bd.returns (by simp) (by decide) (hb hby at_103) (by decide) (by decide) ?_
          exact ⟨rfl, N12⟩
        · refine Gen.on (b := T11.setTop (mkF m 81 #[.val (.long q1), .second, .val (.long q2), .second, .val (.int p3), .val (.long (q1 &&& (9223372036854775807 : Int64))), .second, .val (.long (q2 &&& (9223372036854775807 : Int64))), .second, .val (.int (p3 &&& (3 : Int32))), .val (.ref b10), .unset] [])) ?_ (fun t k => XS.ifNo X11.here hx rfl (hb hby at_78) rfl (own_eq0 c78_4).1 k)
          refine Gen.on (b := T11.setTop (mkF m 82 #[.val (.long q1), .second, .val (.long q2), .second, .val (.int p3), .val (.long (q1 &&& (9223372036854775807 : Int64))), .second, .val (.long (q2 &&& (9223372036854775807 : Int64))), .second, .val (.int (p3 &&& (3 : Int32))), .val (.ref b10), .unset] [(.int (1 : Int32))])) ?_ (fun t k => XS.iconst X11.here hx rfl (hb hby at_81) k)
          refine Gen.on (b := T11.setTop (mkF m 86 #[.val (.long q1), .second, .val (.long q2), .second, .val (.int p3), .val (.long (q1 &&& (9223372036854775807 : Int64))), .second, .val (.long (q2 &&& (9223372036854775807 : Int64))), .second, .val (.int (p3 &&& (3 : Int32))), .val (.ref b10), .unset] [(.int (1 : Int32))])) ?_ (fun t k => XS.goto X11.here hx rfl (pc0 := 82) (pc' := 86) rfl (hb hby at_82) (by decide) (by decide) k)
          refine Gen.on (b := T11.setTop (mkF m 88 #[.val (.long q1), .second, .val (.long q2), .second, .val (.int p3), .val (.long (q1 &&& (9223372036854775807 : Int64))), .second, .val (.long (q2 &&& (9223372036854775807 : Int64))), .second, .val (.int (p3 &&& (3 : Int32))), .val (.ref b10), .val (.int (1 : Int32))] [])) ?_ (fun t k => XS.istore X11.here hx rfl (hb hby at_86) rfl (l' := #[.val (.long q1), .second, .val (.long q2), .second, .val (.int p3), .val (.long (q1 &&& (9223372036854775807 : Int64))), .second, .val (.long (q2 &&& (9223372036854775807 : Int64))), .second, .val (.int (p3 &&& (3 : Int32))), .val (.ref b10), .val (.int (1 : Int32))]) rfl k)
          refine Gen.on (b := T11.setTop (mkF m 90 #[.val (.long q1), .second, .val (.long q2), .second, .val (.int p3), .val (.long (q1 &&& (9223372036854775807 : Int64))), .second, .val (.long (q2 &&& (9223372036854775807 : Int64))), .second, .val (.int (p3 &&& (3 : Int32))), .val (.ref b10), .val (.int (1 : Int32))] [(.ref b10)])) ?_ (fun t k => XS.aload X11.here hx rfl (hb hby at_88) rfl rfl k)
          obtain ⟨cq13, kq13, q13a, q13b, q13c⟩ := isOf hZ rfl hf11_0
          obtain ⟨_, _, ⟨T13, L13, k13, n13⟩, -, X13, ⟨Lc13, hQ13, l13, y13, z13⟩, st13⟩ := X11.virtualBack hx (y := (⟨"com/example/theseus/theseus/language/Page", "isLimited", "()Z"⟩ : MethodName)) (z := (⟨"com/example/theseus/theseus/language/Page", "isLimited", "()Z"⟩ : MethodName)) hown (mvT hZ (hw _ (List.mem_of_getElem? (i := 19) rfl))) (mvT hZ (hw _ (List.mem_of_getElem? (i := 20) rfl))) (notFace_of_selects (args := #[]) (mvT hZ (hw _ (List.mem_of_getElem? (i := 22) rfl)))) (mvT hZ (hw _ (List.mem_of_getElem? (i := 22) rfl))) (mvT hZ (hw _ (List.mem_of_getElem? (i := 21) rfl))) (by decide) (backOf (W := 0) (rm4 l Z a0 hw [] b10 (q2 &&& (9223372036854775807 : Int64)) T11.heap n0 Z11 hf11_2) hZ (hw _ (List.mem_of_getElem? (i := 23) rfl)) (hw _ (List.mem_of_getElem? (i := 3) rfl)) (by decide) (by decide)) q13a q13c (g := (mkF m 90 #[.val (.long q1), .second, .val (.long q2), .second, .val (.int p3), .val (.long (q1 &&& (9223372036854775807 : Int64))), .second, .val (.long (q2 &&& (9223372036854775807 : Int64))), .second, .val (.int (p3 &&& (3 : Int32))), .val (.ref b10), .val (.int (1 : Int32))] [(.ref b10)])) rfl (by rw [hml]; rfl) (Steps.refl _) (argsL := []) (rest := []) (lenOf pd_0_1 rfl) rfl (by show 2 * 0 + _ ≤ _; exact Nat.le_of_eq rfl) (hb hby at_90) (fun _ _ => ⟨rfl, rfl, (by decide : 1 + 0 ≤ _), (by decide : 2 + 0 ≤ _)⟩)
          dsimp only [Pt.U, Pt.locs, Pt.cells, Pt.slots] at X13 l13 y13 z13 st13 hQ13
          subst l13 y13 z13
          obtain ⟨rfl, N13q, e13⟩ := hQ13
          have N13 := Fr.app N11 N13q
          refine Gen.on (b := T13.setTop (mkF m 93 #[.val (.long q1), .second, .val (.long q2), .second, .val (.int p3), .val (.long (q1 &&& (9223372036854775807 : Int64))), .second, .val (.long (q2 &&& (9223372036854775807 : Int64))), .second, .val (.int (p3 &&& (3 : Int32))), .val (.ref b10), .val (.int (1 : Int32))] [(.int (f4 (q2 &&& (9223372036854775807 : Int64))))])) ?_ (fun t k => st13.trans k)
          refine Gen.on (b := T13.setTop (mkF m 95 #[.val (.long q1), .second, .val (.long q2), .second, .val (.int p3), .val (.long (q1 &&& (9223372036854775807 : Int64))), .second, .val (.long (q2 &&& (9223372036854775807 : Int64))), .second, .val (.int (p3 &&& (3 : Int32))), .val (.ref b10), .val (.int (1 : Int32))] [(.int (1 : Int32)), (.int (f4 (q2 &&& (9223372036854775807 : Int64))))])) ?_ (fun t k => XS.iload X13.here hx rfl (hb hby at_93) rfl k)
          refine Gen.on (b := T13.setTop (mkF m 98 #[.val (.long q1), .second, .val (.long q2), .second, .val (.int p3), .val (.long (q1 &&& (9223372036854775807 : Int64))), .second, .val (.long (q2 &&& (9223372036854775807 : Int64))), .second, .val (.int (p3 &&& (3 : Int32))), .val (.ref b10), .val (.int (1 : Int32))] [])) ?_ (fun t k => XS.icmpNo X13.here hx rfl (hb hby at_95) rfl (teq (own_n (q2 &&& (9223372036854775807 : Int64)) c78_4)).2 k)
          refine Gen.on (b := T13.setTop (mkF m 99 #[.val (.long q1), .second, .val (.long q2), .second, .val (.int p3), .val (.long (q1 &&& (9223372036854775807 : Int64))), .second, .val (.long (q2 &&& (9223372036854775807 : Int64))), .second, .val (.int (p3 &&& (3 : Int32))), .val (.ref b10), .val (.int (1 : Int32))] [(.int (1 : Int32))])) ?_ (fun t k => XS.iconst X13.here hx rfl (hb hby at_98) k)
          refine Gen.on (b := T13.setTop (mkF m 103 #[.val (.long q1), .second, .val (.long q2), .second, .val (.int p3), .val (.long (q1 &&& (9223372036854775807 : Int64))), .second, .val (.long (q2 &&& (9223372036854775807 : Int64))), .second, .val (.int (p3 &&& (3 : Int32))), .val (.ref b10), .val (.int (1 : Int32))] [(.int (1 : Int32))])) ?_ (fun t k => XS.goto X13.here hx rfl (pc0 := 99) (pc' := 103) rfl (hb hby at_99) (by decide) (by decide) k)
          refine own_retN (t := .boolean) X13 hx Bd.returns (by simp) (by decide) (hb hby at_103) (by decide) (by decide) ?_
          exact ⟨rfl, N13⟩
set_option maxRecDepth 65536 in
set_option maxHeartbeats 40000000 in
theorem comes_1 {Post : Tables → Env → Array Value → State → Outcome → State → Prop} (hpost : ∀ tb e args s v u, (limb_1_1.after args s (.returned v) u = true ∧ limb_1_2.after args s (.returned v) u = true ∧ True) → FrameEnd s (.returned v) u (Jvm.fieldLocs frame_1_writes args s ++ Jvm.arrayLocs frame_1_arrays args s ++ Jvm.staticLocs frame_1_statics s) 16 128 → Post tb e args s (.returned v) u) :
    ArmFor flags0 classFile x code maxLocals ret World_1 tables_1 room_1 Calls_1 rest_1 Pre_1 Post := by
  intro l hfl _ _ p e ha hc hk s m args below hf hA hF happ hP
  obtain ⟨hcalls, hrest, hpre⟩ := hP
  obtain ⟨-, -, -, hnamed, -, -, -, hat⟩ := (Spec.applies_iff hf).mp happ
  obtain ⟨hg, hn⟩ := and_e (Cond.before_iff.mp (show (Jvm.Cond.and given_1 narrow_1).before args s = true from hpre))
  obtain ⟨hcount, hr1⟩ := and_e hg
  obtain ⟨ha0, hr2⟩ := and_e hr1
  obtain ⟨ha1, hr3⟩ := and_e hr2
  obtain ⟨w0, w1, w2, rfl⟩ : ∃ w0 w1 w2 : Value, args = #[w0, w1, w2] := by
    have hs : args.size = 3 := by simpa [Cond.value, given_1] using hcount
    obtain ⟨L⟩ := args
    match L, hs with
    | [w0, w1, w2], _ => exact ⟨w0, w1, w2, rfl⟩
  have hw := fun d (hd : d ∈ tables_1) => atoms_spec (ws := Jvm.Cond.code x code maxLocals ret :: tables_1) hat d (List.mem_cons_of_mem _ hd)
  have hfit : Fit s := fun {y c} hc i hi => by
    obtain ⟨ha, rfl⟩ := Array.getElem?_eq_some_iff.mp hc
    have q := List.all_eq_true.mp ((Array.all_eq_true_iff_forall_mem.mp hF) _ (Array.getElem_mem ha)) i (List.mem_range.mpr hi)
    simpa [Array.getElem?_eq_getElem hi] using q
  obtain ⟨i0, ei0⟩ := isL_v ha0
  obtain rfl : w0 = (.long i0) := Option.some.inj ei0
  obtain ⟨i1, ei1⟩ := isL_v ha1
  obtain rfl : w1 = (.long i1) := Option.some.inj ei1
  obtain ⟨i2, ei2⟩ := is_v hr3
  obtain rfl : w2 = (.int i2) := Option.some.inj ei2
  obtain ⟨n, o, h1, h2, h3, _, L, rfl, ⟨rfl, N⟩, hq⟩ := rm0 l s _ hw tables_1 i0 i1 i2 s.heap s.heap.size (Nat.le_refl _)  p e ha hc hk s m _ below hf ((Spec.applies_iff_loose hf).mp happ).1 ⟨rfl, State.Warmed39.refl s, rfl⟩ trivial
  refine ⟨n, _, h1, h2, h3, hpost _ _ _ _ _ _ ⟨Cond.after_iff.mpr rfl, Cond.after_iff.mpr (eq_i res_at (Term.int_eval (1)) rfl), trivial⟩ ⟨hq.1, hq.2.1, (hq.2.2.sift fun y hy => Or.inr (N y hy)).mono (by decide) (by decide)⟩⟩
theorem main_1_1 : Claimed_1_1 := comes_1 fun _ _ _ _ _ _ h hF => ⟨h.1, hF⟩
theorem main_1_2 : Claimed_1_2 := comes_1 fun _ _ _ _ _ _ h hF => ⟨h.2.1, hF⟩
end Jvm.Pilot.@@N@@
namespace Jvm.Pilot.@@N@@
open Jvm Jvm.ClassFile Sem Op Lib Jvm.Free Jvm.Stand Jvm.Pilot.@@N@@.Jvm.D
/-! MADE BY PROGRAM (witnessworld.py) out of the Statement's table words and the real class files: 10 classes; the members and pool entries that the words name. The judged class is class 1, her method 1. -/
namespace start1
open Jvm.ClassFile
def u (s : String) : CpInfo := .utf8 (stringToUtf16 s)
/-- a pool by its gaps: so many unusable entries, then the entry; so many at the end -/
def gap : Nat → List CpInfo → List CpInfo
  | 0, r => r
  | n + 1, r => .unusable :: gap n r
def poolList (es : List (Nat × CpInfo)) (last : Nat) : List CpInfo := es.foldr (fun e r => gap e.1 (e.2 :: r)) (gap last [])
def pool (es : List (Nat × CpInfo)) (last : Nat) : Array CpInfo := ⟨poolList es last⟩
def fileOf (pool : Array CpInfo) (this : Nat) (attrs : Array Attribute := #[]) (ms : Array MethodInfo := #[]) (fl : Nat := 33) (sup : Nat := 0) (ifs : Array Nat := #[]) (fds : Array FieldInfo := #[]) : ClassFile where
  minorVersion := 0
  majorVersion := 65
  constantPool := pool
  accessFlags := fl
  thisClass := this
  superClass := sup
  interfaces := ifs
  fields := fds
  methods := ms
  attributes := attrs
def plain (name : String) (sup : Option ClassId) : Class where
  name := name
  kind := .ordinary
  loader := none
  accessFlags := 33
  super := sup
  interfaces := #[]
  cf := none
  fields := #[]
  methods := #[]
  instanceTypes := #[]
  staticTypes := #[]
  resolved := #[]
  callSites := []
  init := .initialized
  statics := none
  mirror := none

def pool0 : Array CpInfo := pool [(5, u "<init>"), (0, u "()V"), (1, .class_ 10), (1, u "java/lang/Object")] 113

def k0c0 : Code := { maxStack := 0, maxLocals := 1, code := object_method_1_code, exceptionTable := #[], attributes := #[] }
def k0m0 : Method := { name := "<init>", desc := "()V", sig := { parameters := [], returnType := none }, accessFlags := 1, code := some k0c0 }
/-- java/lang/Object -/
def k0 : Class := { plain "java/lang/Object" none with
  accessFlags := 33
  interfaces := #[]
  cf := some (fileOf pool0 8 #[] #[{ accessFlags := 1, nameIndex := 5, descriptorIndex := 6, attributes := #[] }] 33 0 #[] #[])
  fields := #[]
  methods := #[k0m0]
  instanceTypes := #[]
  staticTypes := #[]
  resolved := Array.replicate 124 none
  statics := none }

def pool1 : Array CpInfo := pool [(2, .class_ 4), (1, u "java/lang/Object"), (0, u "<init>"), (0, u "()V"), (0, .long 9223372036854775807), (1, .long 9223372036854775806), (1, .class_ 12), (0, u "com/example/theseus/theseus/language/Page"), (0, .methodref 11 14), (0, .nameAndType 5 15), (0, u "(JJ)V"), (0, .methodref 11 17), (0, .nameAndType 18 19), (0, u "isLimited"), (0, u "()Z"), (0, .class_ 21), (0, u "com/example/theseus/theseus/language/PageIsLimitedPinLaw"), (2, u "law"), (0, u "(JJI)Z")] 3

def k1m0 : Method := { name := "<init>", desc := "()V", sig := { parameters := [], returnType := none }, accessFlags := 1, code := none }
def k1c1 : Code := { maxStack := 6, maxLocals := 12, code := code, exceptionTable := #[], attributes := #[] }
def k1m1 : Method := { name := "law", desc := "(JJI)Z", sig := { parameters := [.long, .long, .int], returnType := some .boolean }, accessFlags := 9, code := some k1c1 }
/-- com/example/theseus/theseus/language/PageIsLimitedPinLaw -/
def k1 : Class := { plain "com/example/theseus/theseus/language/PageIsLimitedPinLaw" (some 0) with
  accessFlags := 49
  interfaces := #[]
  cf := some (fileOf pool1 20 #[] #[{ accessFlags := 1, nameIndex := 5, descriptorIndex := 6, attributes := #[] }, { accessFlags := 9, nameIndex := 24, descriptorIndex := 25, attributes := #[] }] 49 2 #[] #[])
  fields := #[]
  methods := #[k1m0, k1m1]
  instanceTypes := #[]
  staticTypes := #[]
  resolved := Array.replicate 29 none
  statics := none }

def pool2 : Array CpInfo := pool [(1, .methodref 2 3), (0, .class_ 4), (0, .nameAndType 5 6), (0, u "java/lang/Object"), (0, u "<init>"), (0, u "()V"), (0, .class_ 8), (0, u "java/lang/Record")] 13

def k2c0 : Code := { maxStack := 1, maxLocals := 1, code := jdk_30_method_1_code, exceptionTable := #[], attributes := #[] }
def k2m0 : Method := { name := "<init>", desc := "()V", sig := { parameters := [], returnType := none }, accessFlags := 4, code := some k2c0 }
/-- java/lang/Record -/
def k2 : Class := { plain "java/lang/Record" (some 0) with
  accessFlags := 1057
  interfaces := #[]
  cf := some (fileOf pool2 7 #[] #[{ accessFlags := 4, nameIndex := 5, descriptorIndex := 6, attributes := #[] }] 1057 2 #[] #[])
  fields := #[]
  methods := #[k2m0]
  instanceTypes := #[]
  staticTypes := #[]
  resolved := Array.replicate 22 none
  statics := none }

def pool3 : Array CpInfo := pool [(3, .methodref 4 5), (0, .class_ 6), (0, .nameAndType 7 8), (0, u "java/lang/Record"), (0, u "<init>"), (0, u "()V"), (10, .fieldref 20 21), (0, .class_ 22), (0, .nameAndType 23 24), (0, u "com/example/theseus/theseus/language/Page"), (0, u "offset"), (0, u "J"), (0, .fieldref 20 26), (0, .nameAndType 27 24), (0, u "limit"), (0, .long 9223372036854775807), (3, u "isLimited"), (0, u "()Z"), (11, u "(JJ)V"), (14, u "ALL"), (0, u "Lcom/example/theseus/theseus/language/Page;"), (0, u "UNLIMITED")] 43

def k3c0 : Code := { maxStack := 4, maxLocals := 5, code := prog_11_method_1_code, exceptionTable := #[], attributes := #[] }
def k3m0 : Method := { name := "<init>", desc := "(JJ)V", sig := { parameters := [.long, .long], returnType := none }, accessFlags := 1, code := some k3c0 }
def k3c1 : Code := { maxStack := 4, maxLocals := 1, code := prog_11_method_2_code, exceptionTable := #[], attributes := #[] }
def k3m1 : Method := { name := "isLimited", desc := "()Z", sig := { parameters := [], returnType := some .boolean }, accessFlags := 1, code := some k3c1 }
/-- com/example/theseus/theseus/language/Page -/
def k3 : Class := { plain "com/example/theseus/theseus/language/Page" (some 2) with
  accessFlags := 49
  interfaces := #[]
  cf := some (fileOf pool3 20 #[] #[{ accessFlags := 1, nameIndex := 7, descriptorIndex := 45, attributes := #[] }, { accessFlags := 1, nameIndex := 32, descriptorIndex := 33, attributes := #[] }] 49 4 #[] #[{ accessFlags := 18, nameIndex := 23, descriptorIndex := 24, attributes := #[] }, { accessFlags := 18, nameIndex := 27, descriptorIndex := 24, attributes := #[] }, { accessFlags := 25, nameIndex := 62, descriptorIndex := 24, attributes := #[] }, { accessFlags := 25, nameIndex := 60, descriptorIndex := 61, attributes := #[] }])
  fields := #[{ name := "offset", type := .long, accessFlags := 18, slot := 0, constantValue := 0 }, { name := "limit", type := .long, accessFlags := 18, slot := 1, constantValue := 0 }, { name := "UNLIMITED", type := .long, accessFlags := 25, slot := 0, constantValue := 0 }, { name := "ALL", type := (.object "com/example/theseus/theseus/language/Page"), accessFlags := 25, slot := 1, constantValue := 0 }]
  methods := #[k3m0, k3m1]
  instanceTypes := #[.long, .long]
  staticTypes := #[.long, (.object "com/example/theseus/theseus/language/Page")]
  resolved := Array.replicate 106 none
  statics := none }

def pool4 : Array CpInfo := pool [(1, u "java/lang/Cloneable"), (0, .class_ 1), (0, u "java/lang/Object"), (0, .class_ 3)] 3

/-- java/lang/Cloneable -/
def k4 : Class := { plain "java/lang/Cloneable" (some 0) with
  accessFlags := 1537
  interfaces := #[]
  cf := some (fileOf pool4 2 #[] #[] 1537 4 #[] #[])
  fields := #[]
  methods := #[]
  instanceTypes := #[]
  staticTypes := #[]
  resolved := Array.replicate 8 none
  statics := none }

def pool5 : Array CpInfo := pool [(1, u "java/io/Serializable"), (0, .class_ 1), (0, u "java/lang/Object"), (0, .class_ 3)] 3

/-- java/io/Serializable -/
def k5 : Class := { plain "java/io/Serializable" (some 0) with
  accessFlags := 1537
  interfaces := #[]
  cf := some (fileOf pool5 2 #[] #[] 1537 4 #[] #[])
  fields := #[]
  methods := #[]
  instanceTypes := #[]
  staticTypes := #[]
  resolved := Array.replicate 8 none
  statics := none }

/-- the primitive byte -/
def k6 : Class := { plain "byte" none with kind := .primitive 'B', accessFlags := 0x411 }
/-- [B -/
def k7 : Class := { plain "[B" (some 0) with kind := .array 6 .byte, interfaces := #[4, 5], accessFlags := 1041 }

/-- the primitive int -/
def k8 : Class := { plain "int" none with kind := .primitive 'I', accessFlags := 0x411 }
/-- [I -/
def k9 : Class := { plain "[I" (some 0) with kind := .array 8 .int, interfaces := #[4, 5], accessFlags := 1041 }

def heap : Heap := #[]
def classes : Array Class := #[k0, k1, k2, k3, k4, k5, k6, k7, k8, k9]
def interned : List (Array UInt16 × Addr) := []
def slotsUsed : Nat := 0
def theMethod : MethodId := ⟨1, 1⟩
def args0 : Array Value := #[.long 5, .long 7, .int 1]
def aboutOver (below : List Frame) : State where
  vm := { classes := classes, interned := interned.toArray }
  heap := heap
  slotsUsed := slotsUsed
  threads := #[{ frames := .invoking theMethod args0 :: below }]
def below0 : List Frame := [.native { method := ⟨0, 0⟩, args := #[] }]
def about1 : State := aboutOver below0
def p0 : Program := .bare "" "" ""
def e0 : Env := launch0.env 0 0 0
theorem w_frames : about1.frames = Frame.invoking theMethod args0 :: below0 := rfl
set_option maxRecDepth 65536 in
theorem w_args : argsFit about1.vm theMethod args0 = true := by decide +kernel
set_option maxRecDepth 65536 in
theorem w_heap : heapFits about1 = true := by decide +kernel
set_option maxRecDepth 65536 in
theorem w_runnable : about1.curStatus? = some .runnable := by decide +kernel
set_option maxRecDepth 65536 in
theorem w_alone : about1.alone = true := by decide +kernel
set_option maxRecDepth 65536 in
theorem w_named : about1.methodNamed? x = some theMethod := by decide +kernel
set_option maxRecDepth 65536 in
theorem w_hears : about1.hears theMethod below0 = true := by decide +kernel
set_option maxRecDepth 65536 in
theorem w_ripe : about1.ripe theMethod args0 below0 = true := by decide +kernel
theorem w_running : about1.status = .running := rfl
set_option maxRecDepth 65536 in
theorem w_room : about1.hasRoom e0.platform room_1 = true :=
  launch0.hasRoom_least _ room_1 (by decide +kernel) (by decide +kernel) (by decide +kernel) (by decide +kernel) (by decide +kernel) (by decide +kernel)
theorem allAtoms_all (ts : List Jvm.Cond) (a : Array Jvm.Value) (st : Jvm.State) : (allAtoms ts).before a st = ts.all (fun c => c.before a st) := by
  induction ts with
  | nil => rfl
  | cons c t ih =>
    show (Jvm.Cond.and c (allAtoms t)).before a st = _
    rw [Jvm.Cond.before_and, ih, List.all_cons]
def words1 : List Jvm.Cond := Jvm.Cond.code x code maxLocals ret :: tables_1
/-- a 'code' word, met by the world's own term for the bytes: nothing is compared byte by byte -/
theorem code_word {y : MethodName} {bytes : ByteArray} {mx : Nat} {rt : Option FieldType} {a : Array Value} {s : State} {m : MethodId} {meth : Method} {c : Code} (h1 : s.methodNamed? y = some m) (h2 : s.vm.method? m = some meth) (h3 : meth.code = some c) (h4 : c.code = bytes)
    (h5 : (c.maxLocals == mx && c.exceptionTable.isEmpty && decide (c.maxStack ≤ mostOperands) && decide (meth.sig.returnType = rt) && !meth.locks && decide (parseMethodDescriptor y.desc = some meth.sig)) = true) : (Jvm.Cond.code y bytes mx rt).before a s = true := by
  simp only [Bool.and_eq_true, beq_iff_eq, Bool.not_eq_true', decide_eq_true_eq] at h5
  obtain ⟨⟨⟨⟨⟨g1, g2⟩, g3⟩, g4⟩, g5⟩, g6⟩ := h5
  simp [Cond.before, Cond.holds, Cond.value, h1, h2, h3, h4, g1, g2, g3, g4, g5, g6]
def isCode : Jvm.Cond → Bool
  | .code _ _ _ _ => true
  | _ => false
theorem all_split {L : List Jvm.Cond} {P : Jvm.Cond → Bool} (h1 : L.all (fun c => isCode c || P c) = true) (h2 : ∀ c ∈ L.filter isCode, P c = true) : L.all P = true := by
  refine List.all_eq_true.mpr fun c hc => ?_
  have h := List.all_eq_true.mp h1 c hc
  rcases Bool.eq_false_or_eq_true (isCode c) with hi | hi
  · exact h2 c (List.mem_filter.mpr ⟨hc, hi⟩)
  · simpa [hi] using h
set_option maxRecDepth 65536 in
theorem w_c0 : (Jvm.Cond.code x code maxLocals ret).before args0 about1 = true := code_word (m := ⟨1, 1⟩) (meth := k1m1) (c := k1c1) (by decide +kernel) rfl rfl rfl (by decide +kernel)
set_option maxRecDepth 65536 in
theorem w_c1 : (Jvm.Cond.code ({ cls := "com/example/theseus/theseus/language/Page", name := "<init>", desc := "(JJ)V" } : Jvm.MethodName) prog_11_method_1_code (5 : Nat) (Option.none : Option Jvm.ClassFile.FieldType)).before args0 about1 = true := code_word (m := ⟨3, 0⟩) (meth := k3m0) (c := k3c0) (by decide +kernel) rfl rfl rfl (by decide +kernel)
set_option maxRecDepth 65536 in
theorem w_c2 : (Jvm.Cond.code ({ cls := "java/lang/Record", name := "<init>", desc := "()V" } : Jvm.MethodName) jdk_30_method_1_code (1 : Nat) (Option.none : Option Jvm.ClassFile.FieldType)).before args0 about1 = true := code_word (m := ⟨2, 0⟩) (meth := k2m0) (c := k2c0) (by decide +kernel) rfl rfl rfl (by decide +kernel)
set_option maxRecDepth 65536 in
theorem w_c3 : (Jvm.Cond.code ({ cls := "java/lang/Object", name := "<init>", desc := "()V" } : Jvm.MethodName) object_method_1_code (1 : Nat) (Option.none : Option Jvm.ClassFile.FieldType)).before args0 about1 = true := code_word (m := ⟨0, 0⟩) (meth := k0m0) (c := k0c0) (by decide +kernel) rfl rfl rfl (by decide +kernel)
set_option maxRecDepth 65536 in
theorem w_c4 : (Jvm.Cond.code ({ cls := "com/example/theseus/theseus/language/Page", name := "isLimited", desc := "()Z" } : Jvm.MethodName) prog_11_method_2_code (1 : Nat) (Option.some Jvm.ClassFile.FieldType.boolean)).before args0 about1 = true := code_word (m := ⟨3, 1⟩) (meth := k3m1) (c := k3c1) (by decide +kernel) rfl rfl rfl (by decide +kernel)
def codes1 : List Jvm.Cond := [Jvm.Cond.code x code maxLocals ret, Jvm.Cond.code ({ cls := "com/example/theseus/theseus/language/Page", name := "<init>", desc := "(JJ)V" } : Jvm.MethodName) prog_11_method_1_code (5 : Nat) (Option.none : Option Jvm.ClassFile.FieldType), Jvm.Cond.code ({ cls := "java/lang/Record", name := "<init>", desc := "()V" } : Jvm.MethodName) jdk_30_method_1_code (1 : Nat) (Option.none : Option Jvm.ClassFile.FieldType), Jvm.Cond.code ({ cls := "java/lang/Object", name := "<init>", desc := "()V" } : Jvm.MethodName) object_method_1_code (1 : Nat) (Option.none : Option Jvm.ClassFile.FieldType), Jvm.Cond.code ({ cls := "com/example/theseus/theseus/language/Page", name := "isLimited", desc := "()Z" } : Jvm.MethodName) prog_11_method_2_code (1 : Nat) (Option.some Jvm.ClassFile.FieldType.boolean)]
set_option maxRecDepth 65536 in
theorem codes_eq : words1.filter isCode = codes1 := rfl
theorem w_codes : ∀ c ∈ words1.filter isCode, c.before args0 about1 = true := by
  rw [codes_eq]
  intro c hc
  simp only [codes1, List.mem_cons, List.not_mem_nil, or_false] at hc
  rcases hc with rfl | rfl | rfl | rfl | rfl
  · exact w_c0
  · exact w_c1
  · exact w_c2
  · exact w_c3
  · exact w_c4
set_option maxRecDepth 65536 in
theorem w_t1 : (words1.take 24).all (fun c => isCode c || c.before args0 about1) = true := by decide +kernel
set_option maxRecDepth 65536 in
theorem w_t2 : (words1.drop 24).all (fun c => isCode c || c.before args0 about1) = true := by decide +kernel
theorem w_tables : (allAtoms (Jvm.Cond.code x code maxLocals ret :: tables_1)).before args0 about1 = true := by
  rw [allAtoms_all]
  show words1.all (fun c => c.before args0 about1) = true
  refine all_split ?_ w_codes
  rw [← List.take_append_drop 24 words1, List.all_append, w_t1, w_t2]
  rfl
set_option maxRecDepth 65536 in
theorem w_case : (Jvm.Cond.and given_1 narrow_1).before args0 about1 = true := by decide +kernel
theorem w_applies : (headSpec (Jvm.Cond.code x code maxLocals ret :: tables_1) room_1).applies x e0.platform about1 = true :=
  (Spec.applies_iff w_frames).mpr ⟨w_running, w_runnable, w_alone, w_named, w_hears, w_ripe, w_room, w_tables⟩
theorem atStart : AtStart classFile x code maxLocals ret World_1 tables_1 room_1 Calls_1 rest_1 Pre_1 launch0 p0 e0 about1 theMethod args0 below0 :=
  ⟨lists_1, trivial, launch0.admits_env _ _ _, launch0.least_env, fairChoices_fair.cas, fairChoices_fair.clock, w_frames, w_args, w_heap, w_applies, trivial, trivial, w_case⟩
end start1
theorem witness_1 : WitnessClaimed_1 := ⟨start1.p0, start1.e0, start1.about1, start1.theMethod, start1.args0, start1.below0, start1.atStart⟩
end Jvm.Pilot.@@N@@
