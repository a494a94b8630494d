import JvmDerived
import JvmDerived.Pilot.@@N@@Statement
import JvmDerived.Pilot.@@N@@Code
set_option linter.unusedVariables false
set_option linter.unusedSimpArgs false
@@BLOCK:NumsL.lean.txt@@
namespace Jvm.Pilot.@@N@@
open Jvm Jvm.ClassFile Sem Op Lib Jvm.Free Jvm.Stand Jvm.LawKit Jvm.RoadKit Bundle Jvm.Pilot.@@N@@.Jvm.D
section OwnKit
variable {p : Program} {l : Launch} {e : Env} {R : Room} {s : State} {m : MethodId} {args : Array Value} {below : List Frame} {meth : Method} {c : Code} {T : State} {locs : List Loc} {cells slots : Nat}
/-- from the state a the run comes to a state of which P holds -/
def Gen (p : Program) (e : Env) (below : List Frame) (P : State → Prop) (a : State) : Prop := ∃ s₂, Steps p.tables e below a s₂ ∧ P s₂
theorem Gen.on {P : State → Prop} {a b : State} (k : Gen p e below P b) (h : ∀ t, Steps p.tables e below b t → Steps p.tables e below a t) : Gen p e below P a := by
  obtain ⟨s2, h1, h2⟩ := k
  exact ⟨s2, h _ h1, h2⟩
/-- the body has returned, and Q holds of what it returns, leaves and has written -/
def OwnP (below : List Frame) (s : State) (Q : Option Value → Heap → List Loc → Prop) (C S : Nat) (s₂ : State) : Prop := ∃ o, s₂.status = .running ∧ Ended s₂ below o ∧ ∃ v L, o = .returned v ∧ Q v s₂.heap L ∧ FrameEnd s o s₂ L C S
def Own (p : Program) (e : Env) (below : List Frame) (s : State) (Q : Option Value → Heap → List Loc → Prop) (C S : Nat) (a : State) : Prop := Gen p e below (OwnP below s Q C S) a
variable {Q : Option Value → Heap → List Loc → Prop} {C S : Nat}
theorem own_start {a : State} (k : Own p e below s Q C S a) : ∃ s₂ o, Steps p.tables e below a s₂ ∧ s₂.status = .running ∧ Ended s₂ below o ∧ ∃ v L, o = .returned v ∧ Q v s₂.heap L ∧ FrameEnd s o s₂ L C S := by
  obtain ⟨s2, h1, o, h2⟩ := k
  exact ⟨s2, o, h1, h2⟩
/-- the walk stands in a frame F, the heap being H, with what X had written -/
def own_at (X : Stand p l e R s m args below meth c T locs cells slots) (H : Heap) (F : JFrame) (s₂ : State) : Prop := ∃ T', Stand p l e R s m args below meth c T' locs cells slots ∧ T'.heap = H ∧ s₂ = T'.setTop F
theorem own_ret (X : Stand p l e R s m args below meth c T locs cells slots) {g : JFrame} {v : Option Value} (hv : meth.sig.returnType = none → v = none) (hlocks : meth.locks = false) (hc : cells ≤ C) (hs : slots ≤ S) (hq : Q v T.heap locs)
    (st : ∀ fs, (∀ (f : JFrame) (acts : List Action), f.method = m → f.locked = none → f.entered = [] → (doReturn e (T.setTop f) acts v).1 = T.setFrames fs) → Steps p.tables e below (T.setTop g) (T.setFrames fs)) : Own p e below s Q C S (T.setTop g) := by
  obtain ⟨fs, hr, hrun, hended, hW, hsame⟩ := X.leave (v := v) hv hlocks
  exact ⟨_, st fs hr, _, hrun, hended, _, _, rfl, hq, ⟨_, rfl⟩, hW, hsame.mono hc hs⟩
theorem own_retI (X : Stand p l e R s m args below meth c T locs cells slots) (hx : p.tables.exec = Jvm.exec) {pc : Nat} {Ls : Array Slot} {z : Int32} {rest : List Value} (hret : meth.sig.returnType = some .int) (hd : decode c.code pc = .ok (.ireturn, 1)) (hc : cells ≤ C) (hs : slots ≤ S) (hq : Q (some (.int z)) T.heap locs) (hlocks : meth.locks = false := by first | assumption | exact BodyLoose.notSynchronized (by assumption)) : Own p e below s Q C S (T.setTop (mkF m pc Ls (.int z :: rest))) :=
  own_ret X (fun h => by rw [hret] at h; cases h) hlocks hc hs hq fun fs hr => retOut X hx hret rfl (Or.inl ⟨rfl, Or.inl rfl, z, rfl⟩) hd hr
theorem own_retN (X : Stand p l e R s m args below meth c T locs cells slots) (hx : p.tables.exec = Jvm.exec) {pc : Nat} {Ls : Array Slot} {z : Int32} {t : FieldType} {rest : List Value} (hret : meth.sig.returnType = some t) (ht : t = .boolean ∨ t = .byte ∨ t = .char ∨ t = .short) (hz : nar t z = z) (hd : decode c.code pc = .ok (.ireturn, 1)) (hc : cells ≤ C) (hs : slots ≤ S) (hq : Q (some (.int z)) T.heap locs) (hlocks : meth.locks = false := by first | assumption | exact BodyLoose.notSynchronized (by assumption)) : Own p e below s Q C S (T.setTop (mkF m pc Ls (.int z :: rest))) :=
  own_ret X (fun h => by rw [hret] at h; cases h) hlocks hc hs hq fun fs hr => retN X hx hret ht hd (by rw [hz]; exact hr)
theorem own_retJ (X : Stand p l e R s m args below meth c T locs cells slots) (hx : p.tables.exec = Jvm.exec) {pc : Nat} {Ls : Array Slot} {z : Int64} {rest : List Value} (hret : meth.sig.returnType = some .long) (hd : decode c.code pc = .ok (.lreturn, 1)) (hc : cells ≤ C) (hs : slots ≤ S) (hq : Q (some (.long z)) T.heap locs) (hlocks : meth.locks = false := by first | assumption | exact BodyLoose.notSynchronized (by assumption)) : Own p e below s Q C S (T.setTop (mkF m pc Ls (.long z :: rest))) :=
  own_ret X (fun h => by rw [hret] at h; cases h) hlocks hc hs hq fun fs hr => retOut X hx hret rfl (Or.inr (Or.inl ⟨rfl, rfl, z, rfl⟩)) hd hr
theorem own_retA (X : Stand p l e R s m args below meth c T locs cells slots) (hx : p.tables.exec = Jvm.exec) {pc : Nat} {Ls : Array Slot} {w : Value} {t : FieldType} {rest : List Value} (hret : meth.sig.returnType = some t) (ht : t.isReference = true) (hw : w.isRef = true) (hd : decode c.code pc = .ok (.areturn, 1)) (hc : cells ≤ C) (hs : slots ≤ S) (hq : Q (some w) T.heap locs) (hlocks : meth.locks = false := by first | assumption | exact BodyLoose.notSynchronized (by assumption)) : Own p e below s Q C S (T.setTop (mkF m pc Ls (w :: rest))) :=
  own_ret X (fun h => by rw [hret] at h; cases h) hlocks hc hs hq fun fs hr => retOut X hx hret (by cases t <;> cases w <;> simp [FieldType.isReference, Value.isRef] at ht hw <;> rfl) (Or.inr (Or.inr (Or.inr (Or.inr ⟨rfl, ht, hw⟩)))) hd hr
theorem own_ret0 (X : Stand p l e R s m args below meth c T locs cells slots) (hx : p.tables.exec = Jvm.exec) {pc : Nat} {Ls : Array Slot} (hret : meth.sig.returnType = none) (hd : decode c.code pc = .ok (.return_, 1)) (hc : cells ≤ C) (hs : slots ≤ S) (hq : Q none T.heap locs) (hlocks : meth.locks = false := by first | assumption | exact BodyLoose.notSynchronized (by assumption)) : Own p e below s Q C S (T.setTop (mkF m pc Ls [])) :=
  own_ret X (fun _ => rfl) hlocks hc hs hq fun fs hr => X.returnOut hx hret hd hr
theorem own_lt1 {a b : Int64} (h : a < b) : ifCond.holds .lt (lcmpW a b) = true ∧ ifCond.holds .ge (lcmpW a b) = false := by
  have h1 : ¬ a > b := fun q => by rw [gt_iff_lt, Int64.lt_iff_toInt_lt] at q; rw [Int64.lt_iff_toInt_lt] at h; omega
  have h2 : ¬ a = b := fun q => by subst q; exact h1 h
  rw [lcmpW, if_neg h1, if_neg h2]; exact ⟨rfl, rfl⟩
theorem own_lt0 {a b : Int64} (h : ¬ a < b) : ifCond.holds .lt (lcmpW a b) = false ∧ ifCond.holds .ge (lcmpW a b) = true := by
  rw [lcmpW]
  by_cases h1 : a > b
  · rw [if_pos h1]; exact ⟨rfl, rfl⟩
  · have h2 : a = b := by rw [gt_iff_lt, Int64.lt_iff_toInt_lt] at h1; rw [Int64.lt_iff_toInt_lt] at h; exact Int64.toInt_inj.mp (by omega)
    rw [if_neg h1, if_pos h2]; exact ⟨rfl, rfl⟩
theorem own_gt1 {a b : Int64} (h : b < a) : ifCond.holds .gt (lcmpW a b) = true ∧ ifCond.holds .le (lcmpW a b) = false := by
  rw [lcmpW, if_pos h]; exact ⟨rfl, rfl⟩
theorem own_gt0 {a b : Int64} (h : ¬ b < a) : ifCond.holds .gt (lcmpW a b) = false ∧ ifCond.holds .le (lcmpW a b) = true := by
  rw [lcmpW, if_neg h]
  by_cases h1 : a = b
  · rw [if_pos h1]; exact ⟨rfl, rfl⟩
  · rw [if_neg h1]; exact ⟨rfl, rfl⟩
theorem own_eq1 {a b : Int64} (h : a = b) : ifCond.holds .eq (lcmpW a b) = true ∧ ifCond.holds .ne (lcmpW a b) = false := by
  have h1 : ¬ a > b := fun q => by subst h; rw [gt_iff_lt, Int64.lt_iff_toInt_lt] at q; omega
  rw [lcmpW, if_neg h1, if_pos h]; exact ⟨rfl, rfl⟩
theorem own_eq0 {a b : Int64} (h : ¬ a = b) : ifCond.holds .eq (lcmpW a b) = false ∧ ifCond.holds .ne (lcmpW a b) = true := by
  rw [lcmpW]
  by_cases h1 : a > b
  · rw [if_pos h1]; exact ⟨rfl, rfl⟩
  · rw [if_neg h1, if_neg h]; exact ⟨rfl, rfl⟩
theorem own_sta_keep {Z : State} {h h' : Heap} {C n d : String} {w : Value} (F : Sta Z h C n d w) (K : Keep h h' []) : Sta Z h' C n d w := by
  obtain ⟨cf, i, k, f, st, cell, h1, h2, h3, h4, h5, h6⟩ := F
  exact ⟨cf, i, k, f, st, cell, h1, h2, h3, h4, K.2.1 st cell h5 nin0, h6⟩
theorem own_arr_keep {Z : State} {h h' : Heap} {a : Addr} {cl : Cell} {ty : FieldType} {ws : List Addr} (A : Arr Z h a cl ty) (K : Keep h h' ws) (q : a ∉ ws) : Arr Z h' a cl ty := ⟨K.2.1 a cl A.1 q, A.2⟩
end OwnKit


def own_hi (x : Int64) : Int64 := x >>> (((32 : Int32) &&& 0x3f).toInt64)
def own_lo (x : Int64) : Int64 := x &&& (4294967295 : Int64)
def own_us (x : Int64) : Int64 := (x.toUInt64 >>> ((32 : Int32) &&& 0x3f).toInt64.toUInt64).toInt64
def own_t (a b : Int64) : Int64 := (own_hi a * own_lo b) + own_us (own_lo a * own_lo b)
def own_u (a b : Int64) : Int64 := own_lo (own_t a b) + (own_lo a * own_hi b)

theorem d2_0 : decode jdk_29_method_45_code 0 = .ok (.lload_n 0, 1) := by decide +kernel
theorem d2_1 : decode jdk_29_method_45_code 1 = .ok (.bipush 32, 2) := by decide +kernel
theorem d2_3 : decode jdk_29_method_45_code 3 = .ok (.lshr, 1) := by decide +kernel
theorem d2_4 : decode jdk_29_method_45_code 4 = .ok (.lstore 4, 2) := by decide +kernel
theorem d2_6 : decode jdk_29_method_45_code 6 = .ok (.lload_n 0, 1) := by decide +kernel
theorem d2_7 : decode jdk_29_method_45_code 7 = .ok (.ldc2_w 138, 3) := by decide +kernel
theorem d2_10 : decode jdk_29_method_45_code 10 = .ok (.land, 1) := by decide +kernel
theorem d2_11 : decode jdk_29_method_45_code 11 = .ok (.lstore 6, 2) := by decide +kernel
theorem d2_13 : decode jdk_29_method_45_code 13 = .ok (.lload_n 2, 1) := by decide +kernel
theorem d2_14 : decode jdk_29_method_45_code 14 = .ok (.bipush 32, 2) := by decide +kernel
theorem d2_16 : decode jdk_29_method_45_code 16 = .ok (.lshr, 1) := by decide +kernel
theorem d2_17 : decode jdk_29_method_45_code 17 = .ok (.lstore 8, 2) := by decide +kernel
theorem d2_19 : decode jdk_29_method_45_code 19 = .ok (.lload_n 2, 1) := by decide +kernel
theorem d2_20 : decode jdk_29_method_45_code 20 = .ok (.ldc2_w 138, 3) := by decide +kernel
theorem d2_23 : decode jdk_29_method_45_code 23 = .ok (.land, 1) := by decide +kernel
theorem d2_24 : decode jdk_29_method_45_code 24 = .ok (.lstore 10, 2) := by decide +kernel
theorem d2_26 : decode jdk_29_method_45_code 26 = .ok (.lload 6, 2) := by decide +kernel
theorem d2_28 : decode jdk_29_method_45_code 28 = .ok (.lload 10, 2) := by decide +kernel
theorem d2_30 : decode jdk_29_method_45_code 30 = .ok (.lmul, 1) := by decide +kernel
theorem d2_31 : decode jdk_29_method_45_code 31 = .ok (.lstore 12, 2) := by decide +kernel
theorem d2_33 : decode jdk_29_method_45_code 33 = .ok (.lload 4, 2) := by decide +kernel
theorem d2_35 : decode jdk_29_method_45_code 35 = .ok (.lload 10, 2) := by decide +kernel
theorem d2_37 : decode jdk_29_method_45_code 37 = .ok (.lmul, 1) := by decide +kernel
theorem d2_38 : decode jdk_29_method_45_code 38 = .ok (.lload 12, 2) := by decide +kernel
theorem d2_40 : decode jdk_29_method_45_code 40 = .ok (.bipush 32, 2) := by decide +kernel
theorem d2_42 : decode jdk_29_method_45_code 42 = .ok (.lushr, 1) := by decide +kernel
theorem d2_43 : decode jdk_29_method_45_code 43 = .ok (.ladd, 1) := by decide +kernel
theorem d2_44 : decode jdk_29_method_45_code 44 = .ok (.lstore 14, 2) := by decide +kernel
theorem d2_46 : decode jdk_29_method_45_code 46 = .ok (.lload 14, 2) := by decide +kernel
theorem d2_48 : decode jdk_29_method_45_code 48 = .ok (.ldc2_w 138, 3) := by decide +kernel
theorem d2_51 : decode jdk_29_method_45_code 51 = .ok (.land, 1) := by decide +kernel
theorem d2_52 : decode jdk_29_method_45_code 52 = .ok (.lstore 16, 2) := by decide +kernel
theorem d2_54 : decode jdk_29_method_45_code 54 = .ok (.lload 14, 2) := by decide +kernel
theorem d2_56 : decode jdk_29_method_45_code 56 = .ok (.bipush 32, 2) := by decide +kernel
theorem d2_58 : decode jdk_29_method_45_code 58 = .ok (.lshr, 1) := by decide +kernel
theorem d2_59 : decode jdk_29_method_45_code 59 = .ok (.lstore 18, 2) := by decide +kernel
theorem d2_61 : decode jdk_29_method_45_code 61 = .ok (.lload 16, 2) := by decide +kernel
theorem d2_63 : decode jdk_29_method_45_code 63 = .ok (.lload 6, 2) := by decide +kernel
theorem d2_65 : decode jdk_29_method_45_code 65 = .ok (.lload 8, 2) := by decide +kernel
theorem d2_67 : decode jdk_29_method_45_code 67 = .ok (.lmul, 1) := by decide +kernel
theorem d2_68 : decode jdk_29_method_45_code 68 = .ok (.ladd, 1) := by decide +kernel
theorem d2_69 : decode jdk_29_method_45_code 69 = .ok (.lstore 16, 2) := by decide +kernel
theorem d2_71 : decode jdk_29_method_45_code 71 = .ok (.lload 4, 2) := by decide +kernel
theorem d2_73 : decode jdk_29_method_45_code 73 = .ok (.lload 8, 2) := by decide +kernel
theorem d2_75 : decode jdk_29_method_45_code 75 = .ok (.lmul, 1) := by decide +kernel
theorem d2_76 : decode jdk_29_method_45_code 76 = .ok (.lload 18, 2) := by decide +kernel
theorem d2_78 : decode jdk_29_method_45_code 78 = .ok (.ladd, 1) := by decide +kernel
theorem d2_79 : decode jdk_29_method_45_code 79 = .ok (.lload 16, 2) := by decide +kernel
theorem d2_81 : decode jdk_29_method_45_code 81 = .ok (.bipush 32, 2) := by decide +kernel
theorem d2_83 : decode jdk_29_method_45_code 83 = .ok (.lshr, 1) := by decide +kernel
theorem d2_84 : decode jdk_29_method_45_code 84 = .ok (.ladd, 1) := by decide +kernel
theorem d2_85 : decode jdk_29_method_45_code 85 = .ok (.lreturn, 1) := by decide +kernel
-- Math
theorem ef_2 (m : MethodId) (x0 : Int64) (x1 : Int64) : entryFrame m #[(.long x0), (.long x1)] 20 = mkF m 0 #[.val (.long x0), .second, .val (.long x1), .second, .unset, .unset, .unset, .unset, .unset, .unset, .unset, .unset, .unset, .unset, .unset, .unset, .unset, .unset, .unset, .unset] [] := by first | (simp [entryFrame, mkF, argsToLocals, Value.category]; done) | rfl
def f2 (q1 : Int64) (q2 : Int64) : Int64 := ((((own_hi q1) * (own_hi q2)) + (own_hi (own_t q1 q2))) + ((own_u q1 q2) >>> ((32 : Int32) &&& 0x3f).toInt64))
def Q2 (q1 : Int64) (q2 : Int64) (h0 : Heap) (n0 : Nat) (v : Option Value) (h : Heap) (L : List Loc) : Prop := v = some (.long (f2 q1 q2)) ∧ Fr n0 L ∧ h = h0
set_option maxRecDepth 65536 in
set_option maxHeartbeats 40000000 in
theorem rm2 (l : Launch) (Z : State) (a0 : Array Value) (hw : ∀ d ∈ tables_1, d.before a0 Z = true) (ws : List Jvm.Cond) (q1 : Int64) (q2 : Int64) (h0 : Heap) (n0 : Nat) (Z0 : n0 ≤ h0.size)  :
    MetFree l (⟨"java/lang/Math", "multiplyHigh", "(JJ)J"⟩ : MethodName) (head1 (Jvm.Cond.code (⟨"java/lang/Math", "multiplyHigh", "(JJ)J"⟩ : MethodName) jdk_29_method_45_code 20 (some .long) :: ws) ({ frames := 0, cells := 0, slots := 0, locals := 0 } : Room)) (fun a U => a = #[(.long q1), (.long q2)] ∧ Z.Warmed39 U.vm ∧ U.heap = h0) (fun _ _ _ _ _ => True) (fun _ U o U' => ∃ v L, o = .returned v ∧ Q2 q1 q2 h0 n0 v U'.heap L ∧ FrameEnd U o U' L ({ frames := 0, cells := 0, slots := 0, locals := 0 } : Room).cells ({ frames := 0, cells := 0, slots := 0, locals := 0 } : Room).slots) := by
  refine MetFree.of_bodySF (Jvm.Free.JP.mathPlain rfl (by decide +kernel)) hisR ?_
  intro p e s m args below meth c s₁ Bd hml0 hP hK
  obtain ⟨rfl, hZ, hh⟩ := hP
  have hx := Bd.exec
  have hby := Bd.bytes
  have hml : c.maxLocals = 20 := hml0
  have hown : s.vm.findClass "java/lang/Math" = some m.cls := findClass_of_methodNamed Bd.named
  have hnm := (name_of_methodNamed Bd.named Bd.method).1
  have X0 : Stand p l e ({ frames := 0, cells := 0, slots := 0, locals := 0 } : Room) s m #[(.long q1), (.long q2)] below meth c s₁ [] 0 0 := Stand.of_body Bd
  have e0 : s₁.heap = h0 := by rw [← hh, Bd.state]; rfl
  have N0 := Fr.nil n0
  refine own_start (Q := Q2 q1 q2 h0 n0) (C := ({ frames := 0, cells := 0, slots := 0, locals := 0 } : Room).cells) (S := ({ frames := 0, cells := 0, slots := 0, locals := 0 } : Room).slots) ?_
  rw [ef_2 m q1 q2]
  have hq : ∀ v hh L, v = some (.long (f2 q1 q2)) → Fr n0 L → hh = h0 → Q2 q1 q2 h0 n0 v hh L := fun v hh L q1 q2 q3 => ⟨q1, q2, q3⟩
  refine Gen.on (b := s₁.setTop (mkF m 1 #[.val (.long q1), .second, .val (.long q2), .second, .unset, .unset, .unset, .unset, .unset, .unset, .unset, .unset, .unset, .unset, .unset, .unset, .unset, .unset, .unset, .unset] [(.long q1)])) ?_ (fun t k => XS.lloadN X0.here hx rfl (hb hby d2_0) rfl k)
  refine Gen.on (b := s₁.setTop (mkF m 3 #[.val (.long q1), .second, .val (.long q2), .second, .unset, .unset, .unset, .unset, .unset, .unset, .unset, .unset, .unset, .unset, .unset, .unset, .unset, .unset, .unset, .unset] [(.int (32 : Int32)), (.long q1)])) ?_ (fun t k => XS.bipush X0.here hx rfl (hb hby d2_1) k)
  refine Gen.on (b := s₁.setTop (mkF m 4 #[.val (.long q1), .second, .val (.long q2), .second, .unset, .unset, .unset, .unset, .unset, .unset, .unset, .unset, .unset, .unset, .unset, .unset, .unset, .unset, .unset, .unset] [(.long (q1 >>> ((32 : Int32) &&& 0x3f).toInt64))])) ?_ (fun t k => XS.lshr X0.here hx rfl (hb hby d2_3) rfl k)
  refine Gen.on (b := s₁.setTop (mkF m 6 #[.val (.long q1), .second, .val (.long q2), .second, .val (.long (q1 >>> ((32 : Int32) &&& 0x3f).toInt64)), .second, .unset, .unset, .unset, .unset, .unset, .unset, .unset, .unset, .unset, .unset, .unset, .unset, .unset, .unset] [])) ?_ (fun t k => XS.lstore X0.here hx rfl (hb hby d2_4) rfl (l' := #[.val (.long q1), .second, .val (.long q2), .second, .val (.long (q1 >>> ((32 : Int32) &&& 0x3f).toInt64)), .second, .unset, .unset, .unset, .unset, .unset, .unset, .unset, .unset, .unset, .unset, .unset, .unset, .unset, .unset]) rfl k)
  refine Gen.on (b := s₁.setTop (mkF m 7 #[.val (.long q1), .second, .val (.long q2), .second, .val (.long (own_hi q1)), .second, .unset, .unset, .unset, .unset, .unset, .unset, .unset, .unset, .unset, .unset, .unset, .unset, .unset, .unset] [(.long q1)])) ?_ (fun t k => XS.lloadN X0.here hx rfl (hb hby d2_6) rfl k)
  refine Gen.on (b := s₁.setTop (mkF m 10 #[.val (.long q1), .second, .val (.long q2), .second, .val (.long (own_hi q1)), .second, .unset, .unset, .unset, .unset, .unset, .unset, .unset, .unset, .unset, .unset, .unset, .unset, .unset, .unset] [(.long (4294967295 : Int64)), (.long q1)])) ?_ (fun t k => X0.ldc2Long hx hown (mvT hZ (hw _ (List.mem_of_getElem? (i := 9) rfl))) (g := (mkF m 7 #[.val (.long q1), .second, .val (.long q2), .second, .val (.long (own_hi q1)), .second, .unset, .unset, .unset, .unset, .unset, .unset, .unset, .unset, .unset, .unset, .unset, .unset, .unset, .unset] [(.long q1)])) rfl (hb hby d2_7) t k)
  refine Gen.on (b := s₁.setTop (mkF m 11 #[.val (.long q1), .second, .val (.long q2), .second, .val (.long (own_hi q1)), .second, .unset, .unset, .unset, .unset, .unset, .unset, .unset, .unset, .unset, .unset, .unset, .unset, .unset, .unset] [(.long (q1 &&& (4294967295 : Int64)))])) ?_ (fun t k => XS.land X0.here hx rfl (hb hby d2_10) rfl k)
  refine Gen.on (b := s₁.setTop (mkF m 13 #[.val (.long q1), .second, .val (.long q2), .second, .val (.long (own_hi q1)), .second, .val (.long (q1 &&& (4294967295 : Int64))), .second, .unset, .unset, .unset, .unset, .unset, .unset, .unset, .unset, .unset, .unset, .unset, .unset] [])) ?_ (fun t k => XS.lstore X0.here hx rfl (hb hby d2_11) rfl (l' := #[.val (.long q1), .second, .val (.long q2), .second, .val (.long (own_hi q1)), .second, .val (.long (q1 &&& (4294967295 : Int64))), .second, .unset, .unset, .unset, .unset, .unset, .unset, .unset, .unset, .unset, .unset, .unset, .unset]) rfl k)
  refine Gen.on (b := s₁.setTop (mkF m 14 #[.val (.long q1), .second, .val (.long q2), .second, .val (.long (own_hi q1)), .second, .val (.long (own_lo q1)), .second, .unset, .unset, .unset, .unset, .unset, .unset, .unset, .unset, .unset, .unset, .unset, .unset] [(.long q2)])) ?_ (fun t k => XS.lloadN X0.here hx rfl (hb hby d2_13) rfl k)
  refine Gen.on (b := s₁.setTop (mkF m 16 #[.val (.long q1), .second, .val (.long q2), .second, .val (.long (own_hi q1)), .second, .val (.long (own_lo q1)), .second, .unset, .unset, .unset, .unset, .unset, .unset, .unset, .unset, .unset, .unset, .unset, .unset] [(.int (32 : Int32)), (.long q2)])) ?_ (fun t k => XS.bipush X0.here hx rfl (hb hby d2_14) k)
  refine Gen.on (b := s₁.setTop (mkF m 17 #[.val (.long q1), .second, .val (.long q2), .second, .val (.long (own_hi q1)), .second, .val (.long (own_lo q1)), .second, .unset, .unset, .unset, .unset, .unset, .unset, .unset, .unset, .unset, .unset, .unset, .unset] [(.long (q2 >>> ((32 : Int32) &&& 0x3f).toInt64))])) ?_ (fun t k => XS.lshr X0.here hx rfl (hb hby d2_16) rfl k)
  refine Gen.on (b := s₁.setTop (mkF m 19 #[.val (.long q1), .second, .val (.long q2), .second, .val (.long (own_hi q1)), .second, .val (.long (own_lo q1)), .second, .val (.long (q2 >>> ((32 : Int32) &&& 0x3f).toInt64)), .second, .unset, .unset, .unset, .unset, .unset, .unset, .unset, .unset, .unset, .unset] [])) ?_ (fun t k => XS.lstore X0.here hx rfl (hb hby d2_17) rfl (l' := #[.val (.long q1), .second, .val (.long q2), .second, .val (.long (own_hi q1)), .second, .val (.long (own_lo q1)), .second, .val (.long (q2 >>> ((32 : Int32) &&& 0x3f).toInt64)), .second, .unset, .unset, .unset, .unset, .unset, .unset, .unset, .unset, .unset, .unset]) rfl k)
  refine Gen.on (b := s₁.setTop (mkF m 20 #[.val (.long q1), .second, .val (.long q2), .second, .val (.long (own_hi q1)), .second, .val (.long (own_lo q1)), .second, .val (.long (own_hi q2)), .second, .unset, .unset, .unset, .unset, .unset, .unset, .unset, .unset, .unset, .unset] [(.long q2)])) ?_ (fun t k => XS.lloadN X0.here hx rfl (hb hby d2_19) rfl k)
  refine Gen.on (b := s₁.setTop (mkF m 23 #[.val (.long q1), .second, .val (.long q2), .second, .val (.long (own_hi q1)), .second, .val (.long (own_lo q1)), .second, .val (.long (own_hi q2)), .second, .unset, .unset, .unset, .unset, .unset, .unset, .unset, .unset, .unset, .unset] [(.long (4294967295 : Int64)), (.long q2)])) ?_ (fun t k => X0.ldc2Long hx hown (mvT hZ (hw _ (List.mem_of_getElem? (i := 9) rfl))) (g := (mkF m 20 #[.val (.long q1), .second, .val (.long q2), .second, .val (.long (own_hi q1)), .second, .val (.long (own_lo q1)), .second, .val (.long (own_hi q2)), .second, .unset, .unset, .unset, .unset, .unset, .unset, .unset, .unset, .unset, .unset] [(.long q2)])) rfl (hb hby d2_20) t k)
  refine Gen.on (b := s₁.setTop (mkF m 24 #[.val (.long q1), .second, .val (.long q2), .second, .val (.long (own_hi q1)), .second, .val (.long (own_lo q1)), .second, .val (.long (own_hi q2)), .second, .unset, .unset, .unset, .unset, .unset, .unset, .unset, .unset, .unset, .unset] [(.long (q2 &&& (4294967295 : Int64)))])) ?_ (fun t k => XS.land X0.here hx rfl (hb hby d2_23) rfl k)
  refine Gen.on (b := s₁.setTop (mkF m 26 #[.val (.long q1), .second, .val (.long q2), .second, .val (.long (own_hi q1)), .second, .val (.long (own_lo q1)), .second, .val (.long (own_hi q2)), .second, .val (.long (q2 &&& (4294967295 : Int64))), .second, .unset, .unset, .unset, .unset, .unset, .unset, .unset, .unset] [])) ?_ (fun t k => XS.lstore X0.here hx rfl (hb hby d2_24) rfl (l' := #[.val (.long q1), .second, .val (.long q2), .second, .val (.long (own_hi q1)), .second, .val (.long (own_lo q1)), .second, .val (.long (own_hi q2)), .second, .val (.long (q2 &&& (4294967295 : Int64))), .second, .unset, .unset, .unset, .unset, .unset, .unset, .unset, .unset]) rfl k)
  refine Gen.on (b := s₁.setTop (mkF m 28 #[.val (.long q1), .second, .val (.long q2), .second, .val (.long (own_hi q1)), .second, .val (.long (own_lo q1)), .second, .val (.long (own_hi q2)), .second, .val (.long (own_lo q2)), .second, .unset, .unset, .unset, .unset, .unset, .unset, .unset, .unset] [(.long (own_lo q1))])) ?_ (fun t k => XS.lload X0.here hx rfl (hb hby d2_26) rfl k)
  refine Gen.on (b := s₁.setTop (mkF m 30 #[.val (.long q1), .second, .val (.long q2), .second, .val (.long (own_hi q1)), .second, .val (.long (own_lo q1)), .second, .val (.long (own_hi q2)), .second, .val (.long (own_lo q2)), .second, .unset, .unset, .unset, .unset, .unset, .unset, .unset, .unset] [(.long (own_lo q2)), (.long (own_lo q1))])) ?_ (fun t k => XS.lload X0.here hx rfl (hb hby d2_28) rfl k)
  refine Gen.on (b := s₁.setTop (mkF m 31 #[.val (.long q1), .second, .val (.long q2), .second, .val (.long (own_hi q1)), .second, .val (.long (own_lo q1)), .second, .val (.long (own_hi q2)), .second, .val (.long (own_lo q2)), .second, .unset, .unset, .unset, .unset, .unset, .unset, .unset, .unset] [(.long ((own_lo q1) * (own_lo q2)))])) ?_ (fun t k => XS.lmul X0.here hx rfl (hb hby d2_30) rfl k)
  refine Gen.on (b := s₁.setTop (mkF m 33 #[.val (.long q1), .second, .val (.long q2), .second, .val (.long (own_hi q1)), .second, .val (.long (own_lo q1)), .second, .val (.long (own_hi q2)), .second, .val (.long (own_lo q2)), .second, .val (.long ((own_lo q1) * (own_lo q2))), .second, .unset, .unset, .unset, .unset, .unset, .unset] [])) ?_ (fun t k => XS.lstore X0.here hx rfl (hb hby d2_31) rfl (l' := #[.val (.long q1), .second, .val (.long q2), .second, .val (.long (own_hi q1)), .second, .val (.long (own_lo q1)), .second, .val (.long (own_hi q2)), .second, .val (.long (own_lo q2)), .second, .val (.long ((own_lo q1) * (own_lo q2))), .second, .unset, .unset, .unset, .unset, .unset, .unset]) rfl k)
  refine Gen.on (b := s₁.setTop (mkF m 35 #[.val (.long q1), .second, .val (.long q2), .second, .val (.long (own_hi q1)), .second, .val (.long (own_lo q1)), .second, .val (.long (own_hi q2)), .second, .val (.long (own_lo q2)), .second, .val (.long ((own_lo q1) * (own_lo q2))), .second, .unset, .unset, .unset, .unset, .unset, .unset] [(.long (own_hi q1))])) ?_ (fun t k => XS.lload X0.here hx rfl (hb hby d2_33) rfl k)
  refine Gen.on (b := s₁.setTop (mkF m 37 #[.val (.long q1), .second, .val (.long q2), .second, .val (.long (own_hi q1)), .second, .val (.long (own_lo q1)), .second, .val (.long (own_hi q2)), .second, .val (.long (own_lo q2)), .second, .val (.long ((own_lo q1) * (own_lo q2))), .second, .unset, .unset, .unset, .unset, .unset, .unset] [(.long (own_lo q2)), (.long (own_hi q1))])) ?_ (fun t k => XS.lload X0.here hx rfl (hb hby d2_35) rfl k)
  refine Gen.on (b := s₁.setTop (mkF m 38 #[.val (.long q1), .second, .val (.long q2), .second, .val (.long (own_hi q1)), .second, .val (.long (own_lo q1)), .second, .val (.long (own_hi q2)), .second, .val (.long (own_lo q2)), .second, .val (.long ((own_lo q1) * (own_lo q2))), .second, .unset, .unset, .unset, .unset, .unset, .unset] [(.long ((own_hi q1) * (own_lo q2)))])) ?_ (fun t k => XS.lmul X0.here hx rfl (hb hby d2_37) rfl k)
  refine Gen.on (b := s₁.setTop (mkF m 40 #[.val (.long q1), .second, .val (.long q2), .second, .val (.long (own_hi q1)), .second, .val (.long (own_lo q1)), .second, .val (.long (own_hi q2)), .second, .val (.long (own_lo q2)), .second, .val (.long ((own_lo q1) * (own_lo q2))), .second, .unset, .unset, .unset, .unset, .unset, .unset] [(.long ((own_lo q1) * (own_lo q2))), (.long ((own_hi q1) * (own_lo q2)))])) ?_ (fun t k => XS.lload X0.here hx rfl (hb hby d2_38) rfl k)
  refine Gen.on (b := s₁.setTop (mkF m 42 #[.val (.long q1), .second, .val (.long q2), .second, .val (.long (own_hi q1)), .second, .val (.long (own_lo q1)), .second, .val (.long (own_hi q2)), .second, .val (.long (own_lo q2)), .second, .val (.long ((own_lo q1) * (own_lo q2))), .second, .unset, .unset, .unset, .unset, .unset, .unset] [(.int (32 : Int32)), (.long ((own_lo q1) * (own_lo q2))), (.long ((own_hi q1) * (own_lo q2)))])) ?_ (fun t k => XS.bipush X0.here hx rfl (hb hby d2_40) k)
  refine Gen.on (b := s₁.setTop (mkF m 43 #[.val (.long q1), .second, .val (.long q2), .second, .val (.long (own_hi q1)), .second, .val (.long (own_lo q1)), .second, .val (.long (own_hi q2)), .second, .val (.long (own_lo q2)), .second, .val (.long ((own_lo q1) * (own_lo q2))), .second, .unset, .unset, .unset, .unset, .unset, .unset] [(.long ((((own_lo q1) * (own_lo q2)).toUInt64 >>> ((32 : Int32) &&& 0x3f).toInt64.toUInt64).toInt64)), (.long ((own_hi q1) * (own_lo q2)))])) ?_ (fun t k => XS.lushr X0.here hx rfl (hb hby d2_42) rfl k)
  refine Gen.on (b := s₁.setTop (mkF m 44 #[.val (.long q1), .second, .val (.long q2), .second, .val (.long (own_hi q1)), .second, .val (.long (own_lo q1)), .second, .val (.long (own_hi q2)), .second, .val (.long (own_lo q2)), .second, .val (.long ((own_lo q1) * (own_lo q2))), .second, .unset, .unset, .unset, .unset, .unset, .unset] [(.long (((own_hi q1) * (own_lo q2)) + ((((own_lo q1) * (own_lo q2)).toUInt64 >>> ((32 : Int32) &&& 0x3f).toInt64.toUInt64).toInt64)))])) ?_ (fun t k => XS.ladd X0.here hx rfl (hb hby d2_43) rfl k)
  refine Gen.on (b := s₁.setTop (mkF m 46 #[.val (.long q1), .second, .val (.long q2), .second, .val (.long (own_hi q1)), .second, .val (.long (own_lo q1)), .second, .val (.long (own_hi q2)), .second, .val (.long (own_lo q2)), .second, .val (.long ((own_lo q1) * (own_lo q2))), .second, .val (.long (((own_hi q1) * (own_lo q2)) + ((((own_lo q1) * (own_lo q2)).toUInt64 >>> ((32 : Int32) &&& 0x3f).toInt64.toUInt64).toInt64))), .second, .unset, .unset, .unset, .unset] [])) ?_ (fun t k => XS.lstore X0.here hx rfl (hb hby d2_44) rfl (l' := #[.val (.long q1), .second, .val (.long q2), .second, .val (.long (own_hi q1)), .second, .val (.long (own_lo q1)), .second, .val (.long (own_hi q2)), .second, .val (.long (own_lo q2)), .second, .val (.long ((own_lo q1) * (own_lo q2))), .second, .val (.long (((own_hi q1) * (own_lo q2)) + ((((own_lo q1) * (own_lo q2)).toUInt64 >>> ((32 : Int32) &&& 0x3f).toInt64.toUInt64).toInt64))), .second, .unset, .unset, .unset, .unset]) rfl k)
  refine Gen.on (b := s₁.setTop (mkF m 48 #[.val (.long q1), .second, .val (.long q2), .second, .val (.long (own_hi q1)), .second, .val (.long (own_lo q1)), .second, .val (.long (own_hi q2)), .second, .val (.long (own_lo q2)), .second, .val (.long ((own_lo q1) * (own_lo q2))), .second, .val (.long (own_t q1 q2)), .second, .unset, .unset, .unset, .unset] [(.long (own_t q1 q2))])) ?_ (fun t k => XS.lload X0.here hx rfl (hb hby d2_46) rfl k)
  refine Gen.on (b := s₁.setTop (mkF m 51 #[.val (.long q1), .second, .val (.long q2), .second, .val (.long (own_hi q1)), .second, .val (.long (own_lo q1)), .second, .val (.long (own_hi q2)), .second, .val (.long (own_lo q2)), .second, .val (.long ((own_lo q1) * (own_lo q2))), .second, .val (.long (own_t q1 q2)), .second, .unset, .unset, .unset, .unset] [(.long (4294967295 : Int64)), (.long (own_t q1 q2))])) ?_ (fun t k => X0.ldc2Long hx hown (mvT hZ (hw _ (List.mem_of_getElem? (i := 9) rfl))) (g := (mkF m 48 #[.val (.long q1), .second, .val (.long q2), .second, .val (.long (own_hi q1)), .second, .val (.long (own_lo q1)), .second, .val (.long (own_hi q2)), .second, .val (.long (own_lo q2)), .second, .val (.long ((own_lo q1) * (own_lo q2))), .second, .val (.long (own_t q1 q2)), .second, .unset, .unset, .unset, .unset] [(.long (own_t q1 q2))])) rfl (hb hby d2_48) t k)
  refine Gen.on (b := s₁.setTop (mkF m 52 #[.val (.long q1), .second, .val (.long q2), .second, .val (.long (own_hi q1)), .second, .val (.long (own_lo q1)), .second, .val (.long (own_hi q2)), .second, .val (.long (own_lo q2)), .second, .val (.long ((own_lo q1) * (own_lo q2))), .second, .val (.long (own_t q1 q2)), .second, .unset, .unset, .unset, .unset] [(.long ((own_t q1 q2) &&& (4294967295 : Int64)))])) ?_ (fun t k => XS.land X0.here hx rfl (hb hby d2_51) rfl k)
  refine Gen.on (b := s₁.setTop (mkF m 54 #[.val (.long q1), .second, .val (.long q2), .second, .val (.long (own_hi q1)), .second, .val (.long (own_lo q1)), .second, .val (.long (own_hi q2)), .second, .val (.long (own_lo q2)), .second, .val (.long ((own_lo q1) * (own_lo q2))), .second, .val (.long (own_t q1 q2)), .second, .val (.long ((own_t q1 q2) &&& (4294967295 : Int64))), .second, .unset, .unset] [])) ?_ (fun t k => XS.lstore X0.here hx rfl (hb hby d2_52) rfl (l' := #[.val (.long q1), .second, .val (.long q2), .second, .val (.long (own_hi q1)), .second, .val (.long (own_lo q1)), .second, .val (.long (own_hi q2)), .second, .val (.long (own_lo q2)), .second, .val (.long ((own_lo q1) * (own_lo q2))), .second, .val (.long (own_t q1 q2)), .second, .val (.long ((own_t q1 q2) &&& (4294967295 : Int64))), .second, .unset, .unset]) rfl k)
  refine Gen.on (b := s₁.setTop (mkF m 56 #[.val (.long q1), .second, .val (.long q2), .second, .val (.long (own_hi q1)), .second, .val (.long (own_lo q1)), .second, .val (.long (own_hi q2)), .second, .val (.long (own_lo q2)), .second, .val (.long ((own_lo q1) * (own_lo q2))), .second, .val (.long (own_t q1 q2)), .second, .val (.long (own_lo (own_t q1 q2))), .second, .unset, .unset] [(.long (own_t q1 q2))])) ?_ (fun t k => XS.lload X0.here hx rfl (hb hby d2_54) rfl k)
  refine Gen.on (b := s₁.setTop (mkF m 58 #[.val (.long q1), .second, .val (.long q2), .second, .val (.long (own_hi q1)), .second, .val (.long (own_lo q1)), .second, .val (.long (own_hi q2)), .second, .val (.long (own_lo q2)), .second, .val (.long ((own_lo q1) * (own_lo q2))), .second, .val (.long (own_t q1 q2)), .second, .val (.long (own_lo (own_t q1 q2))), .second, .unset, .unset] [(.int (32 : Int32)), (.long (own_t q1 q2))])) ?_ (fun t k => XS.bipush X0.here hx rfl (hb hby d2_56) k)
  refine Gen.on (b := s₁.setTop (mkF m 59 #[.val (.long q1), .second, .val (.long q2), .second, .val (.long (own_hi q1)), .second, .val (.long (own_lo q1)), .second, .val (.long (own_hi q2)), .second, .val (.long (own_lo q2)), .second, .val (.long ((own_lo q1) * (own_lo q2))), .second, .val (.long (own_t q1 q2)), .second, .val (.long (own_lo (own_t q1 q2))), .second, .unset, .unset] [(.long ((own_t q1 q2) >>> ((32 : Int32) &&& 0x3f).toInt64))])) ?_ (fun t k => XS.lshr X0.here hx rfl (hb hby d2_58) rfl k)
  refine Gen.on (b := s₁.setTop (mkF m 61 #[.val (.long q1), .second, .val (.long q2), .second, .val (.long (own_hi q1)), .second, .val (.long (own_lo q1)), .second, .val (.long (own_hi q2)), .second, .val (.long (own_lo q2)), .second, .val (.long ((own_lo q1) * (own_lo q2))), .second, .val (.long (own_t q1 q2)), .second, .val (.long (own_lo (own_t q1 q2))), .second, .val (.long ((own_t q1 q2) >>> ((32 : Int32) &&& 0x3f).toInt64)), .second] [])) ?_ (fun t k => XS.lstore X0.here hx rfl (hb hby d2_59) rfl (l' := #[.val (.long q1), .second, .val (.long q2), .second, .val (.long (own_hi q1)), .second, .val (.long (own_lo q1)), .second, .val (.long (own_hi q2)), .second, .val (.long (own_lo q2)), .second, .val (.long ((own_lo q1) * (own_lo q2))), .second, .val (.long (own_t q1 q2)), .second, .val (.long (own_lo (own_t q1 q2))), .second, .val (.long ((own_t q1 q2) >>> ((32 : Int32) &&& 0x3f).toInt64)), .second]) rfl k)
  refine Gen.on (b := s₁.setTop (mkF m 63 #[.val (.long q1), .second, .val (.long q2), .second, .val (.long (own_hi q1)), .second, .val (.long (own_lo q1)), .second, .val (.long (own_hi q2)), .second, .val (.long (own_lo q2)), .second, .val (.long ((own_lo q1) * (own_lo q2))), .second, .val (.long (own_t q1 q2)), .second, .val (.long (own_lo (own_t q1 q2))), .second, .val (.long (own_hi (own_t q1 q2))), .second] [(.long (own_lo (own_t q1 q2)))])) ?_ (fun t k => XS.lload X0.here hx rfl (hb hby d2_61) rfl k)
  refine Gen.on (b := s₁.setTop (mkF m 65 #[.val (.long q1), .second, .val (.long q2), .second, .val (.long (own_hi q1)), .second, .val (.long (own_lo q1)), .second, .val (.long (own_hi q2)), .second, .val (.long (own_lo q2)), .second, .val (.long ((own_lo q1) * (own_lo q2))), .second, .val (.long (own_t q1 q2)), .second, .val (.long (own_lo (own_t q1 q2))), .second, .val (.long (own_hi (own_t q1 q2))), .second] [(.long (own_lo q1)), (.long (own_lo (own_t q1 q2)))])) ?_ (fun t k => XS.lload X0.here hx rfl (hb hby d2_63) rfl k)
  refine Gen.on (b := s₁.setTop (mkF m 67 #[.val (.long q1), .second, .val (.long q2), .second, .val (.long (own_hi q1)), .second, .val (.long (own_lo q1)), .second, .val (.long (own_hi q2)), .second, .val (.long (own_lo q2)), .second, .val (.long ((own_lo q1) * (own_lo q2))), .second, .val (.long (own_t q1 q2)), .second, .val (.long (own_lo (own_t q1 q2))), .second, .val (.long (own_hi (own_t q1 q2))), .second] [(.long (own_hi q2)), (.long (own_lo q1)), (.long (own_lo (own_t q1 q2)))])) ?_ (fun t k => XS.lload X0.here hx rfl (hb hby d2_65) rfl k)
  refine Gen.on (b := s₁.setTop (mkF m 68 #[.val (.long q1), .second, .val (.long q2), .second, .val (.long (own_hi q1)), .second, .val (.long (own_lo q1)), .second, .val (.long (own_hi q2)), .second, .val (.long (own_lo q2)), .second, .val (.long ((own_lo q1) * (own_lo q2))), .second, .val (.long (own_t q1 q2)), .second, .val (.long (own_lo (own_t q1 q2))), .second, .val (.long (own_hi (own_t q1 q2))), .second] [(.long ((own_lo q1) * (own_hi q2))), (.long (own_lo (own_t q1 q2)))])) ?_ (fun t k => XS.lmul X0.here hx rfl (hb hby d2_67) rfl k)
  refine Gen.on (b := s₁.setTop (mkF m 69 #[.val (.long q1), .second, .val (.long q2), .second, .val (.long (own_hi q1)), .second, .val (.long (own_lo q1)), .second, .val (.long (own_hi q2)), .second, .val (.long (own_lo q2)), .second, .val (.long ((own_lo q1) * (own_lo q2))), .second, .val (.long (own_t q1 q2)), .second, .val (.long (own_lo (own_t q1 q2))), .second, .val (.long (own_hi (own_t q1 q2))), .second] [(.long ((own_lo (own_t q1 q2)) + ((own_lo q1) * (own_hi q2))))])) ?_ (fun t k => XS.ladd X0.here hx rfl (hb hby d2_68) rfl k)
  refine Gen.on (b := s₁.setTop (mkF m 71 #[.val (.long q1), .second, .val (.long q2), .second, .val (.long (own_hi q1)), .second, .val (.long (own_lo q1)), .second, .val (.long (own_hi q2)), .second, .val (.long (own_lo q2)), .second, .val (.long ((own_lo q1) * (own_lo q2))), .second, .val (.long (own_t q1 q2)), .second, .val (.long ((own_lo (own_t q1 q2)) + ((own_lo q1) * (own_hi q2)))), .second, .val (.long (own_hi (own_t q1 q2))), .second] [])) ?_ (fun t k => XS.lstore X0.here hx rfl (hb hby d2_69) rfl (l' := #[.val (.long q1), .second, .val (.long q2), .second, .val (.long (own_hi q1)), .second, .val (.long (own_lo q1)), .second, .val (.long (own_hi q2)), .second, .val (.long (own_lo q2)), .second, .val (.long ((own_lo q1) * (own_lo q2))), .second, .val (.long (own_t q1 q2)), .second, .val (.long ((own_lo (own_t q1 q2)) + ((own_lo q1) * (own_hi q2)))), .second, .val (.long (own_hi (own_t q1 q2))), .second]) rfl k)
  refine Gen.on (b := s₁.setTop (mkF m 73 #[.val (.long q1), .second, .val (.long q2), .second, .val (.long (own_hi q1)), .second, .val (.long (own_lo q1)), .second, .val (.long (own_hi q2)), .second, .val (.long (own_lo q2)), .second, .val (.long ((own_lo q1) * (own_lo q2))), .second, .val (.long (own_t q1 q2)), .second, .val (.long (own_u q1 q2)), .second, .val (.long (own_hi (own_t q1 q2))), .second] [(.long (own_hi q1))])) ?_ (fun t k => XS.lload X0.here hx rfl (hb hby d2_71) rfl k)
  refine Gen.on (b := s₁.setTop (mkF m 75 #[.val (.long q1), .second, .val (.long q2), .second, .val (.long (own_hi q1)), .second, .val (.long (own_lo q1)), .second, .val (.long (own_hi q2)), .second, .val (.long (own_lo q2)), .second, .val (.long ((own_lo q1) * (own_lo q2))), .second, .val (.long (own_t q1 q2)), .second, .val (.long (own_u q1 q2)), .second, .val (.long (own_hi (own_t q1 q2))), .second] [(.long (own_hi q2)), (.long (own_hi q1))])) ?_ (fun t k => XS.lload X0.here hx rfl (hb hby d2_73) rfl k)
  refine Gen.on (b := s₁.setTop (mkF m 76 #[.val (.long q1), .second, .val (.long q2), .second, .val (.long (own_hi q1)), .second, .val (.long (own_lo q1)), .second, .val (.long (own_hi q2)), .second, .val (.long (own_lo q2)), .second, .val (.long ((own_lo q1) * (own_lo q2))), .second, .val (.long (own_t q1 q2)), .second, .val (.long (own_u q1 q2)), .second, .val (.long (own_hi (own_t q1 q2))), .second] [(.long ((own_hi q1) * (own_hi q2)))])) ?_ (fun t k => XS.lmul X0.here hx rfl (hb hby d2_75) rfl k)
  refine Gen.on (b := s₁.setTop (mkF m 78 #[.val (.long q1), .second, .val (.long q2), .second, .val (.long (own_hi q1)), .second, .val (.long (own_lo q1)), .second, .val (.long (own_hi q2)), .second, .val (.long (own_lo q2)), .second, .val (.long ((own_lo q1) * (own_lo q2))), .second, .val (.long (own_t q1 q2)), .second, .val (.long (own_u q1 q2)), .second, .val (.long (own_hi (own_t q1 q2))), .second] [(.long (own_hi (own_t q1 q2))), (.long ((own_hi q1) * (own_hi q2)))])) ?_ (fun t k => XS.lload X0.here hx rfl (hb hby d2_76) rfl k)
  refine Gen.on (b := s₁.setTop (mkF m 79 #[.val (.long q1), .second, .val (.long q2), .second, .val (.long (own_hi q1)), .second, .val (.long (own_lo q1)), .second, .val (.long (own_hi q2)), .second, .val (.long (own_lo q2)), .second, .val (.long ((own_lo q1) * (own_lo q2))), .second, .val (.long (own_t q1 q2)), .second, .val (.long (own_u q1 q2)), .second, .val (.long (own_hi (own_t q1 q2))), .second] [(.long (((own_hi q1) * (own_hi q2)) + (own_hi (own_t q1 q2))))])) ?_ (fun t k => XS.ladd X0.here hx rfl (hb hby d2_78) rfl k)
  refine Gen.on (b := s₁.setTop (mkF m 81 #[.val (.long q1), .second, .val (.long q2), .second, .val (.long (own_hi q1)), .second, .val (.long (own_lo q1)), .second, .val (.long (own_hi q2)), .second, .val (.long (own_lo q2)), .second, .val (.long ((own_lo q1) * (own_lo q2))), .second, .val (.long (own_t q1 q2)), .second, .val (.long (own_u q1 q2)), .second, .val (.long (own_hi (own_t q1 q2))), .second] [(.long (own_u q1 q2)), (.long (((own_hi q1) * (own_hi q2)) + (own_hi (own_t q1 q2))))])) ?_ (fun t k => XS.lload X0.here hx rfl (hb hby d2_79) rfl k)
  refine Gen.on (b := s₁.setTop (mkF m 83 #[.val (.long q1), .second, .val (.long q2), .second, .val (.long (own_hi q1)), .second, .val (.long (own_lo q1)), .second, .val (.long (own_hi q2)), .second, .val (.long (own_lo q2)), .second, .val (.long ((own_lo q1) * (own_lo q2))), .second, .val (.long (own_t q1 q2)), .second, .val (.long (own_u q1 q2)), .second, .val (.long (own_hi (own_t q1 q2))), .second] [(.int (32 : Int32)), (.long (own_u q1 q2)), (.long (((own_hi q1) * (own_hi q2)) + (own_hi (own_t q1 q2))))])) ?_ (fun t k => XS.bipush X0.here hx rfl (hb hby d2_81) k)
  refine Gen.on (b := s₁.setTop (mkF m 84 #[.val (.long q1), .second, .val (.long q2), .second, .val (.long (own_hi q1)), .second, .val (.long (own_lo q1)), .second, .val (.long (own_hi q2)), .second, .val (.long (own_lo q2)), .second, .val (.long ((own_lo q1) * (own_lo q2))), .second, .val (.long (own_t q1 q2)), .second, .val (.long (own_u q1 q2)), .second, .val (.long (own_hi (own_t q1 q2))), .second] [(.long ((own_u q1 q2) >>> ((32 : Int32) &&& 0x3f).toInt64)), (.long (((own_hi q1) * (own_hi q2)) + (own_hi (own_t q1 q2))))])) ?_ (fun t k => XS.lshr X0.here hx rfl (hb hby d2_83) rfl k)
  refine Gen.on (b := s₁.setTop (mkF m 85 #[.val (.long q1), .second, .val (.long q2), .second, .val (.long (own_hi q1)), .second, .val (.long (own_lo q1)), .second, .val (.long (own_hi q2)), .second, .val (.long (own_lo q2)), .second, .val (.long ((own_lo q1) * (own_lo q2))), .second, .val (.long (own_t q1 q2)), .second, .val (.long (own_u q1 q2)), .second, .val (.long (own_hi (own_t q1 q2))), .second] [(.long ((((own_hi q1) * (own_hi q2)) + (own_hi (own_t q1 q2))) + ((own_u q1 q2) >>> ((32 : Int32) &&& 0x3f).toInt64)))])) ?_ (fun t k => XS.ladd X0.here hx rfl (hb hby d2_84) rfl k)
  refine own_retJ X0 hx Bd.returns (hb hby d2_85) (by decide) (by decide) ?_
  exact hq _ _ _ (by simp only [f2]) N0 e0
theorem d1_0 : decode prog_10_method_3_code 0 = .ok (.lload_n 0, 1) := by decide +kernel
theorem d1_1 : decode prog_10_method_3_code 1 = .ok (.lload_n 2, 1) := by decide +kernel
theorem d1_2 : decode prog_10_method_3_code 2 = .ok (.invokestatic 11, 3) := by decide +kernel
theorem d1_5 : decode prog_10_method_3_code 5 = .ok (.lstore 4, 2) := by decide +kernel
theorem d1_7 : decode prog_10_method_3_code 7 = .ok (.lload_n 0, 1) := by decide +kernel
theorem d1_8 : decode prog_10_method_3_code 8 = .ok (.lload_n 2, 1) := by decide +kernel
theorem d1_9 : decode prog_10_method_3_code 9 = .ok (.lmul, 1) := by decide +kernel
theorem d1_10 : decode prog_10_method_3_code 10 = .ok (.lstore 6, 2) := by decide +kernel
theorem d1_12 : decode prog_10_method_3_code 12 = .ok (.lload 4, 2) := by decide +kernel
theorem d1_14 : decode prog_10_method_3_code 14 = .ok (.lconst 0, 1) := by decide +kernel
theorem d1_15 : decode prog_10_method_3_code 15 = .ok (.lcmp, 1) := by decide +kernel
theorem d1_16 : decode prog_10_method_3_code 16 = .ok (.ifCond .ne 10, 3) := by decide +kernel
theorem d1_19 : decode prog_10_method_3_code 19 = .ok (.lload 6, 2) := by decide +kernel
theorem d1_21 : decode prog_10_method_3_code 21 = .ok (.lconst 0, 1) := by decide +kernel
theorem d1_22 : decode prog_10_method_3_code 22 = .ok (.lcmp, 1) := by decide +kernel
theorem d1_23 : decode prog_10_method_3_code 23 = .ok (.ifCond .ge 9, 3) := by decide +kernel
theorem d1_26 : decode prog_10_method_3_code 26 = .ok (.ldc2_w 9, 3) := by decide +kernel
theorem d1_29 : decode prog_10_method_3_code 29 = .ok (.goto 5, 3) := by decide +kernel
theorem d1_32 : decode prog_10_method_3_code 32 = .ok (.lload 6, 2) := by decide +kernel
theorem d1_34 : decode prog_10_method_3_code 34 = .ok (.lreturn, 1) := by decide +kernel
theorem pn_1 : plainName "com/example/streambed/streambed/stream/Demand" = true := by first | (simp [plainName, overriddenIn]; done) | decide +kernel
theorem pd_1_0 : parseMethodDescriptor "(JJ)J" = some ⟨[.long, .long], some .long⟩ := by decide +kernel
theorem ef_1 (m : MethodId) (x0 : Int64) (x1 : Int64) : entryFrame m #[(.long x0), (.long x1)] 8 = mkF m 0 #[.val (.long x0), .second, .val (.long x1), .second, .unset, .unset, .unset, .unset] [] := by first | (simp [entryFrame, mkF, argsToLocals, Value.category]; done) | rfl
def f1 (q1 : Int64) (q2 : Int64) : Int64 := (if (f2 q1 q2) = (0 : Int64) then (if (q1 * q2) < (0 : Int64) then (9223372036854775807 : Int64) else (q1 * q2)) else (9223372036854775807 : Int64))
def Q1 (q1 : Int64) (q2 : Int64) (h0 : Heap) (n0 : Nat) (v : Option Value) (h : Heap) (L : List Loc) : Prop := v = some (.long (f1 q1 q2)) ∧ Fr n0 L ∧ h = h0
set_option maxRecDepth 65536 in
set_option maxHeartbeats 40000000 in
theorem rm1 (l : Launch) (Z : State) (a0 : Array Value) (hw : ∀ d ∈ tables_1, d.before a0 Z = true) (ws : List Jvm.Cond) (q1 : Int64) (q2 : Int64) (h0 : Heap) (n0 : Nat) (Z0 : n0 ≤ h0.size)  :
    MetFree l (⟨"com/example/streambed/streambed/stream/Demand", "product", "(JJ)J"⟩ : MethodName) (head1 (Jvm.Cond.code (⟨"com/example/streambed/streambed/stream/Demand", "product", "(JJ)J"⟩ : MethodName) prog_10_method_3_code 8 (some .long) :: ws) ({ frames := 1, cells := 0, slots := 0, locals := 31 } : Room)) (fun a U => a = #[(.long q1), (.long q2)] ∧ Z.Warmed39 U.vm ∧ U.heap = h0) (fun _ _ _ _ _ => True) (fun _ U o U' => ∃ v L, o = .returned v ∧ Q1 q1 q2 h0 n0 v U'.heap L ∧ FrameEnd U o U' L ({ frames := 1, cells := 0, slots := 0, locals := 31 } : Room).cells ({ frames := 1, cells := 0, slots := 0, locals := 31 } : Room).slots) := by
  refine MetFree.of_bodySF (plainFor_of_name pn_1) hisR ?_
  intro p e s m args below meth c s₁ Bd hml0 hP hK
  obtain ⟨rfl, hZ, hh⟩ := hP
  have hx := Bd.exec
  have hby := Bd.bytes
  have hml : c.maxLocals = 8 := hml0
  have hown : s.vm.findClass "com/example/streambed/streambed/stream/Demand" = some m.cls := findClass_of_methodNamed Bd.named
  have hnm := (name_of_methodNamed Bd.named Bd.method).1
  have X0 : Stand p l e ({ frames := 1, cells := 0, slots := 0, locals := 31 } : Room) s m #[(.long q1), (.long q2)] below meth c s₁ [] 0 0 := Stand.of_body Bd
  have e0 : s₁.heap = h0 := by rw [← hh, Bd.state]; rfl
  have N0 := Fr.nil n0
  refine own_start (Q := Q1 q1 q2 h0 n0) (C := ({ frames := 1, cells := 0, slots := 0, locals := 31 } : Room).cells) (S := ({ frames := 1, cells := 0, slots := 0, locals := 31 } : Room).slots) ?_
  rw [ef_1 m q1 q2]
  have hq : ∀ v hh L, v = some (.long (f1 q1 q2)) → Fr n0 L → hh = h0 → Q1 q1 q2 h0 n0 v hh L := fun v hh L q1 q2 q3 => ⟨q1, q2, q3⟩
  refine Gen.on (b := s₁.setTop (mkF m 1 #[.val (.long q1), .second, .val (.long q2), .second, .unset, .unset, .unset, .unset] [(.long q1)])) ?_ (fun t k => XS.lloadN X0.here hx rfl (hb hby d1_0) rfl k)
  refine Gen.on (b := s₁.setTop (mkF m 2 #[.val (.long q1), .second, .val (.long q2), .second, .unset, .unset, .unset, .unset] [(.long q2), (.long q1)])) ?_ (fun t k => XS.lloadN X0.here hx rfl (hb hby d1_1) rfl k)
  obtain ⟨_, _, ⟨T1, L1, k1, n1⟩, -, X1, ⟨Lc1, hQ1, l1, y1, z1⟩, st1⟩ := Jvm.LawKit.callS X0 hx (y := (⟨"java/lang/Math", "multiplyHigh", "(JJ)J"⟩ : MethodName)) hown (mvT hZ (hw _ (List.mem_of_getElem? (i := 5) rfl))) (mvT hZ (hw _ (List.mem_of_getElem? (i := 6) rfl))) (mvT hZ (hw _ (List.mem_of_getElem? (i := 7) rfl))) (mvT hZ (hw _ (List.mem_of_getElem? (i := 8) rfl))) (by decide) (backOf (W := 0) (rm2 l Z a0 hw [] q1 q2  h0 n0 Z0 ) hZ (hw _ (List.mem_of_getElem? (i := 8) rfl)) (hw _ (List.mem_of_getElem? (i := 7) rfl)) (by decide) (by decide)) (g := (mkF m 2 #[.val (.long q1), .second, .val (.long q2), .second, .unset, .unset, .unset, .unset] [(.long q2), (.long q1)])) rfl (by rw [hml]; rfl) (argsL := [(.long q1), (.long q2)]) (rest := []) (lenOf pd_1_0 rfl) rfl (by show 2 * 0 + _ ≤ _; exact Nat.le_of_eq rfl) (hb hby d1_2) (fun _ _ => ⟨rfl, e0, (by decide : 0 + 0 ≤ _), (by decide : 0 + 0 ≤ _)⟩)
  dsimp only [Pt.U, Pt.locs, Pt.cells, Pt.slots] at X1 l1 y1 z1 st1 hQ1
  subst l1 y1 z1
  obtain ⟨rfl, N1q, e1⟩ := hQ1
  have N1 := Fr.app N0 N1q
  refine Gen.on (b := T1.setTop (mkF m 5 #[.val (.long q1), .second, .val (.long q2), .second, .unset, .unset, .unset, .unset] [(.long (f2 q1 q2))])) ?_ (fun t k => st1 t k)
  refine Gen.on (b := T1.setTop (mkF m 7 #[.val (.long q1), .second, .val (.long q2), .second, .val (.long (f2 q1 q2)), .second, .unset, .unset] [])) ?_ (fun t k => XS.lstore X1.here hx rfl (hb hby d1_5) rfl (l' := #[.val (.long q1), .second, .val (.long q2), .second, .val (.long (f2 q1 q2)), .second, .unset, .unset]) rfl k)
  refine Gen.on (b := T1.setTop (mkF m 8 #[.val (.long q1), .second, .val (.long q2), .second, .val (.long (f2 q1 q2)), .second, .unset, .unset] [(.long q1)])) ?_ (fun t k => XS.lloadN X1.here hx rfl (hb hby d1_7) rfl k)
  refine Gen.on (b := T1.setTop (mkF m 9 #[.val (.long q1), .second, .val (.long q2), .second, .val (.long (f2 q1 q2)), .second, .unset, .unset] [(.long q2), (.long q1)])) ?_ (fun t k => XS.lloadN X1.here hx rfl (hb hby d1_8) rfl k)
  refine Gen.on (b := T1.setTop (mkF m 10 #[.val (.long q1), .second, .val (.long q2), .second, .val (.long (f2 q1 q2)), .second, .unset, .unset] [(.long (q1 * q2))])) ?_ (fun t k => XS.lmul X1.here hx rfl (hb hby d1_9) rfl k)
  refine Gen.on (b := T1.setTop (mkF m 12 #[.val (.long q1), .second, .val (.long q2), .second, .val (.long (f2 q1 q2)), .second, .val (.long (q1 * q2)), .second] [])) ?_ (fun t k => XS.lstore X1.here hx rfl (hb hby d1_10) rfl (l' := #[.val (.long q1), .second, .val (.long q2), .second, .val (.long (f2 q1 q2)), .second, .val (.long (q1 * q2)), .second]) rfl k)
  refine Gen.on (b := T1.setTop (mkF m 14 #[.val (.long q1), .second, .val (.long q2), .second, .val (.long (f2 q1 q2)), .second, .val (.long (q1 * q2)), .second] [(.long (f2 q1 q2))])) ?_ (fun t k => XS.lload X1.here hx rfl (hb hby d1_12) rfl k)
  refine Gen.on (b := T1.setTop (mkF m 15 #[.val (.long q1), .second, .val (.long q2), .second, .val (.long (f2 q1 q2)), .second, .val (.long (q1 * q2)), .second] [(.long (0 : Int64)), (.long (f2 q1 q2))])) ?_ (fun t k => XS.lconst X1.here hx rfl (hb hby d1_14) k)
  refine Gen.on (b := T1.setTop (mkF m 16 #[.val (.long q1), .second, .val (.long q2), .second, .val (.long (f2 q1 q2)), .second, .val (.long (q1 * q2)), .second] [(.int (lcmpW (f2 q1 q2) (0 : Int64)))])) ?_ (fun t k => XS.lcmp X1.here hx rfl (hb hby d1_15) rfl k)
  by_cases c16_1 : (f2 q1 q2) = (0 : Int64)
  · refine Gen.on (b := T1.setTop (mkF m 19 #[.val (.long q1), .second, .val (.long q2), .second, .val (.long (f2 q1 q2)), .second, .val (.long (q1 * q2)), .second] [])) ?_ (fun t k => XS.ifNo X1.here hx rfl (hb hby d1_16) rfl (own_eq1 c16_1).2 k)
    refine Gen.on (b := T1.setTop (mkF m 21 #[.val (.long q1), .second, .val (.long q2), .second, .val (.long (f2 q1 q2)), .second, .val (.long (q1 * q2)), .second] [(.long (q1 * q2))])) ?_ (fun t k => XS.lload X1.here hx rfl (hb hby d1_19) rfl k)
    refine Gen.on (b := T1.setTop (mkF m 22 #[.val (.long q1), .second, .val (.long q2), .second, .val (.long (f2 q1 q2)), .second, .val (.long (q1 * q2)), .second] [(.long (0 : Int64)), (.long (q1 * q2))])) ?_ (fun t k => XS.lconst X1.here hx rfl (hb hby d1_21) k)
    refine Gen.on (b := T1.setTop (mkF m 23 #[.val (.long q1), .second, .val (.long q2), .second, .val (.long (f2 q1 q2)), .second, .val (.long (q1 * q2)), .second] [(.int (lcmpW (q1 * q2) (0 : Int64)))])) ?_ (fun t k => XS.lcmp X1.here hx rfl (hb hby d1_22) rfl k)
    by_cases c23_2 : (q1 * q2) < (0 : Int64)
    · refine Gen.on (b := T1.setTop (mkF m 26 #[.val (.long q1), .second, .val (.long q2), .second, .val (.long (f2 q1 q2)), .second, .val (.long (q1 * q2)), .second] [])) ?_ (fun t k => XS.ifNo X1.here hx rfl (hb hby d1_23) rfl (own_lt1 c23_2).2 k)
      refine Gen.on (b := T1.setTop (mkF m 29 #[.val (.long q1), .second, .val (.long q2), .second, .val (.long (f2 q1 q2)), .second, .val (.long (q1 * q2)), .second] [(.long (9223372036854775807 : Int64))])) ?_ (fun t k => X1.ldc2Long hx hown (mvT hZ (hw _ (List.mem_of_getElem? (i := 19) rfl))) (g := (mkF m 26 #[.val (.long q1), .second, .val (.long q2), .second, .val (.long (f2 q1 q2)), .second, .val (.long (q1 * q2)), .second] [])) rfl (hb hby d1_26) t k)
      refine Gen.on (b := T1.setTop (mkF m 34 #[.val (.long q1), .second, .val (.long q2), .second, .val (.long (f2 q1 q2)), .second, .val (.long (q1 * q2)), .second] [(.long (9223372036854775807 : Int64))])) ?_ (fun t k => XS.goto X1.here hx rfl (pc0 := 29) (pc' := 34) rfl (hb hby d1_29) (by decide) (by decide) k)
      refine own_retJ X1 hx Bd.returns (hb hby d1_34) (by decide) (by decide) ?_
      exact hq _ _ _ (by simp only [f1, if_pos c16_1, if_pos c23_2]) N1 e1
    · refine Gen.on (b := T1.setTop (mkF m 32 #[.val (.long q1), .second, .val (.long q2), .second, .val (.long (f2 q1 q2)), .second, .val (.long (q1 * q2)), .second] [])) ?_ (fun t k => XS.ifYes X1.here hx rfl (pc0 := 23) (pc' := 32) rfl (hb hby d1_23) rfl (own_lt0 c23_2).2 (by decide) (by decide) k)
      refine Gen.on (b := T1.setTop (mkF m 34 #[.val (.long q1), .second, .val (.long q2), .second, .val (.long (f2 q1 q2)), .second, .val (.long (q1 * q2)), .second] [(.long (q1 * q2))])) ?_ (fun t k => XS.lload X1.here hx rfl (hb hby d1_32) rfl k)
      refine own_retJ X1 hx Bd.returns (hb hby d1_34) (by decide) (by decide) ?_
      exact hq _ _ _ (by simp only [f1, if_pos c16_1, if_neg c23_2]) N1 e1
  · refine Gen.on (b := T1.setTop (mkF m 26 #[.val (.long q1), .second, .val (.long q2), .second, .val (.long (f2 q1 q2)), .second, .val (.long (q1 * q2)), .second] [])) ?_ (fun t k => XS.ifYes X1.here hx rfl (pc0 := 16) (pc' := 26) rfl (hb hby d1_16) rfl (own_eq0 c16_1).2 (by decide) (by decide) k)
    refine Gen.on (b := T1.setTop (mkF m 29 #[.val (.long q1), .second, .val (.long q2), .second, .val (.long (f2 q1 q2)), .second, .val (.long (q1 * q2)), .second] [(.long (9223372036854775807 : Int64))])) ?_ (fun t k => X1.ldc2Long hx hown (mvT hZ (hw _ (List.mem_of_getElem? (i := 19) rfl))) (g := (mkF m 26 #[.val (.long q1), .second, .val (.long q2), .second, .val (.long (f2 q1 q2)), .second, .val (.long (q1 * q2)), .second] [])) rfl (hb hby d1_26) t k)
    refine Gen.on (b := T1.setTop (mkF m 34 #[.val (.long q1), .second, .val (.long q2), .second, .val (.long (f2 q1 q2)), .second, .val (.long (q1 * q2)), .second] [(.long (9223372036854775807 : Int64))])) ?_ (fun t k => XS.goto X1.here hx rfl (pc0 := 29) (pc' := 34) rfl (hb hby d1_29) (by decide) (by decide) k)
    refine own_retJ X1 hx Bd.returns (hb hby d1_34) (by decide) (by decide) ?_
    exact hq _ _ _ (by simp only [f1, if_neg c16_1]) N1 e1
theorem d3_0 : decode method_2_code 0 = .ok (.lload_n 0, 1) := by decide +kernel
theorem d3_1 : decode method_2_code 1 = .ok (.lconst 0, 1) := by decide +kernel
theorem d3_2 : decode method_2_code 2 = .ok (.lcmp, 1) := by decide +kernel
theorem d3_3 : decode method_2_code 3 = .ok (.ifCond .eq 9, 3) := by decide +kernel
theorem d3_6 : decode method_2_code 6 = .ok (.lload_n 2, 1) := by decide +kernel
theorem d3_7 : decode method_2_code 7 = .ok (.lconst 0, 1) := by decide +kernel
theorem d3_8 : decode method_2_code 8 = .ok (.lcmp, 1) := by decide +kernel
theorem d3_9 : decode method_2_code 9 = .ok (.ifCond .ne 5, 3) := by decide +kernel
theorem d3_12 : decode method_2_code 12 = .ok (.lconst 0, 1) := by decide +kernel
theorem d3_13 : decode method_2_code 13 = .ok (.lreturn, 1) := by decide +kernel
theorem d3_14 : decode method_2_code 14 = .ok (.lload_n 0, 1) := by decide +kernel
theorem d3_15 : decode method_2_code 15 = .ok (.ldc2_w 9, 3) := by decide +kernel
theorem d3_18 : decode method_2_code 18 = .ok (.lload_n 2, 1) := by decide +kernel
theorem d3_19 : decode method_2_code 19 = .ok (.ldiv, 1) := by decide +kernel
theorem d3_20 : decode method_2_code 20 = .ok (.lcmp, 1) := by decide +kernel
theorem d3_21 : decode method_2_code 21 = .ok (.ifCond .le 7, 3) := by decide +kernel
theorem d3_24 : decode method_2_code 24 = .ok (.ldc2_w 9, 3) := by decide +kernel
theorem d3_27 : decode method_2_code 27 = .ok (.lreturn, 1) := by decide +kernel
theorem d3_28 : decode method_2_code 28 = .ok (.lload_n 0, 1) := by decide +kernel
theorem d3_29 : decode method_2_code 29 = .ok (.lload_n 2, 1) := by decide +kernel
theorem d3_30 : decode method_2_code 30 = .ok (.lmul, 1) := by decide +kernel
theorem d3_31 : decode method_2_code 31 = .ok (.lreturn, 1) := by decide +kernel
theorem pn_3 : plainName "com/example/streambed/streambed/stream/DemandProductPinLaw" = true := by first | (simp [plainName, overriddenIn]; done) | decide +kernel
theorem ef_3 (m : MethodId) (x0 : Int64) (x1 : Int64) : entryFrame m #[(.long x0), (.long x1)] 4 = mkF m 0 #[.val (.long x0), .second, .val (.long x1), .second] [] := by first | (simp [entryFrame, mkF, argsToLocals, Value.category]; done) | rfl
def f3 (q1 : Int64) (q2 : Int64) : Int64 := (if q1 = (0 : Int64) then (0 : Int64) else (if q2 = (0 : Int64) then (0 : Int64) else (if ((9223372036854775807 : Int64) / q2) < q1 then (9223372036854775807 : Int64) else (q1 * q2))))
def Q3 (q1 : Int64) (q2 : Int64) (h0 : Heap) (n0 : Nat) (v : Option Value) (h : Heap) (L : List Loc) : Prop := v = some (.long (f3 q1 q2)) ∧ Fr n0 L ∧ h = h0
set_option maxRecDepth 65536 in
set_option maxHeartbeats 40000000 in
theorem rm3 (l : Launch) (Z : State) (a0 : Array Value) (hw : ∀ d ∈ tables_1, d.before a0 Z = true) (ws : List Jvm.Cond) (q1 : Int64) (q2 : Int64) (h0 : Heap) (n0 : Nat) (Z0 : n0 ≤ h0.size)  :
    MetFree l (⟨"com/example/streambed/streambed/stream/DemandProductPinLaw", "ref", "(JJ)J"⟩ : MethodName) (head1 (Jvm.Cond.code (⟨"com/example/streambed/streambed/stream/DemandProductPinLaw", "ref", "(JJ)J"⟩ : MethodName) method_2_code 4 (some .long) :: ws) ({ frames := 0, cells := 0, slots := 0, locals := 0 } : Room)) (fun a U => a = #[(.long q1), (.long q2)] ∧ Z.Warmed39 U.vm ∧ U.heap = h0) (fun _ _ _ _ _ => True) (fun _ U o U' => ∃ v L, o = .returned v ∧ Q3 q1 q2 h0 n0 v U'.heap L ∧ FrameEnd U o U' L ({ frames := 0, cells := 0, slots := 0, locals := 0 } : Room).cells ({ frames := 0, cells := 0, slots := 0, locals := 0 } : Room).slots) := by
  refine MetFree.of_bodySF (plainFor_of_name pn_3) hisR ?_
  intro p e s m args below meth c s₁ Bd hml0 hP hK
  obtain ⟨rfl, hZ, hh⟩ := hP
  have hx := Bd.exec
  have hby := Bd.bytes
  have hml : c.maxLocals = 4 := hml0
  have hown : s.vm.findClass "com/example/streambed/streambed/stream/DemandProductPinLaw" = some m.cls := findClass_of_methodNamed Bd.named
  have hnm := (name_of_methodNamed Bd.named Bd.method).1
  have X0 : Stand p l e ({ frames := 0, cells := 0, slots := 0, locals := 0 } : Room) s m #[(.long q1), (.long q2)] below meth c s₁ [] 0 0 := Stand.of_body Bd
  have e0 : s₁.heap = h0 := by rw [← hh, Bd.state]; rfl
  have N0 := Fr.nil n0
  refine own_start (Q := Q3 q1 q2 h0 n0) (C := ({ frames := 0, cells := 0, slots := 0, locals := 0 } : Room).cells) (S := ({ frames := 0, cells := 0, slots := 0, locals := 0 } : Room).slots) ?_
  rw [ef_3 m q1 q2]
  have hq : ∀ v hh L, v = some (.long (f3 q1 q2)) → Fr n0 L → hh = h0 → Q3 q1 q2 h0 n0 v hh L := fun v hh L q1 q2 q3 => ⟨q1, q2, q3⟩
  refine Gen.on (b := s₁.setTop (mkF m 1 #[.val (.long q1), .second, .val (.long q2), .second] [(.long q1)])) ?_ (fun t k => XS.lloadN X0.here hx rfl (hb hby d3_0) rfl k)
  refine Gen.on (b := s₁.setTop (mkF m 2 #[.val (.long q1), .second, .val (.long q2), .second] [(.long (0 : Int64)), (.long q1)])) ?_ (fun t k => XS.lconst X0.here hx rfl (hb hby d3_1) k)
  refine Gen.on (b := s₁.setTop (mkF m 3 #[.val (.long q1), .second, .val (.long q2), .second] [(.int (lcmpW q1 (0 : Int64)))])) ?_ (fun t k => XS.lcmp X0.here hx rfl (hb hby d3_2) rfl k)
  by_cases c3_1 : q1 = (0 : Int64)
  · refine Gen.on (b := s₁.setTop (mkF m 12 #[.val (.long q1), .second, .val (.long q2), .second] [])) ?_ (fun t k => XS.ifYes X0.here hx rfl (pc0 := 3) (pc' := 12) rfl (hb hby d3_3) rfl (own_eq1 c3_1).1 (by decide) (by decide) k)
    refine Gen.on (b := s₁.setTop (mkF m 13 #[.val (.long q1), .second, .val (.long q2), .second] [(.long (0 : Int64))])) ?_ (fun t k => XS.lconst X0.here hx rfl (hb hby d3_12) k)
    refine own_retJ X0 hx Bd.returns (hb hby d3_13) (by decide) (by decide) ?_
    exact hq _ _ _ (by simp only [f3, if_pos c3_1]) N0 e0
  · refine Gen.on (b := s₁.setTop (mkF m 6 #[.val (.long q1), .second, .val (.long q2), .second] [])) ?_ (fun t k => XS.ifNo X0.here hx rfl (hb hby d3_3) rfl (own_eq0 c3_1).1 k)
    refine Gen.on (b := s₁.setTop (mkF m 7 #[.val (.long q1), .second, .val (.long q2), .second] [(.long q2)])) ?_ (fun t k => XS.lloadN X0.here hx rfl (hb hby d3_6) rfl k)
    refine Gen.on (b := s₁.setTop (mkF m 8 #[.val (.long q1), .second, .val (.long q2), .second] [(.long (0 : Int64)), (.long q2)])) ?_ (fun t k => XS.lconst X0.here hx rfl (hb hby d3_7) k)
    refine Gen.on (b := s₁.setTop (mkF m 9 #[.val (.long q1), .second, .val (.long q2), .second] [(.int (lcmpW q2 (0 : Int64)))])) ?_ (fun t k => XS.lcmp X0.here hx rfl (hb hby d3_8) rfl k)
    by_cases c9_2 : q2 = (0 : Int64)
    · refine Gen.on (b := s₁.setTop (mkF m 12 #[.val (.long q1), .second, .val (.long q2), .second] [])) ?_ (fun t k => XS.ifNo X0.here hx rfl (hb hby d3_9) rfl (own_eq1 c9_2).2 k)
      refine Gen.on (b := s₁.setTop (mkF m 13 #[.val (.long q1), .second, .val (.long q2), .second] [(.long (0 : Int64))])) ?_ (fun t k => XS.lconst X0.here hx rfl (hb hby d3_12) k)
      refine own_retJ X0 hx Bd.returns (hb hby d3_13) (by decide) (by decide) ?_
      exact hq _ _ _ (by simp only [f3, if_neg c3_1, if_pos c9_2]) N0 e0
    · refine Gen.on (b := s₁.setTop (mkF m 14 #[.val (.long q1), .second, .val (.long q2), .second] [])) ?_ (fun t k => XS.ifYes X0.here hx rfl (pc0 := 9) (pc' := 14) rfl (hb hby d3_9) rfl (own_eq0 c9_2).2 (by decide) (by decide) k)
      refine Gen.on (b := s₁.setTop (mkF m 15 #[.val (.long q1), .second, .val (.long q2), .second] [(.long q1)])) ?_ (fun t k => XS.lloadN X0.here hx rfl (hb hby d3_14) rfl k)
      refine Gen.on (b := s₁.setTop (mkF m 18 #[.val (.long q1), .second, .val (.long q2), .second] [(.long (9223372036854775807 : Int64)), (.long q1)])) ?_ (fun t k => X0.ldc2Long hx hown (mvT hZ (hw _ (List.mem_of_getElem? (i := 0) rfl))) (g := (mkF m 15 #[.val (.long q1), .second, .val (.long q2), .second] [(.long q1)])) rfl (hb hby d3_15) t k)
      refine Gen.on (b := s₁.setTop (mkF m 19 #[.val (.long q1), .second, .val (.long q2), .second] [(.long q2), (.long (9223372036854775807 : Int64)), (.long q1)])) ?_ (fun t k => XS.lloadN X0.here hx rfl (hb hby d3_18) rfl k)
      refine Gen.on (b := s₁.setTop (mkF m 20 #[.val (.long q1), .second, .val (.long q2), .second] [(.long ((9223372036854775807 : Int64) / q2)), (.long q1)])) ?_ (fun t k => XS.ldiv X0.here hx rfl (hb hby d3_19) rfl c9_2 k)
      refine Gen.on (b := s₁.setTop (mkF m 21 #[.val (.long q1), .second, .val (.long q2), .second] [(.int (lcmpW q1 ((9223372036854775807 : Int64) / q2)))])) ?_ (fun t k => XS.lcmp X0.here hx rfl (hb hby d3_20) rfl k)
      by_cases c21_3 : ((9223372036854775807 : Int64) / q2) < q1
      · refine Gen.on (b := s₁.setTop (mkF m 24 #[.val (.long q1), .second, .val (.long q2), .second] [])) ?_ (fun t k => XS.ifNo X0.here hx rfl (hb hby d3_21) rfl (own_gt1 c21_3).2 k)
        refine Gen.on (b := s₁.setTop (mkF m 27 #[.val (.long q1), .second, .val (.long q2), .second] [(.long (9223372036854775807 : Int64))])) ?_ (fun t k => X0.ldc2Long hx hown (mvT hZ (hw _ (List.mem_of_getElem? (i := 0) rfl))) (g := (mkF m 24 #[.val (.long q1), .second, .val (.long q2), .second] [])) rfl (hb hby d3_24) t k)
        refine own_retJ X0 hx Bd.returns (hb hby d3_27) (by decide) (by decide) ?_
        exact hq _ _ _ (by simp only [f3, if_neg c3_1, if_neg c9_2, if_pos c21_3]) N0 e0
      · refine Gen.on (b := s₁.setTop (mkF m 28 #[.val (.long q1), .second, .val (.long q2), .second] [])) ?_ (fun t k => XS.ifYes X0.here hx rfl (pc0 := 21) (pc' := 28) rfl (hb hby d3_21) rfl (own_gt0 c21_3).2 (by decide) (by decide) k)
        refine Gen.on (b := s₁.setTop (mkF m 29 #[.val (.long q1), .second, .val (.long q2), .second] [(.long q1)])) ?_ (fun t k => XS.lloadN X0.here hx rfl (hb hby d3_28) rfl k)
        refine Gen.on (b := s₁.setTop (mkF m 30 #[.val (.long q1), .second, .val (.long q2), .second] [(.long q2), (.long q1)])) ?_ (fun t k => XS.lloadN X0.here hx rfl (hb hby d3_29) rfl k)
        refine Gen.on (b := s₁.setTop (mkF m 31 #[.val (.long q1), .second, .val (.long q2), .second] [(.long (q1 * q2))])) ?_ (fun t k => XS.lmul X0.here hx rfl (hb hby d3_30) rfl k)
        refine own_retJ X0 hx Bd.returns (hb hby d3_31) (by decide) (by decide) ?_
        exact hq _ _ _ (by simp only [f3, if_neg c3_1, if_neg c9_2, if_neg c21_3]) N0 e0
theorem d4_0 : decode method_3_code 0 = .ok (.lload_n 2, 1) := by decide +kernel
theorem d4_1 : decode method_3_code 1 = .ok (.lconst 0, 1) := by decide +kernel
theorem d4_2 : decode method_3_code 2 = .ok (.lcmp, 1) := by decide +kernel
theorem d4_3 : decode method_3_code 3 = .ok (.ifCond .ne 9, 3) := by decide +kernel
theorem d4_6 : decode method_3_code 6 = .ok (.lload_n 0, 1) := by decide +kernel
theorem d4_7 : decode method_3_code 7 = .ok (.ldc2_w 9, 3) := by decide +kernel
theorem d4_10 : decode method_3_code 10 = .ok (.land, 1) := by decide +kernel
theorem d4_11 : decode method_3_code 11 = .ok (.lreturn, 1) := by decide +kernel
theorem d4_12 : decode method_3_code 12 = .ok (.ldc2_w 9, 3) := by decide +kernel
theorem d4_15 : decode method_3_code 15 = .ok (.lload_n 2, 1) := by decide +kernel
theorem d4_16 : decode method_3_code 16 = .ok (.ldiv, 1) := by decide +kernel
theorem d4_17 : decode method_3_code 17 = .ok (.lstore 4, 2) := by decide +kernel
theorem d4_19 : decode method_3_code 19 = .ok (.lload_n 0, 1) := by decide +kernel
theorem d4_20 : decode method_3_code 20 = .ok (.ldc2_w 11, 3) := by decide +kernel
theorem d4_23 : decode method_3_code 23 = .ok (.land, 1) := by decide +kernel
theorem d4_24 : decode method_3_code 24 = .ok (.lconst 1, 1) := by decide +kernel
theorem d4_25 : decode method_3_code 25 = .ok (.lsub, 1) := by decide +kernel
theorem d4_26 : decode method_3_code 26 = .ok (.lstore 6, 2) := by decide +kernel
theorem d4_28 : decode method_3_code 28 = .ok (.lload 4, 2) := by decide +kernel
theorem d4_30 : decode method_3_code 30 = .ok (.lload 6, 2) := by decide +kernel
theorem d4_32 : decode method_3_code 32 = .ok (.ladd, 1) := by decide +kernel
theorem d4_33 : decode method_3_code 33 = .ok (.lstore 8, 2) := by decide +kernel
theorem d4_35 : decode method_3_code 35 = .ok (.lload 8, 2) := by decide +kernel
theorem d4_37 : decode method_3_code 37 = .ok (.lconst 0, 1) := by decide +kernel
theorem d4_38 : decode method_3_code 38 = .ok (.lcmp, 1) := by decide +kernel
theorem d4_39 : decode method_3_code 39 = .ok (.ifCond .ge 8, 3) := by decide +kernel
theorem d4_42 : decode method_3_code 42 = .ok (.ldc2_w 9, 3) := by decide +kernel
theorem d4_45 : decode method_3_code 45 = .ok (.lstore 8, 2) := by decide +kernel
theorem d4_47 : decode method_3_code 47 = .ok (.lload 8, 2) := by decide +kernel
theorem d4_49 : decode method_3_code 49 = .ok (.lreturn, 1) := by decide +kernel
theorem pn_4 : plainName "com/example/streambed/streambed/stream/DemandProductPinLaw" = true := by first | (simp [plainName, overriddenIn]; done) | decide +kernel
theorem ef_4 (m : MethodId) (x0 : Int64) (x1 : Int64) : entryFrame m #[(.long x0), (.long x1)] 10 = mkF m 0 #[.val (.long x0), .second, .val (.long x1), .second, .unset, .unset, .unset, .unset, .unset, .unset] [] := by first | (simp [entryFrame, mkF, argsToLocals, Value.category]; done) | rfl
def f4 (q1 : Int64) (q2 : Int64) : Int64 := (if q2 = (0 : Int64) then (q1 &&& (9223372036854775807 : Int64)) else (if (((9223372036854775807 : Int64) / q2) + ((q1 &&& (3 : Int64)) - (1 : Int64))) < (0 : Int64) then (9223372036854775807 : Int64) else (((9223372036854775807 : Int64) / q2) + ((q1 &&& (3 : Int64)) - (1 : Int64)))))
def Q4 (q1 : Int64) (q2 : Int64) (h0 : Heap) (n0 : Nat) (v : Option Value) (h : Heap) (L : List Loc) : Prop := v = some (.long (f4 q1 q2)) ∧ Fr n0 L ∧ h = h0
set_option maxRecDepth 65536 in
set_option maxHeartbeats 40000000 in
theorem rm4 (l : Launch) (Z : State) (a0 : Array Value) (hw : ∀ d ∈ tables_1, d.before a0 Z = true) (ws : List Jvm.Cond) (q1 : Int64) (q2 : Int64) (h0 : Heap) (n0 : Nat) (Z0 : n0 ≤ h0.size)  :
    MetFree l (⟨"com/example/streambed/streambed/stream/DemandProductPinLaw", "near", "(JJ)J"⟩ : MethodName) (head1 (Jvm.Cond.code (⟨"com/example/streambed/streambed/stream/DemandProductPinLaw", "near", "(JJ)J"⟩ : MethodName) method_3_code 10 (some .long) :: ws) ({ frames := 0, cells := 0, slots := 0, locals := 0 } : Room)) (fun a U => a = #[(.long q1), (.long q2)] ∧ Z.Warmed39 U.vm ∧ U.heap = h0) (fun _ _ _ _ _ => True) (fun _ U o U' => ∃ v L, o = .returned v ∧ Q4 q1 q2 h0 n0 v U'.heap L ∧ FrameEnd U o U' L ({ frames := 0, cells := 0, slots := 0, locals := 0 } : Room).cells ({ frames := 0, cells := 0, slots := 0, locals := 0 } : Room).slots) := by
  refine MetFree.of_bodySF (plainFor_of_name pn_4) hisR ?_
  intro p e s m args below meth c s₁ Bd hml0 hP hK
  obtain ⟨rfl, hZ, hh⟩ := hP
  have hx := Bd.exec
  have hby := Bd.bytes
  have hml : c.maxLocals = 10 := hml0
  have hown : s.vm.findClass "com/example/streambed/streambed/stream/DemandProductPinLaw" = some m.cls := findClass_of_methodNamed Bd.named
  have hnm := (name_of_methodNamed Bd.named Bd.method).1
  have X0 : Stand p l e ({ frames := 0, cells := 0, slots := 0, locals := 0 } : Room) s m #[(.long q1), (.long q2)] below meth c s₁ [] 0 0 := Stand.of_body Bd
  have e0 : s₁.heap = h0 := by rw [← hh, Bd.state]; rfl
  have N0 := Fr.nil n0
  refine own_start (Q := Q4 q1 q2 h0 n0) (C := ({ frames := 0, cells := 0, slots := 0, locals := 0 } : Room).cells) (S := ({ frames := 0, cells := 0, slots := 0, locals := 0 } : Room).slots) ?_
  rw [ef_4 m q1 q2]
  have hq : ∀ v hh L, v = some (.long (f4 q1 q2)) → Fr n0 L → hh = h0 → Q4 q1 q2 h0 n0 v hh L := fun v hh L q1 q2 q3 => ⟨q1, q2, q3⟩
  refine Gen.on (b := s₁.setTop (mkF m 1 #[.val (.long q1), .second, .val (.long q2), .second, .unset, .unset, .unset, .unset, .unset, .unset] [(.long q2)])) ?_ (fun t k => XS.lloadN X0.here hx rfl (hb hby d4_0) rfl k)
  refine Gen.on (b := s₁.setTop (mkF m 2 #[.val (.long q1), .second, .val (.long q2), .second, .unset, .unset, .unset, .unset, .unset, .unset] [(.long (0 : Int64)), (.long q2)])) ?_ (fun t k => XS.lconst X0.here hx rfl (hb hby d4_1) k)
  refine Gen.on (b := s₁.setTop (mkF m 3 #[.val (.long q1), .second, .val (.long q2), .second, .unset, .unset, .unset, .unset, .unset, .unset] [(.int (lcmpW q2 (0 : Int64)))])) ?_ (fun t k => XS.lcmp X0.here hx rfl (hb hby d4_2) rfl k)
  by_cases c3_1 : q2 = (0 : Int64)
  · refine Gen.on (b := s₁.setTop (mkF m 6 #[.val (.long q1), .second, .val (.long q2), .second, .unset, .unset, .unset, .unset, .unset, .unset] [])) ?_ (fun t k => XS.ifNo X0.here hx rfl (hb hby d4_3) rfl (own_eq1 c3_1).2 k)
    refine Gen.on (b := s₁.setTop (mkF m 7 #[.val (.long q1), .second, .val (.long q2), .second, .unset, .unset, .unset, .unset, .unset, .unset] [(.long q1)])) ?_ (fun t k => XS.lloadN X0.here hx rfl (hb hby d4_6) rfl k)
    refine Gen.on (b := s₁.setTop (mkF m 10 #[.val (.long q1), .second, .val (.long q2), .second, .unset, .unset, .unset, .unset, .unset, .unset] [(.long (9223372036854775807 : Int64)), (.long q1)])) ?_ (fun t k => X0.ldc2Long hx hown (mvT hZ (hw _ (List.mem_of_getElem? (i := 0) rfl))) (g := (mkF m 7 #[.val (.long q1), .second, .val (.long q2), .second, .unset, .unset, .unset, .unset, .unset, .unset] [(.long q1)])) rfl (hb hby d4_7) t k)
    refine Gen.on (b := s₁.setTop (mkF m 11 #[.val (.long q1), .second, .val (.long q2), .second, .unset, .unset, .unset, .unset, .unset, .unset] [(.long (q1 &&& (9223372036854775807 : Int64)))])) ?_ (fun t k => XS.land X0.here hx rfl (hb hby d4_10) rfl k)
    refine own_retJ X0 hx Bd.returns (hb hby d4_11) (by decide) (by decide) ?_
    exact hq _ _ _ (by simp only [f4, if_pos c3_1]) N0 e0
  · refine Gen.on (b := s₁.setTop (mkF m 12 #[.val (.long q1), .second, .val (.long q2), .second, .unset, .unset, .unset, .unset, .unset, .unset] [])) ?_ (fun t k => XS.ifYes X0.here hx rfl (pc0 := 3) (pc' := 12) rfl (hb hby d4_3) rfl (own_eq0 c3_1).2 (by decide) (by decide) k)
    refine Gen.on (b := s₁.setTop (mkF m 15 #[.val (.long q1), .second, .val (.long q2), .second, .unset, .unset, .unset, .unset, .unset, .unset] [(.long (9223372036854775807 : Int64))])) ?_ (fun t k => X0.ldc2Long hx hown (mvT hZ (hw _ (List.mem_of_getElem? (i := 0) rfl))) (g := (mkF m 12 #[.val (.long q1), .second, .val (.long q2), .second, .unset, .unset, .unset, .unset, .unset, .unset] [])) rfl (hb hby d4_12) t k)
    refine Gen.on (b := s₁.setTop (mkF m 16 #[.val (.long q1), .second, .val (.long q2), .second, .unset, .unset, .unset, .unset, .unset, .unset] [(.long q2), (.long (9223372036854775807 : Int64))])) ?_ (fun t k => XS.lloadN X0.here hx rfl (hb hby d4_15) rfl k)
    refine Gen.on (b := s₁.setTop (mkF m 17 #[.val (.long q1), .second, .val (.long q2), .second, .unset, .unset, .unset, .unset, .unset, .unset] [(.long ((9223372036854775807 : Int64) / q2))])) ?_ (fun t k => XS.ldiv X0.here hx rfl (hb hby d4_16) rfl c3_1 k)
    refine Gen.on (b := s₁.setTop (mkF m 19 #[.val (.long q1), .second, .val (.long q2), .second, .val (.long ((9223372036854775807 : Int64) / q2)), .second, .unset, .unset, .unset, .unset] [])) ?_ (fun t k => XS.lstore X0.here hx rfl (hb hby d4_17) rfl (l' := #[.val (.long q1), .second, .val (.long q2), .second, .val (.long ((9223372036854775807 : Int64) / q2)), .second, .unset, .unset, .unset, .unset]) rfl k)
    refine Gen.on (b := s₁.setTop (mkF m 20 #[.val (.long q1), .second, .val (.long q2), .second, .val (.long ((9223372036854775807 : Int64) / q2)), .second, .unset, .unset, .unset, .unset] [(.long q1)])) ?_ (fun t k => XS.lloadN X0.here hx rfl (hb hby d4_19) rfl k)
    refine Gen.on (b := s₁.setTop (mkF m 23 #[.val (.long q1), .second, .val (.long q2), .second, .val (.long ((9223372036854775807 : Int64) / q2)), .second, .unset, .unset, .unset, .unset] [(.long (3 : Int64)), (.long q1)])) ?_ (fun t k => X0.ldc2Long hx hown (mvT hZ (hw _ (List.mem_of_getElem? (i := 18) rfl))) (g := (mkF m 20 #[.val (.long q1), .second, .val (.long q2), .second, .val (.long ((9223372036854775807 : Int64) / q2)), .second, .unset, .unset, .unset, .unset] [(.long q1)])) rfl (hb hby d4_20) t k)
    refine Gen.on (b := s₁.setTop (mkF m 24 #[.val (.long q1), .second, .val (.long q2), .second, .val (.long ((9223372036854775807 : Int64) / q2)), .second, .unset, .unset, .unset, .unset] [(.long (q1 &&& (3 : Int64)))])) ?_ (fun t k => XS.land X0.here hx rfl (hb hby d4_23) rfl k)
    refine Gen.on (b := s₁.setTop (mkF m 25 #[.val (.long q1), .second, .val (.long q2), .second, .val (.long ((9223372036854775807 : Int64) / q2)), .second, .unset, .unset, .unset, .unset] [(.long (1 : Int64)), (.long (q1 &&& (3 : Int64)))])) ?_ (fun t k => XS.lconst X0.here hx rfl (hb hby d4_24) k)
    refine Gen.on (b := s₁.setTop (mkF m 26 #[.val (.long q1), .second, .val (.long q2), .second, .val (.long ((9223372036854775807 : Int64) / q2)), .second, .unset, .unset, .unset, .unset] [(.long ((q1 &&& (3 : Int64)) - (1 : Int64)))])) ?_ (fun t k => XS.lsub X0.here hx rfl (hb hby d4_25) rfl k)
    refine Gen.on (b := s₁.setTop (mkF m 28 #[.val (.long q1), .second, .val (.long q2), .second, .val (.long ((9223372036854775807 : Int64) / q2)), .second, .val (.long ((q1 &&& (3 : Int64)) - (1 : Int64))), .second, .unset, .unset] [])) ?_ (fun t k => XS.lstore X0.here hx rfl (hb hby d4_26) rfl (l' := #[.val (.long q1), .second, .val (.long q2), .second, .val (.long ((9223372036854775807 : Int64) / q2)), .second, .val (.long ((q1 &&& (3 : Int64)) - (1 : Int64))), .second, .unset, .unset]) rfl k)
    refine Gen.on (b := s₁.setTop (mkF m 30 #[.val (.long q1), .second, .val (.long q2), .second, .val (.long ((9223372036854775807 : Int64) / q2)), .second, .val (.long ((q1 &&& (3 : Int64)) - (1 : Int64))), .second, .unset, .unset] [(.long ((9223372036854775807 : Int64) / q2))])) ?_ (fun t k => XS.lload X0.here hx rfl (hb hby d4_28) rfl k)
    refine Gen.on (b := s₁.setTop (mkF m 32 #[.val (.long q1), .second, .val (.long q2), .second, .val (.long ((9223372036854775807 : Int64) / q2)), .second, .val (.long ((q1 &&& (3 : Int64)) - (1 : Int64))), .second, .unset, .unset] [(.long ((q1 &&& (3 : Int64)) - (1 : Int64))), (.long ((9223372036854775807 : Int64) / q2))])) ?_ (fun t k => XS.lload X0.here hx rfl (hb hby d4_30) rfl k)
    refine Gen.on (b := s₁.setTop (mkF m 33 #[.val (.long q1), .second, .val (.long q2), .second, .val (.long ((9223372036854775807 : Int64) / q2)), .second, .val (.long ((q1 &&& (3 : Int64)) - (1 : Int64))), .second, .unset, .unset] [(.long (((9223372036854775807 : Int64) / q2) + ((q1 &&& (3 : Int64)) - (1 : Int64))))])) ?_ (fun t k => XS.ladd X0.here hx rfl (hb hby d4_32) rfl k)
    refine Gen.on (b := s₁.setTop (mkF m 35 #[.val (.long q1), .second, .val (.long q2), .second, .val (.long ((9223372036854775807 : Int64) / q2)), .second, .val (.long ((q1 &&& (3 : Int64)) - (1 : Int64))), .second, .val (.long (((9223372036854775807 : Int64) / q2) + ((q1 &&& (3 : Int64)) - (1 : Int64)))), .second] [])) ?_ (fun t k => XS.lstore X0.here hx rfl (hb hby d4_33) rfl (l' := #[.val (.long q1), .second, .val (.long q2), .second, .val (.long ((9223372036854775807 : Int64) / q2)), .second, .val (.long ((q1 &&& (3 : Int64)) - (1 : Int64))), .second, .val (.long (((9223372036854775807 : Int64) / q2) + ((q1 &&& (3 : Int64)) - (1 : Int64)))), .second]) rfl k)
    refine Gen.on (b := s₁.setTop (mkF m 37 #[.val (.long q1), .second, .val (.long q2), .second, .val (.long ((9223372036854775807 : Int64) / q2)), .second, .val (.long ((q1 &&& (3 : Int64)) - (1 : Int64))), .second, .val (.long (((9223372036854775807 : Int64) / q2) + ((q1 &&& (3 : Int64)) - (1 : Int64)))), .second] [(.long (((9223372036854775807 : Int64) / q2) + ((q1 &&& (3 : Int64)) - (1 : Int64))))])) ?_ (fun t k => XS.lload X0.here hx rfl (hb hby d4_35) rfl k)
    refine Gen.on (b := s₁.setTop (mkF m 38 #[.val (.long q1), .second, .val (.long q2), .second, .val (.long ((9223372036854775807 : Int64) / q2)), .second, .val (.long ((q1 &&& (3 : Int64)) - (1 : Int64))), .second, .val (.long (((9223372036854775807 : Int64) / q2) + ((q1 &&& (3 : Int64)) - (1 : Int64)))), .second] [(.long (0 : Int64)), (.long (((9223372036854775807 : Int64) / q2) + ((q1 &&& (3 : Int64)) - (1 : Int64))))])) ?_ (fun t k => XS.lconst X0.here hx rfl (hb hby d4_37) k)
    refine Gen.on (b := s₁.setTop (mkF m 39 #[.val (.long q1), .second, .val (.long q2), .second, .val (.long ((9223372036854775807 : Int64) / q2)), .second, .val (.long ((q1 &&& (3 : Int64)) - (1 : Int64))), .second, .val (.long (((9223372036854775807 : Int64) / q2) + ((q1 &&& (3 : Int64)) - (1 : Int64)))), .second] [(.int (lcmpW (((9223372036854775807 : Int64) / q2) + ((q1 &&& (3 : Int64)) - (1 : Int64))) (0 : Int64)))])) ?_ (fun t k => XS.lcmp X0.here hx rfl (hb hby d4_38) rfl k)
    by_cases c39_2 : (((9223372036854775807 : Int64) / q2) + ((q1 &&& (3 : Int64)) - (1 : Int64))) < (0 : Int64)
    · refine Gen.on (b := s₁.setTop (mkF m 42 #[.val (.long q1), .second, .val (.long q2), .second, .val (.long ((9223372036854775807 : Int64) / q2)), .second, .val (.long ((q1 &&& (3 : Int64)) - (1 : Int64))), .second, .val (.long (((9223372036854775807 : Int64) / q2) + ((q1 &&& (3 : Int64)) - (1 : Int64)))), .second] [])) ?_ (fun t k => XS.ifNo X0.here hx rfl (hb hby d4_39) rfl (own_lt1 c39_2).2 k)
      refine Gen.on (b := s₁.setTop (mkF m 45 #[.val (.long q1), .second, .val (.long q2), .second, .val (.long ((9223372036854775807 : Int64) / q2)), .second, .val (.long ((q1 &&& (3 : Int64)) - (1 : Int64))), .second, .val (.long (((9223372036854775807 : Int64) / q2) + ((q1 &&& (3 : Int64)) - (1 : Int64)))), .second] [(.long (9223372036854775807 : Int64))])) ?_ (fun t k => X0.ldc2Long hx hown (mvT hZ (hw _ (List.mem_of_getElem? (i := 0) rfl))) (g := (mkF m 42 #[.val (.long q1), .second, .val (.long q2), .second, .val (.long ((9223372036854775807 : Int64) / q2)), .second, .val (.long ((q1 &&& (3 : Int64)) - (1 : Int64))), .second, .val (.long (((9223372036854775807 : Int64) / q2) + ((q1 &&& (3 : Int64)) - (1 : Int64)))), .second] [])) rfl (hb hby d4_42) t k)
      refine Gen.on (b := s₁.setTop (mkF m 47 #[.val (.long q1), .second, .val (.long q2), .second, .val (.long ((9223372036854775807 : Int64) / q2)), .second, .val (.long ((q1 &&& (3 : Int64)) - (1 : Int64))), .second, .val (.long (9223372036854775807 : Int64)), .second] [])) ?_ (fun t k => XS.lstore X0.here hx rfl (hb hby d4_45) rfl (l' := #[.val (.long q1), .second, .val (.long q2), .second, .val (.long ((9223372036854775807 : Int64) / q2)), .second, .val (.long ((q1 &&& (3 : Int64)) - (1 : Int64))), .second, .val (.long (9223372036854775807 : Int64)), .second]) rfl k)
      refine Gen.on (b := s₁.setTop (mkF m 49 #[.val (.long q1), .second, .val (.long q2), .second, .val (.long ((9223372036854775807 : Int64) / q2)), .second, .val (.long ((q1 &&& (3 : Int64)) - (1 : Int64))), .second, .val (.long (9223372036854775807 : Int64)), .second] [(.long (9223372036854775807 : Int64))])) ?_ (fun t k => XS.lload X0.here hx rfl (hb hby d4_47) rfl k)
      refine own_retJ X0 hx Bd.returns (hb hby d4_49) (by decide) (by decide) ?_
      exact hq _ _ _ (by simp only [f4, if_neg c3_1, if_pos c39_2]) N0 e0
    · refine Gen.on (b := s₁.setTop (mkF m 47 #[.val (.long q1), .second, .val (.long q2), .second, .val (.long ((9223372036854775807 : Int64) / q2)), .second, .val (.long ((q1 &&& (3 : Int64)) - (1 : Int64))), .second, .val (.long (((9223372036854775807 : Int64) / q2) + ((q1 &&& (3 : Int64)) - (1 : Int64)))), .second] [])) ?_ (fun t k => XS.ifYes X0.here hx rfl (pc0 := 39) (pc' := 47) rfl (hb hby d4_39) rfl (own_lt0 c39_2).2 (by decide) (by decide) k)
      refine Gen.on (b := s₁.setTop (mkF m 49 #[.val (.long q1), .second, .val (.long q2), .second, .val (.long ((9223372036854775807 : Int64) / q2)), .second, .val (.long ((q1 &&& (3 : Int64)) - (1 : Int64))), .second, .val (.long (((9223372036854775807 : Int64) / q2) + ((q1 &&& (3 : Int64)) - (1 : Int64)))), .second] [(.long (((9223372036854775807 : Int64) / q2) + ((q1 &&& (3 : Int64)) - (1 : Int64))))])) ?_ (fun t k => XS.lload X0.here hx rfl (hb hby d4_47) rfl k)
      refine own_retJ X0 hx Bd.returns (hb hby d4_49) (by decide) (by decide) ?_
      exact hq _ _ _ (by simp only [f4, if_neg c3_1, if_neg c39_2]) N0 e0

theorem own_lit : ((9223372036854775807 : Int64)).toInt = 9223372036854775807 := by decide +kernel
theorem own_l0 : (0 : Int64).toInt = 0 := by decide +kernel
theorem own_l1 : (1 : Int64).toInt = 1 := by decide +kernel
theorem own_top (x : Int64) : x.toInt < 9223372036854775808 := by have := x.toInt_lt; omega
theorem own_bot (x : Int64) : -9223372036854775808 ≤ x.toInt := by have := x.le_toInt; omega
theorem own_hi_i (x : Int64) : (own_hi x).toInt = x.toInt / 4294967296 := Jvm.Kit.i64_shr x _ (k := 32) (by decide +kernel)
theorem own_lo_i (x : Int64) : (own_lo x).toInt = x.toInt % 4294967296 := Jvm.Kit.i64_mask x 4294967295 (k := 32) (by decide) (by decide)
theorem own_us_i (x : Int64) : (own_us x).toInt = (x.toInt % 18446744073709551616) / 4294967296 := by
  have e : ((32 : Int32) &&& 0x3f).toInt64.toUInt64.toNat = 32 := by decide +kernel
  unfold own_us
  rw [← Int64.toInt_toBitVec, UInt64.toBitVec_toInt64, UInt64.toBitVec_shiftRight, Int64.toBitVec_toUInt64, BitVec.toInt_eq_toNat_of_lt]
  · rw [BitVec.ushiftRight_eq', BitVec.toNat_ushiftRight, BitVec.toNat_umod]
    have e2 : (((32 : Int32) &&& 0x3f).toInt64.toUInt64).toBitVec.toNat = 32 := e
    rw [e2, Nat.shiftRight_eq_div_pow]
    have e3 : ((x.toBitVec.toNat : Nat) : Int) = x.toInt % 18446744073709551616 := by
      rw [← Int64.toInt_toBitVec, BitVec.toInt_eq_toNat_bmod]
      have := x.toBitVec.isLt
      simp only [Int.bmod]
      omega
    rw [Int.natCast_ediv, e3]
    rfl
  · rw [BitVec.ushiftRight_eq', BitVec.toNat_ushiftRight, BitVec.toNat_umod]
    have e2 : (((32 : Int32) &&& 0x3f).toInt64.toUInt64).toBitVec.toNat = 32 := e
    rw [e2, Nat.shiftRight_eq_div_pow]
    have := x.toBitVec.isLt
    show 2 * (x.toBitVec.toNat / 2 ^ (32 % 64)) < 2 ^ 64
    have e3 : (2 : Nat) ^ (32 % 64) = 4294967296 := by decide
    rw [e3]
    omega
theorem own_mulb {x y : Int} {A B : Int} (hx : 0 ≤ x) (hx2 : x ≤ A) (hy : 0 ≤ y) (hy2 : y ≤ B) : 0 ≤ x * y ∧ x * y ≤ A * B :=
  ⟨Int.mul_nonneg hx hy, Int.mul_le_mul hx2 hy2 hy (Int.le_trans hx hx2)⟩
theorem own_high (a b : Int64) (ha : 0 ≤ a.toInt) (hb : 0 ≤ b.toInt) : (f2 a b).toInt = (a.toInt * b.toInt) / 18446744073709551616 := by
  have ta := own_top a
  have tb := own_top b
  have h1 := own_hi_i a
  have h2 := own_hi_i b
  have l1 := own_lo_i a
  have l2 := own_lo_i b
  have p := own_mulb (x := (own_lo a).toInt) (y := (own_lo b).toInt) (A := 4294967295) (B := 4294967295) (by omega) (by omega) (by omega) (by omega)
  have q := own_mulb (x := (own_hi a).toInt) (y := (own_lo b).toInt) (A := 2147483647) (B := 4294967295) (by omega) (by omega) (by omega) (by omega)
  have r := own_mulb (x := (own_lo a).toInt) (y := (own_hi b).toInt) (A := 4294967295) (B := 2147483647) (by omega) (by omega) (by omega) (by omega)
  have w := own_mulb (x := (own_hi a).toInt) (y := (own_hi b).toInt) (A := 2147483647) (B := 2147483647) (by omega) (by omega) (by omega) (by omega)
  have ez : (own_lo a * own_lo b).toInt % 18446744073709551616 = (own_lo a).toInt * (own_lo b).toInt := by
    rw [Int64.toInt_mul]
    simp only [Int.bmod]
    omega
  have eu : (own_us (own_lo a * own_lo b)).toInt = ((own_lo a).toInt * (own_lo b).toInt) / 4294967296 := by rw [own_us_i, ez]
  have eq : (own_hi a * own_lo b).toInt = (own_hi a).toInt * (own_lo b).toInt := Jvm.Kit.i64_mul (by omega) (by omega)
  have et : (own_t a b).toInt = (own_hi a).toInt * (own_lo b).toInt + ((own_lo a).toInt * (own_lo b).toInt) / 4294967296 := by
    unfold own_t
    rw [Jvm.Kit.i64_add (by rw [eq, eu]; omega) (by rw [eq, eu]; omega), eq, eu]
  have er : (own_lo a * own_hi b).toInt = (own_lo a).toInt * (own_hi b).toInt := Jvm.Kit.i64_mul (by omega) (by omega)
  have lt := own_lo_i (own_t a b)
  have ht := own_hi_i (own_t a b)
  have eU : (own_u a b).toInt = (own_lo (own_t a b)).toInt + (own_lo a).toInt * (own_hi b).toInt := by
    unfold own_u
    rw [Jvm.Kit.i64_add (by rw [er]; omega) (by rw [er]; omega), er]
  have hu := own_hi_i (own_u a b)
  have ew : (own_hi a * own_hi b).toInt = (own_hi a).toInt * (own_hi b).toInt := Jvm.Kit.i64_mul (by omega) (by omega)
  have e1 : ((own_hi a * own_hi b) + own_hi (own_t a b)).toInt = (own_hi a).toInt * (own_hi b).toInt + (own_hi (own_t a b)).toInt := by
    rw [Jvm.Kit.i64_add (by rw [ew]; omega) (by rw [ew]; omega), ew]
  have e2 : (f2 a b).toInt = (own_hi a).toInt * (own_hi b).toInt + (own_hi (own_t a b)).toInt + (own_hi (own_u a b)).toInt := by
    show (((own_hi a * own_hi b) + own_hi (own_t a b)) + own_hi (own_u a b)).toInt = _
    rw [Jvm.Kit.i64_add (by rw [e1]; omega) (by rw [e1]; omega), e1]
  have ea : a.toInt = (own_hi a).toInt * 4294967296 + (own_lo a).toInt := by omega
  have eb : b.toInt = (own_hi b).toInt * 4294967296 + (own_lo b).toInt := by omega
  have ex : a.toInt * b.toInt = ((own_hi a).toInt * (own_hi b).toInt) * 18446744073709551616 + ((own_hi a).toInt * (own_lo b).toInt + (own_lo a).toInt * (own_hi b).toInt) * 4294967296 + (own_lo a).toInt * (own_lo b).toInt := by
    rw [ea, eb]
    generalize (own_hi a).toInt = x1, (own_lo a).toInt = x0, (own_hi b).toInt = y1, (own_lo b).toInt = y0
    grind
  rw [e2, ex]
  generalize (own_hi a).toInt * (own_hi b).toInt = m11 at *
  generalize (own_hi a).toInt * (own_lo b).toInt = m10 at *
  generalize (own_lo a).toInt * (own_hi b).toInt = m01 at *
  generalize (own_lo a).toInt * (own_lo b).toInt = m00 at *
  omega
theorem own_prod (a b : Int64) (ha : 0 ≤ a.toInt) (hb : 0 ≤ b.toInt) : f1 a b = if a.toInt * b.toInt < 9223372036854775808 then a * b else (9223372036854775807 : Int64) := by
  have h := own_high a b ha hb
  have hm : (a * b).toInt = Int.bmod (a.toInt * b.toInt) 18446744073709551616 := Int64.toInt_mul a b
  have hp := Int.mul_nonneg ha hb
  have ta := own_top a
  have tb := own_top b
  have hq := Int.mul_le_mul (show a.toInt ≤ 9223372036854775807 by omega) (show b.toInt ≤ 9223372036854775807 by omega) hb (by omega)
  unfold f1
  simp only [Int64.lt_iff_toInt_lt, ← Int64.toInt_inj, h, hm, own_l0, own_lit, Int.bmod]
  generalize a.toInt * b.toInt = P at *
  repeat' split
  all_goals first | rfl | (exfalso; omega) | (rw [hm]; simp only [Int.bmod]; omega)
theorem own_ref (a b : Int64) (ha : 0 ≤ a.toInt) (hb : 0 ≤ b.toInt) : f3 a b = if a.toInt * b.toInt < 9223372036854775808 then a * b else (9223372036854775807 : Int64) := by
  unfold f3
  by_cases h1 : a = 0
  · subst h1; rw [if_pos rfl, if_pos (by rw [own_l0, Int.zero_mul]; omega), Int64.zero_mul]
  by_cases h2 : b = 0
  · subst h2; rw [if_neg h1, if_pos rfl, if_pos (by rw [own_l0, Int.mul_zero]; omega), Int64.mul_zero]
  have hb1 : 0 < b.toInt := by
    rw [← Int64.toInt_inj, own_l0] at h2; omega
  have e : ((9223372036854775807 : Int64) / b).toInt = 9223372036854775807 / b.toInt := by
    rw [Jvm.Kit.i64_div (by rw [own_lit]; omega), own_lit, Int.tdiv_eq_ediv_of_nonneg (by omega)]
  have g : (9223372036854775807 : Int64) / b < a ↔ ¬ a.toInt * b.toInt < 9223372036854775808 := by
    rw [Int64.lt_iff_toInt_lt, e, Int.ediv_lt_iff_lt_mul hb1]; omega
  rw [if_neg h1, if_neg h2]
  by_cases q : a.toInt * b.toInt < 9223372036854775808
  · rw [if_neg (by rw [g]; exact fun z => z q), if_pos q]
  · rw [if_pos (g.mpr q), if_neg q]
theorem own_same (a b : Int64) (ha : 0 ≤ a.toInt) (hb : 0 ≤ b.toInt) : f1 a b = f3 a b := by rw [own_prod a b ha hb, own_ref a b ha hb]
theorem own_nn (x : Int64) : 0 ≤ (x &&& (9223372036854775807 : Int64)).toInt := by
  have e : (x &&& (9223372036854775807 : Int64)).toInt = x.toInt % 2 ^ 63 := Jvm.Kit.i64_mask x 9223372036854775807 (k := 63) (by decide) (by decide)
  rw [e]; omega
theorem own_nn31 (x : Int64) : 0 ≤ (x &&& (2147483647 : Int64)).toInt := by
  have e : (x &&& (2147483647 : Int64)).toInt = x.toInt % 2 ^ 31 := Jvm.Kit.i64_mask x 2147483647 (k := 31) (by decide) (by decide)
  rw [e]; omega
theorem own_nn16 (x : Int64) : 0 ≤ (x &&& (65535 : Int64)).toInt := by
  have e : (x &&& (65535 : Int64)).toInt = x.toInt % 2 ^ 16 := Jvm.Kit.i64_mask x 65535 (k := 16) (by decide) (by decide)
  rw [e]; omega
theorem own_near (x b : Int64) : 0 ≤ (f4 x b).toInt := by
  unfold f4
  split
  · exact own_nn x
  · split
    · rw [own_lit]; omega
    · rename_i h; rw [Int64.lt_iff_toInt_lt, own_l0] at h; omega

theorem pn_0 : plainName "com/example/streambed/streambed/stream/DemandProductPinLaw" = true := by first | (simp [plainName, overriddenIn]; done) | decide +kernel
theorem pd_0_0 : parseMethodDescriptor "(JJ)J" = some ⟨[.long, .long], some .long⟩ := by decide +kernel
theorem ef_0 (m : MethodId) (x0 : Int64) (x1 : Int64) (x2 : Int32) : entryFrame m #[(.long x0), (.long x1), (.int x2)] maxLocals = mkF m 0 #[.val (.long x0), .second, .val (.long x1), .second, .val (.int x2), .unset, .unset, .unset, .unset, .unset, .unset, .unset] [] := by first | (simp [entryFrame, mkF, argsToLocals, Value.category, maxLocals]; done) | rfl
def Q0 (n0 : Nat) (v : Option Value) (h : Heap) (L : List Loc) : Prop := v = some (.int 1) ∧ Fr n0 L
set_option maxRecDepth 65536 in
set_option maxHeartbeats 40000000 in
theorem rm0 (l : Launch) (Z : State) (a0 : Array Value) (hw : ∀ d ∈ tables_1, d.before a0 Z = true) (ws : List Jvm.Cond) (q1 : Int64) (q2 : Int64) (p3 : Int32) (h0 : Heap) (n0 : Nat) (Z0 : n0 ≤ h0.size)  :
    MetFree l x (head1 (Jvm.Cond.code x code maxLocals ret :: ws) room_1) (fun a U => a = #[(.long q1), (.long q2), (.int p3)] ∧ Z.Warmed39 U.vm ∧ U.heap = h0) (fun _ _ _ _ _ => True) (fun _ U o U' => ∃ v L, o = .returned v ∧ Q0 n0 v U'.heap L ∧ FrameEnd U o U' L room_1.cells room_1.slots) := by
  refine MetFree.of_bodySF (plainFor_of_name pn_0) hisR ?_
  intro p e s m args below meth c s₁ Bd hml0 hP hK
  obtain ⟨rfl, hZ, hh⟩ := hP
  have hx := Bd.exec
  have hby := Bd.bytes
  have hml : c.maxLocals = 12 := hml0
  have hown : s.vm.findClass "com/example/streambed/streambed/stream/DemandProductPinLaw" = some m.cls := findClass_of_methodNamed Bd.named
  have hnm := (name_of_methodNamed Bd.named Bd.method).1
  have X0 : Stand p l e room_1 s m #[(.long q1), (.long q2), (.int p3)] below meth c s₁ [] 0 0 := Stand.of_body Bd
  have e0 : s₁.heap = h0 := by rw [← hh, Bd.state]; rfl
  have N0 := Fr.nil n0
  refine own_start (Q := Q0 n0) (C := room_1.cells) (S := room_1.slots) ?_
  rw [ef_0 m q1 q2 p3]
  refine Gen.on (b := s₁.setTop (mkF m 2 #[.val (.long q1), .second, .val (.long q2), .second, .val (.int p3), .unset, .unset, .unset, .unset, .unset, .unset, .unset] [(.int p3)])) ?_ (fun t k => XS.iload X0.here hx rfl (hb hby at_0) rfl k)
  refine Gen.on (b := s₁.setTop (mkF m 3 #[.val (.long q1), .second, .val (.long q2), .second, .val (.int p3), .unset, .unset, .unset, .unset, .unset, .unset, .unset] [(.int (3 : Int32)), (.int p3)])) ?_ (fun t k => XS.iconst X0.here hx rfl (hb hby at_2) k)
  refine Gen.on (b := s₁.setTop (mkF m 4 #[.val (.long q1), .second, .val (.long q2), .second, .val (.int p3), .unset, .unset, .unset, .unset, .unset, .unset, .unset] [(.int (p3 &&& (3 : Int32)))])) ?_ (fun t k => XS.iand X0.here hx rfl (hb hby at_3) rfl k)
  refine Gen.on (b := s₁.setTop (mkF m 6 #[.val (.long q1), .second, .val (.long q2), .second, .val (.int p3), .val (.int (p3 &&& (3 : Int32))), .unset, .unset, .unset, .unset, .unset, .unset] [])) ?_ (fun t k => XS.istore X0.here hx rfl (hb hby at_4) rfl (l' := #[.val (.long q1), .second, .val (.long q2), .second, .val (.int p3), .val (.int (p3 &&& (3 : Int32))), .unset, .unset, .unset, .unset, .unset, .unset]) rfl k)
  refine Gen.on (b := s₁.setTop (mkF m 8 #[.val (.long q1), .second, .val (.long q2), .second, .val (.int p3), .val (.int (p3 &&& (3 : Int32))), .unset, .unset, .unset, .unset, .unset, .unset] [(.int (p3 &&& (3 : Int32)))])) ?_ (fun t k => XS.iload X0.here hx rfl (hb hby at_6) rfl k)
  refine Gen.on (b := s₁.setTop (mkF m 9 #[.val (.long q1), .second, .val (.long q2), .second, .val (.int p3), .val (.int (p3 &&& (3 : Int32))), .unset, .unset, .unset, .unset, .unset, .unset] [(.int (1 : Int32)), (.int (p3 &&& (3 : Int32)))])) ?_ (fun t k => XS.iconst X0.here hx rfl (hb hby at_8) k)
  by_cases c9_1 : (p3 &&& (3 : Int32)) = (1 : Int32)
  · refine Gen.on (b := s₁.setTop (mkF m 12 #[.val (.long q1), .second, .val (.long q2), .second, .val (.int p3), .val (.int (p3 &&& (3 : Int32))), .unset, .unset, .unset, .unset, .unset, .unset] [])) ?_ (fun t k => XS.icmpNo X0.here hx rfl (hb hby at_9) rfl (teq c9_1).2 k)
    refine Gen.on (b := s₁.setTop (mkF m 13 #[.val (.long q1), .second, .val (.long q2), .second, .val (.int p3), .val (.int (p3 &&& (3 : Int32))), .unset, .unset, .unset, .unset, .unset, .unset] [(.long q1)])) ?_ (fun t k => XS.lloadN X0.here hx rfl (hb hby at_12) rfl k)
    refine Gen.on (b := s₁.setTop (mkF m 16 #[.val (.long q1), .second, .val (.long q2), .second, .val (.int p3), .val (.int (p3 &&& (3 : Int32))), .unset, .unset, .unset, .unset, .unset, .unset] [(.long (2147483647 : Int64)), (.long q1)])) ?_ (fun t k => X0.ldc2Long hx hown (mvT hZ (hw _ (List.mem_of_getElem? (i := 20) rfl))) (g := (mkF m 13 #[.val (.long q1), .second, .val (.long q2), .second, .val (.int p3), .val (.int (p3 &&& (3 : Int32))), .unset, .unset, .unset, .unset, .unset, .unset] [(.long q1)])) rfl (hb hby at_13) t k)
    refine Gen.on (b := s₁.setTop (mkF m 17 #[.val (.long q1), .second, .val (.long q2), .second, .val (.int p3), .val (.int (p3 &&& (3 : Int32))), .unset, .unset, .unset, .unset, .unset, .unset] [(.long (q1 &&& (2147483647 : Int64)))])) ?_ (fun t k => XS.land X0.here hx rfl (hb hby at_16) rfl k)
    refine Gen.on (b := s₁.setTop (mkF m 19 #[.val (.long q1), .second, .val (.long q2), .second, .val (.int p3), .val (.int (p3 &&& (3 : Int32))), .val (.long (q1 &&& (2147483647 : Int64))), .second, .unset, .unset, .unset, .unset] [])) ?_ (fun t k => XS.lstore X0.here hx rfl (hb hby at_17) rfl (l' := #[.val (.long q1), .second, .val (.long q2), .second, .val (.int p3), .val (.int (p3 &&& (3 : Int32))), .val (.long (q1 &&& (2147483647 : Int64))), .second, .unset, .unset, .unset, .unset]) rfl k)
    refine Gen.on (b := s₁.setTop (mkF m 20 #[.val (.long q1), .second, .val (.long q2), .second, .val (.int p3), .val (.int (p3 &&& (3 : Int32))), .val (.long (q1 &&& (2147483647 : Int64))), .second, .unset, .unset, .unset, .unset] [(.long q2)])) ?_ (fun t k => XS.lloadN X0.here hx rfl (hb hby at_19) rfl k)
    refine Gen.on (b := s₁.setTop (mkF m 23 #[.val (.long q1), .second, .val (.long q2), .second, .val (.int p3), .val (.int (p3 &&& (3 : Int32))), .val (.long (q1 &&& (2147483647 : Int64))), .second, .unset, .unset, .unset, .unset] [(.long (2147483647 : Int64)), (.long q2)])) ?_ (fun t k => X0.ldc2Long hx hown (mvT hZ (hw _ (List.mem_of_getElem? (i := 20) rfl))) (g := (mkF m 20 #[.val (.long q1), .second, .val (.long q2), .second, .val (.int p3), .val (.int (p3 &&& (3 : Int32))), .val (.long (q1 &&& (2147483647 : Int64))), .second, .unset, .unset, .unset, .unset] [(.long q2)])) rfl (hb hby at_20) t k)
    refine Gen.on (b := s₁.setTop (mkF m 24 #[.val (.long q1), .second, .val (.long q2), .second, .val (.int p3), .val (.int (p3 &&& (3 : Int32))), .val (.long (q1 &&& (2147483647 : Int64))), .second, .unset, .unset, .unset, .unset] [(.long (q2 &&& (2147483647 : Int64)))])) ?_ (fun t k => XS.land X0.here hx rfl (hb hby at_23) rfl k)
    refine Gen.on (b := s₁.setTop (mkF m 26 #[.val (.long q1), .second, .val (.long q2), .second, .val (.int p3), .val (.int (p3 &&& (3 : Int32))), .val (.long (q1 &&& (2147483647 : Int64))), .second, .val (.long (q2 &&& (2147483647 : Int64))), .second, .unset, .unset] [])) ?_ (fun t k => XS.lstore X0.here hx rfl (hb hby at_24) rfl (l' := #[.val (.long q1), .second, .val (.long q2), .second, .val (.int p3), .val (.int (p3 &&& (3 : Int32))), .val (.long (q1 &&& (2147483647 : Int64))), .second, .val (.long (q2 &&& (2147483647 : Int64))), .second, .unset, .unset]) rfl k)
    refine Gen.on (b := s₁.setTop (mkF m 91 #[.val (.long q1), .second, .val (.long q2), .second, .val (.int p3), .val (.int (p3 &&& (3 : Int32))), .val (.long (q1 &&& (2147483647 : Int64))), .second, .val (.long (q2 &&& (2147483647 : Int64))), .second, .unset, .unset] [])) ?_ (fun t k => XS.goto X0.here hx rfl (pc0 := 26) (pc' := 91) rfl (hb hby at_26) (by decide) (by decide) k)
    refine Gen.on (b := s₁.setTop (mkF m 93 #[.val (.long q1), .second, .val (.long q2), .second, .val (.int p3), .val (.int (p3 &&& (3 : Int32))), .val (.long (q1 &&& (2147483647 : Int64))), .second, .val (.long (q2 &&& (2147483647 : Int64))), .second, .unset, .unset] [(.int p3)])) ?_ (fun t k => XS.iload X0.here hx rfl (hb hby at_91) rfl k)
    refine Gen.on (b := s₁.setTop (mkF m 94 #[.val (.long q1), .second, .val (.long q2), .second, .val (.int p3), .val (.int (p3 &&& (3 : Int32))), .val (.long (q1 &&& (2147483647 : Int64))), .second, .val (.long (q2 &&& (2147483647 : Int64))), .second, .unset, .unset] [(.int (4 : Int32)), (.int p3)])) ?_ (fun t k => XS.iconst X0.here hx rfl (hb hby at_93) k)
    refine Gen.on (b := s₁.setTop (mkF m 95 #[.val (.long q1), .second, .val (.long q2), .second, .val (.int p3), .val (.int (p3 &&& (3 : Int32))), .val (.long (q1 &&& (2147483647 : Int64))), .second, .val (.long (q2 &&& (2147483647 : Int64))), .second, .unset, .unset] [(.int (p3 &&& (4 : Int32)))])) ?_ (fun t k => XS.iand X0.here hx rfl (hb hby at_94) rfl k)
    by_cases c95_2 : (p3 &&& (4 : Int32)) = (0 : Int32)
    · refine Gen.on (b := s₁.setTop (mkF m 110 #[.val (.long q1), .second, .val (.long q2), .second, .val (.int p3), .val (.int (p3 &&& (3 : Int32))), .val (.long (q1 &&& (2147483647 : Int64))), .second, .val (.long (q2 &&& (2147483647 : Int64))), .second, .unset, .unset] [])) ?_ (fun t k => XS.ifYes X0.here hx rfl (pc0 := 95) (pc' := 110) rfl (hb hby at_95) rfl ((if0 _ _).trans (teq c95_2).1) (by decide) (by decide) k)
      refine Gen.on (b := s₁.setTop (mkF m 112 #[.val (.long q1), .second, .val (.long q2), .second, .val (.int p3), .val (.int (p3 &&& (3 : Int32))), .val (.long (q1 &&& (2147483647 : Int64))), .second, .val (.long (q2 &&& (2147483647 : Int64))), .second, .unset, .unset] [(.long (q1 &&& (2147483647 : Int64)))])) ?_ (fun t k => XS.lload X0.here hx rfl (hb hby at_110) rfl k)
      refine Gen.on (b := s₁.setTop (mkF m 114 #[.val (.long q1), .second, .val (.long q2), .second, .val (.int p3), .val (.int (p3 &&& (3 : Int32))), .val (.long (q1 &&& (2147483647 : Int64))), .second, .val (.long (q2 &&& (2147483647 : Int64))), .second, .unset, .unset] [(.long (q2 &&& (2147483647 : Int64))), (.long (q1 &&& (2147483647 : Int64)))])) ?_ (fun t k => XS.lload X0.here hx rfl (hb hby at_112) rfl k)
      obtain ⟨_, _, ⟨T1, L1, k1, n1⟩, -, X1, ⟨Lc1, hQ1, l1, y1, z1⟩, st1⟩ := Jvm.LawKit.callS X0 hx (y := (⟨"com/example/streambed/streambed/stream/Demand", "product", "(JJ)J"⟩ : MethodName)) hown (mvT hZ (hw _ (List.mem_of_getElem? (i := 1) rfl))) (mvT hZ (hw _ (List.mem_of_getElem? (i := 2) rfl))) (mvT hZ (hw _ (List.mem_of_getElem? (i := 3) rfl))) (mvT hZ (hw _ (List.mem_of_getElem? (i := 4) rfl))) (by decide) (backOf (W := 0) (rm1 l Z a0 hw [] (q1 &&& (2147483647 : Int64)) (q2 &&& (2147483647 : Int64))  h0 n0 Z0 ) hZ (hw _ (List.mem_of_getElem? (i := 4) rfl)) (hw _ (List.mem_of_getElem? (i := 3) rfl)) (by decide) (by decide)) (g := (mkF m 114 #[.val (.long q1), .second, .val (.long q2), .second, .val (.int p3), .val (.int (p3 &&& (3 : Int32))), .val (.long (q1 &&& (2147483647 : Int64))), .second, .val (.long (q2 &&& (2147483647 : Int64))), .second, .unset, .unset] [(.long (q2 &&& (2147483647 : Int64))), (.long (q1 &&& (2147483647 : Int64)))])) rfl (by rw [hml]; rfl) (argsL := [(.long (q1 &&& (2147483647 : Int64))), (.long (q2 &&& (2147483647 : Int64)))]) (rest := []) (lenOf pd_0_0 rfl) rfl (by show 2 * 0 + _ ≤ _; exact Nat.le_of_eq rfl) (hb hby at_114) (fun _ _ => ⟨rfl, e0, (by decide : 0 + 0 ≤ _), (by decide : 0 + 0 ≤ _)⟩)
      dsimp only [Pt.U, Pt.locs, Pt.cells, Pt.slots] at X1 l1 y1 z1 st1 hQ1
      subst l1 y1 z1
      obtain ⟨rfl, N1q, e1⟩ := hQ1
      have N1 := Fr.app N0 N1q
      refine Gen.on (b := T1.setTop (mkF m 117 #[.val (.long q1), .second, .val (.long q2), .second, .val (.int p3), .val (.int (p3 &&& (3 : Int32))), .val (.long (q1 &&& (2147483647 : Int64))), .second, .val (.long (q2 &&& (2147483647 : Int64))), .second, .unset, .unset] [(.long (f1 (q1 &&& (2147483647 : Int64)) (q2 &&& (2147483647 : Int64))))])) ?_ (fun t k => st1 t k)
      refine Gen.on (b := T1.setTop (mkF m 119 #[.val (.long q1), .second, .val (.long q2), .second, .val (.int p3), .val (.int (p3 &&& (3 : Int32))), .val (.long (q1 &&& (2147483647 : Int64))), .second, .val (.long (q2 &&& (2147483647 : Int64))), .second, .unset, .unset] [(.long (q1 &&& (2147483647 : Int64))), (.long (f1 (q1 &&& (2147483647 : Int64)) (q2 &&& (2147483647 : Int64))))])) ?_ (fun t k => XS.lload X1.here hx rfl (hb hby at_117) rfl k)
      refine Gen.on (b := T1.setTop (mkF m 121 #[.val (.long q1), .second, .val (.long q2), .second, .val (.int p3), .val (.int (p3 &&& (3 : Int32))), .val (.long (q1 &&& (2147483647 : Int64))), .second, .val (.long (q2 &&& (2147483647 : Int64))), .second, .unset, .unset] [(.long (q2 &&& (2147483647 : Int64))), (.long (q1 &&& (2147483647 : Int64))), (.long (f1 (q1 &&& (2147483647 : Int64)) (q2 &&& (2147483647 : Int64))))])) ?_ (fun t k => XS.lload X1.here hx rfl (hb hby at_119) rfl k)
      obtain ⟨_, _, ⟨T2, L2, k2, n2⟩, -, X2, ⟨Lc2, hQ2, l2, y2, z2⟩, st2⟩ := Jvm.LawKit.callS X1 hx (y := (⟨"com/example/streambed/streambed/stream/DemandProductPinLaw", "ref", "(JJ)J"⟩ : MethodName)) hown (mvT hZ (hw _ (List.mem_of_getElem? (i := 10) rfl))) (mvT hZ (hw _ (List.mem_of_getElem? (i := 11) rfl))) (mvT hZ (hw _ (List.mem_of_getElem? (i := 12) rfl))) (mvT hZ (hw _ (List.mem_of_getElem? (i := 13) rfl))) (by decide) (backOf (W := 2) (rm3 l Z a0 hw [] (q1 &&& (2147483647 : Int64)) (q2 &&& (2147483647 : Int64))  h0 n0 Z0 ) hZ (hw _ (List.mem_of_getElem? (i := 13) rfl)) (hw _ (List.mem_of_getElem? (i := 12) rfl)) (by decide) (by decide)) (g := (mkF m 121 #[.val (.long q1), .second, .val (.long q2), .second, .val (.int p3), .val (.int (p3 &&& (3 : Int32))), .val (.long (q1 &&& (2147483647 : Int64))), .second, .val (.long (q2 &&& (2147483647 : Int64))), .second, .unset, .unset] [(.long (q2 &&& (2147483647 : Int64))), (.long (q1 &&& (2147483647 : Int64))), (.long (f1 (q1 &&& (2147483647 : Int64)) (q2 &&& (2147483647 : Int64))))])) rfl (by rw [hml]; rfl) (argsL := [(.long (q1 &&& (2147483647 : Int64))), (.long (q2 &&& (2147483647 : Int64)))]) (rest := [(.long (f1 (q1 &&& (2147483647 : Int64)) (q2 &&& (2147483647 : Int64))))]) (lenOf pd_0_0 rfl) rfl (by show 2 * 0 + _ ≤ _; exact Nat.le_of_eq rfl) (hb hby at_121) (fun _ _ => ⟨rfl, e1, (by decide : 0 + 0 ≤ _), (by decide : 0 + 0 ≤ _)⟩)
      dsimp only [Pt.U, Pt.locs, Pt.cells, Pt.slots] at X2 l2 y2 z2 st2 hQ2
      subst l2 y2 z2
      obtain ⟨rfl, N2q, e2⟩ := hQ2
      have N2 := Fr.app N1 N2q
      refine Gen.on (b := T2.setTop (mkF m 124 #[.val (.long q1), .second, .val (.long q2), .second, .val (.int p3), .val (.int (p3 &&& (3 : Int32))), .val (.long (q1 &&& (2147483647 : Int64))), .second, .val (.long (q2 &&& (2147483647 : Int64))), .second, .unset, .unset] [(.long (f3 (q1 &&& (2147483647 : Int64)) (q2 &&& (2147483647 : Int64)))), (.long (f1 (q1 &&& (2147483647 : Int64)) (q2 &&& (2147483647 : Int64))))])) ?_ (fun t k => st2 t k)
      refine Gen.on (b := T2.setTop (mkF m 125 #[.val (.long q1), .second, .val (.long q2), .second, .val (.int p3), .val (.int (p3 &&& (3 : Int32))), .val (.long (q1 &&& (2147483647 : Int64))), .second, .val (.long (q2 &&& (2147483647 : Int64))), .second, .unset, .unset] [(.int (lcmpW (f1 (q1 &&& (2147483647 : Int64)) (q2 &&& (2147483647 : Int64))) (f3 (q1 &&& (2147483647 : Int64)) (q2 &&& (2147483647 : Int64)))))])) ?_ (fun t k => XS.lcmp X2.here hx rfl (hb hby at_124) rfl k)
      refine Gen.on (b := T2.setTop (mkF m 128 #[.val (.long q1), .second, .val (.long q2), .second, .val (.int p3), .val (.int (p3 &&& (3 : Int32))), .val (.long (q1 &&& (2147483647 : Int64))), .second, .val (.long (q2 &&& (2147483647 : Int64))), .second, .unset, .unset] [])) ?_ (fun t k => XS.ifNo X2.here hx rfl (hb hby at_125) rfl (own_eq1 (own_same _ _ (own_nn31 q1) (own_nn31 q2))).2 k)
      refine Gen.on (b := T2.setTop (mkF m 129 #[.val (.long q1), .second, .val (.long q2), .second, .val (.int p3), .val (.int (p3 &&& (3 : Int32))), .val (.long (q1 &&& (2147483647 : Int64))), .second, .val (.long (q2 &&& (2147483647 : Int64))), .second, .unset, .unset] [(.int (1 : Int32))])) ?_ (fun t k => XS.iconst X2.here hx rfl (hb hby at_128) k)
      refine Gen.on (b := T2.setTop (mkF m 133 #[.val (.long q1), .second, .val (.long q2), .second, .val (.int p3), .val (.int (p3 &&& (3 : Int32))), .val (.long (q1 &&& (2147483647 : Int64))), .second, .val (.long (q2 &&& (2147483647 : Int64))), .second, .unset, .unset] [(.int (1 : Int32))])) ?_ (fun t k => XS.goto X2.here hx rfl (pc0 := 129) (pc' := 133) rfl (hb hby at_129) (by decide) (by decide) k)
      refine own_retN (t := .boolean) X2 hx Bd.returns (by simp) (by decide) (hb hby at_133) (by decide) (by decide) ?_
      exact ⟨rfl, N2⟩
    · refine Gen.on (b := s₁.setTop (mkF m 98 #[.val (.long q1), .second, .val (.long q2), .second, .val (.int p3), .val (.int (p3 &&& (3 : Int32))), .val (.long (q1 &&& (2147483647 : Int64))), .second, .val (.long (q2 &&& (2147483647 : Int64))), .second, .unset, .unset] [])) ?_ (fun t k => XS.ifNo X0.here hx rfl (hb hby at_95) rfl ((if0 _ _).trans (feq c95_2).1) k)
      refine Gen.on (b := s₁.setTop (mkF m 100 #[.val (.long q1), .second, .val (.long q2), .second, .val (.int p3), .val (.int (p3 &&& (3 : Int32))), .val (.long (q1 &&& (2147483647 : Int64))), .second, .val (.long (q2 &&& (2147483647 : Int64))), .second, .unset, .unset] [(.long (q1 &&& (2147483647 : Int64)))])) ?_ (fun t k => XS.lload X0.here hx rfl (hb hby at_98) rfl k)
      refine Gen.on (b := s₁.setTop (mkF m 102 #[.val (.long q1), .second, .val (.long q2), .second, .val (.int p3), .val (.int (p3 &&& (3 : Int32))), .val (.long (q1 &&& (2147483647 : Int64))), .second, .val (.long (q2 &&& (2147483647 : Int64))), .second, .val (.long (q1 &&& (2147483647 : Int64))), .second] [])) ?_ (fun t k => XS.lstore X0.here hx rfl (hb hby at_100) rfl (l' := #[.val (.long q1), .second, .val (.long q2), .second, .val (.int p3), .val (.int (p3 &&& (3 : Int32))), .val (.long (q1 &&& (2147483647 : Int64))), .second, .val (.long (q2 &&& (2147483647 : Int64))), .second, .val (.long (q1 &&& (2147483647 : Int64))), .second]) rfl k)
      refine Gen.on (b := s₁.setTop (mkF m 104 #[.val (.long q1), .second, .val (.long q2), .second, .val (.int p3), .val (.int (p3 &&& (3 : Int32))), .val (.long (q1 &&& (2147483647 : Int64))), .second, .val (.long (q2 &&& (2147483647 : Int64))), .second, .val (.long (q1 &&& (2147483647 : Int64))), .second] [(.long (q2 &&& (2147483647 : Int64)))])) ?_ (fun t k => XS.lload X0.here hx rfl (hb hby at_102) rfl k)
      refine Gen.on (b := s₁.setTop (mkF m 106 #[.val (.long q1), .second, .val (.long q2), .second, .val (.int p3), .val (.int (p3 &&& (3 : Int32))), .val (.long (q2 &&& (2147483647 : Int64))), .second, .val (.long (q2 &&& (2147483647 : Int64))), .second, .val (.long (q1 &&& (2147483647 : Int64))), .second] [])) ?_ (fun t k => XS.lstore X0.here hx rfl (hb hby at_104) rfl (l' := #[.val (.long q1), .second, .val (.long q2), .second, .val (.int p3), .val (.int (p3 &&& (3 : Int32))), .val (.long (q2 &&& (2147483647 : Int64))), .second, .val (.long (q2 &&& (2147483647 : Int64))), .second, .val (.long (q1 &&& (2147483647 : Int64))), .second]) rfl k)
      refine Gen.on (b := s₁.setTop (mkF m 108 #[.val (.long q1), .second, .val (.long q2), .second, .val (.int p3), .val (.int (p3 &&& (3 : Int32))), .val (.long (q2 &&& (2147483647 : Int64))), .second, .val (.long (q2 &&& (2147483647 : Int64))), .second, .val (.long (q1 &&& (2147483647 : Int64))), .second] [(.long (q1 &&& (2147483647 : Int64)))])) ?_ (fun t k => XS.lload X0.here hx rfl (hb hby at_106) rfl k)
      refine Gen.on (b := s₁.setTop (mkF m 110 #[.val (.long q1), .second, .val (.long q2), .second, .val (.int p3), .val (.int (p3 &&& (3 : Int32))), .val (.long (q2 &&& (2147483647 : Int64))), .second, .val (.long (q1 &&& (2147483647 : Int64))), .second, .val (.long (q1 &&& (2147483647 : Int64))), .second] [])) ?_ (fun t k => XS.lstore X0.here hx rfl (hb hby at_108) rfl (l' := #[.val (.long q1), .second, .val (.long q2), .second, .val (.int p3), .val (.int (p3 &&& (3 : Int32))), .val (.long (q2 &&& (2147483647 : Int64))), .second, .val (.long (q1 &&& (2147483647 : Int64))), .second, .val (.long (q1 &&& (2147483647 : Int64))), .second]) rfl k)
      refine Gen.on (b := s₁.setTop (mkF m 112 #[.val (.long q1), .second, .val (.long q2), .second, .val (.int p3), .val (.int (p3 &&& (3 : Int32))), .val (.long (q2 &&& (2147483647 : Int64))), .second, .val (.long (q1 &&& (2147483647 : Int64))), .second, .val (.long (q1 &&& (2147483647 : Int64))), .second] [(.long (q2 &&& (2147483647 : Int64)))])) ?_ (fun t k => XS.lload X0.here hx rfl (hb hby at_110) rfl k)
      refine Gen.on (b := s₁.setTop (mkF m 114 #[.val (.long q1), .second, .val (.long q2), .second, .val (.int p3), .val (.int (p3 &&& (3 : Int32))), .val (.long (q2 &&& (2147483647 : Int64))), .second, .val (.long (q1 &&& (2147483647 : Int64))), .second, .val (.long (q1 &&& (2147483647 : Int64))), .second] [(.long (q1 &&& (2147483647 : Int64))), (.long (q2 &&& (2147483647 : Int64)))])) ?_ (fun t k => XS.lload X0.here hx rfl (hb hby at_112) rfl k)
      obtain ⟨_, _, ⟨T3, L3, k3, n3⟩, -, X3, ⟨Lc3, hQ3, l3, y3, z3⟩, st3⟩ := Jvm.LawKit.callS X0 hx (y := (⟨"com/example/streambed/streambed/stream/Demand", "product", "(JJ)J"⟩ : MethodName)) hown (mvT hZ (hw _ (List.mem_of_getElem? (i := 1) rfl))) (mvT hZ (hw _ (List.mem_of_getElem? (i := 2) rfl))) (mvT hZ (hw _ (List.mem_of_getElem? (i := 3) rfl))) (mvT hZ (hw _ (List.mem_of_getElem? (i := 4) rfl))) (by decide) (backOf (W := 0) (rm1 l Z a0 hw [] (q2 &&& (2147483647 : Int64)) (q1 &&& (2147483647 : Int64))  h0 n0 Z0 ) hZ (hw _ (List.mem_of_getElem? (i := 4) rfl)) (hw _ (List.mem_of_getElem? (i := 3) rfl)) (by decide) (by decide)) (g := (mkF m 114 #[.val (.long q1), .second, .val (.long q2), .second, .val (.int p3), .val (.int (p3 &&& (3 : Int32))), .val (.long (q2 &&& (2147483647 : Int64))), .second, .val (.long (q1 &&& (2147483647 : Int64))), .second, .val (.long (q1 &&& (2147483647 : Int64))), .second] [(.long (q1 &&& (2147483647 : Int64))), (.long (q2 &&& (2147483647 : Int64)))])) rfl (by rw [hml]; rfl) (argsL := [(.long (q2 &&& (2147483647 : Int64))), (.long (q1 &&& (2147483647 : Int64)))]) (rest := []) (lenOf pd_0_0 rfl) rfl (by show 2 * 0 + _ ≤ _; exact Nat.le_of_eq rfl) (hb hby at_114) (fun _ _ => ⟨rfl, e0, (by decide : 0 + 0 ≤ _), (by decide : 0 + 0 ≤ _)⟩)
      dsimp only [Pt.U, Pt.locs, Pt.cells, Pt.slots] at X3 l3 y3 z3 st3 hQ3
      subst l3 y3 z3
      obtain ⟨rfl, N3q, e3⟩ := hQ3
      have N3 := Fr.app N0 N3q
      refine Gen.on (b := T3.setTop (mkF m 117 #[.val (.long q1), .second, .val (.long q2), .second, .val (.int p3), .val (.int (p3 &&& (3 : Int32))), .val (.long (q2 &&& (2147483647 : Int64))), .second, .val (.long (q1 &&& (2147483647 : Int64))), .second, .val (.long (q1 &&& (2147483647 : Int64))), .second] [(.long (f1 (q2 &&& (2147483647 : Int64)) (q1 &&& (2147483647 : Int64))))])) ?_ (fun t k => st3 t k)
      refine Gen.on (b := T3.setTop (mkF m 119 #[.val (.long q1), .second, .val (.long q2), .second, .val (.int p3), .val (.int (p3 &&& (3 : Int32))), .val (.long (q2 &&& (2147483647 : Int64))), .second, .val (.long (q1 &&& (2147483647 : Int64))), .second, .val (.long (q1 &&& (2147483647 : Int64))), .second] [(.long (q2 &&& (2147483647 : Int64))), (.long (f1 (q2 &&& (2147483647 : Int64)) (q1 &&& (2147483647 : Int64))))])) ?_ (fun t k => XS.lload X3.here hx rfl (hb hby at_117) rfl k)
      refine Gen.on (b := T3.setTop (mkF m 121 #[.val (.long q1), .second, .val (.long q2), .second, .val (.int p3), .val (.int (p3 &&& (3 : Int32))), .val (.long (q2 &&& (2147483647 : Int64))), .second, .val (.long (q1 &&& (2147483647 : Int64))), .second, .val (.long (q1 &&& (2147483647 : Int64))), .second] [(.long (q1 &&& (2147483647 : Int64))), (.long (q2 &&& (2147483647 : Int64))), (.long (f1 (q2 &&& (2147483647 : Int64)) (q1 &&& (2147483647 : Int64))))])) ?_ (fun t k => XS.lload X3.here hx rfl (hb hby at_119) rfl k)
      obtain ⟨_, _, ⟨T4, L4, k4, n4⟩, -, X4, ⟨Lc4, hQ4, l4, y4, z4⟩, st4⟩ := Jvm.LawKit.callS X3 hx (y := (⟨"com/example/streambed/streambed/stream/DemandProductPinLaw", "ref", "(JJ)J"⟩ : MethodName)) hown (mvT hZ (hw _ (List.mem_of_getElem? (i := 10) rfl))) (mvT hZ (hw _ (List.mem_of_getElem? (i := 11) rfl))) (mvT hZ (hw _ (List.mem_of_getElem? (i := 12) rfl))) (mvT hZ (hw _ (List.mem_of_getElem? (i := 13) rfl))) (by decide) (backOf (W := 2) (rm3 l Z a0 hw [] (q2 &&& (2147483647 : Int64)) (q1 &&& (2147483647 : Int64))  h0 n0 Z0 ) hZ (hw _ (List.mem_of_getElem? (i := 13) rfl)) (hw _ (List.mem_of_getElem? (i := 12) rfl)) (by decide) (by decide)) (g := (mkF m 121 #[.val (.long q1), .second, .val (.long q2), .second, .val (.int p3), .val (.int (p3 &&& (3 : Int32))), .val (.long (q2 &&& (2147483647 : Int64))), .second, .val (.long (q1 &&& (2147483647 : Int64))), .second, .val (.long (q1 &&& (2147483647 : Int64))), .second] [(.long (q1 &&& (2147483647 : Int64))), (.long (q2 &&& (2147483647 : Int64))), (.long (f1 (q2 &&& (2147483647 : Int64)) (q1 &&& (2147483647 : Int64))))])) rfl (by rw [hml]; rfl) (argsL := [(.long (q2 &&& (2147483647 : Int64))), (.long (q1 &&& (2147483647 : Int64)))]) (rest := [(.long (f1 (q2 &&& (2147483647 : Int64)) (q1 &&& (2147483647 : Int64))))]) (lenOf pd_0_0 rfl) rfl (by show 2 * 0 + _ ≤ _; exact Nat.le_of_eq rfl) (hb hby at_121) (fun _ _ => ⟨rfl, e3, (by decide : 0 + 0 ≤ _), (by decide : 0 + 0 ≤ _)⟩)
      dsimp only [Pt.U, Pt.locs, Pt.cells, Pt.slots] at X4 l4 y4 z4 st4 hQ4
      subst l4 y4 z4
      obtain ⟨rfl, N4q, e4⟩ := hQ4
      have N4 := Fr.app N3 N4q
      refine Gen.on (b := T4.setTop (mkF m 124 #[.val (.long q1), .second, .val (.long q2), .second, .val (.int p3), .val (.int (p3 &&& (3 : Int32))), .val (.long (q2 &&& (2147483647 : Int64))), .second, .val (.long (q1 &&& (2147483647 : Int64))), .second, .val (.long (q1 &&& (2147483647 : Int64))), .second] [(.long (f3 (q2 &&& (2147483647 : Int64)) (q1 &&& (2147483647 : Int64)))), (.long (f1 (q2 &&& (2147483647 : Int64)) (q1 &&& (2147483647 : Int64))))])) ?_ (fun t k => st4 t k)
      refine Gen.on (b := T4.setTop (mkF m 125 #[.val (.long q1), .second, .val (.long q2), .second, .val (.int p3), .val (.int (p3 &&& (3 : Int32))), .val (.long (q2 &&& (2147483647 : Int64))), .second, .val (.long (q1 &&& (2147483647 : Int64))), .second, .val (.long (q1 &&& (2147483647 : Int64))), .second] [(.int (lcmpW (f1 (q2 &&& (2147483647 : Int64)) (q1 &&& (2147483647 : Int64))) (f3 (q2 &&& (2147483647 : Int64)) (q1 &&& (2147483647 : Int64)))))])) ?_ (fun t k => XS.lcmp X4.here hx rfl (hb hby at_124) rfl k)
      refine Gen.on (b := T4.setTop (mkF m 128 #[.val (.long q1), .second, .val (.long q2), .second, .val (.int p3), .val (.int (p3 &&& (3 : Int32))), .val (.long (q2 &&& (2147483647 : Int64))), .second, .val (.long (q1 &&& (2147483647 : Int64))), .second, .val (.long (q1 &&& (2147483647 : Int64))), .second] [])) ?_ (fun t k => XS.ifNo X4.here hx rfl (hb hby at_125) rfl (own_eq1 (own_same _ _ (own_nn31 q2) (own_nn31 q1))).2 k)
      refine Gen.on (b := T4.setTop (mkF m 129 #[.val (.long q1), .second, .val (.long q2), .second, .val (.int p3), .val (.int (p3 &&& (3 : Int32))), .val (.long (q2 &&& (2147483647 : Int64))), .second, .val (.long (q1 &&& (2147483647 : Int64))), .second, .val (.long (q1 &&& (2147483647 : Int64))), .second] [(.int (1 : Int32))])) ?_ (fun t k => XS.iconst X4.here hx rfl (hb hby at_128) k)
      refine Gen.on (b := T4.setTop (mkF m 133 #[.val (.long q1), .second, .val (.long q2), .second, .val (.int p3), .val (.int (p3 &&& (3 : Int32))), .val (.long (q2 &&& (2147483647 : Int64))), .second, .val (.long (q1 &&& (2147483647 : Int64))), .second, .val (.long (q1 &&& (2147483647 : Int64))), .second] [(.int (1 : Int32))])) ?_ (fun t k => XS.goto X4.here hx rfl (pc0 := 129) (pc' := 133) rfl (hb hby at_129) (by decide) (by decide) k)
      refine own_retN (t := .boolean) X4 hx Bd.returns (by simp) (by decide) (hb hby at_133) (by decide) (by decide) ?_
      exact ⟨rfl, N4⟩
  · refine Gen.on (b := s₁.setTop (mkF m 29 #[.val (.long q1), .second, .val (.long q2), .second, .val (.int p3), .val (.int (p3 &&& (3 : Int32))), .unset, .unset, .unset, .unset, .unset, .unset] [])) ?_ (fun t k => XS.icmpYes X0.here hx rfl (pc0 := 9) (pc' := 29) rfl (hb hby at_9) rfl (feq c9_1).2 (by decide) (by decide) k)
    refine Gen.on (b := s₁.setTop (mkF m 31 #[.val (.long q1), .second, .val (.long q2), .second, .val (.int p3), .val (.int (p3 &&& (3 : Int32))), .unset, .unset, .unset, .unset, .unset, .unset] [(.int (p3 &&& (3 : Int32)))])) ?_ (fun t k => XS.iload X0.here hx rfl (hb hby at_29) rfl k)
    refine Gen.on (b := s₁.setTop (mkF m 32 #[.val (.long q1), .second, .val (.long q2), .second, .val (.int p3), .val (.int (p3 &&& (3 : Int32))), .unset, .unset, .unset, .unset, .unset, .unset] [(.int (2 : Int32)), (.int (p3 &&& (3 : Int32)))])) ?_ (fun t k => XS.iconst X0.here hx rfl (hb hby at_31) k)
    by_cases c32_3 : (p3 &&& (3 : Int32)) = (2 : Int32)
    · refine Gen.on (b := s₁.setTop (mkF m 35 #[.val (.long q1), .second, .val (.long q2), .second, .val (.int p3), .val (.int (p3 &&& (3 : Int32))), .unset, .unset, .unset, .unset, .unset, .unset] [])) ?_ (fun t k => XS.icmpNo X0.here hx rfl (hb hby at_32) rfl (teq c32_3).2 k)
      refine Gen.on (b := s₁.setTop (mkF m 36 #[.val (.long q1), .second, .val (.long q2), .second, .val (.int p3), .val (.int (p3 &&& (3 : Int32))), .unset, .unset, .unset, .unset, .unset, .unset] [(.long q2)])) ?_ (fun t k => XS.lloadN X0.here hx rfl (hb hby at_35) rfl k)
      refine Gen.on (b := s₁.setTop (mkF m 39 #[.val (.long q1), .second, .val (.long q2), .second, .val (.int p3), .val (.int (p3 &&& (3 : Int32))), .unset, .unset, .unset, .unset, .unset, .unset] [(.long (9223372036854775807 : Int64)), (.long q2)])) ?_ (fun t k => X0.ldc2Long hx hown (mvT hZ (hw _ (List.mem_of_getElem? (i := 0) rfl))) (g := (mkF m 36 #[.val (.long q1), .second, .val (.long q2), .second, .val (.int p3), .val (.int (p3 &&& (3 : Int32))), .unset, .unset, .unset, .unset, .unset, .unset] [(.long q2)])) rfl (hb hby at_36) t k)
      refine Gen.on (b := s₁.setTop (mkF m 40 #[.val (.long q1), .second, .val (.long q2), .second, .val (.int p3), .val (.int (p3 &&& (3 : Int32))), .unset, .unset, .unset, .unset, .unset, .unset] [(.long (q2 &&& (9223372036854775807 : Int64)))])) ?_ (fun t k => XS.land X0.here hx rfl (hb hby at_39) rfl k)
      refine Gen.on (b := s₁.setTop (mkF m 42 #[.val (.long q1), .second, .val (.long q2), .second, .val (.int p3), .val (.int (p3 &&& (3 : Int32))), .unset, .unset, .val (.long (q2 &&& (9223372036854775807 : Int64))), .second, .unset, .unset] [])) ?_ (fun t k => XS.lstore X0.here hx rfl (hb hby at_40) rfl (l' := #[.val (.long q1), .second, .val (.long q2), .second, .val (.int p3), .val (.int (p3 &&& (3 : Int32))), .unset, .unset, .val (.long (q2 &&& (9223372036854775807 : Int64))), .second, .unset, .unset]) rfl k)
      refine Gen.on (b := s₁.setTop (mkF m 43 #[.val (.long q1), .second, .val (.long q2), .second, .val (.int p3), .val (.int (p3 &&& (3 : Int32))), .unset, .unset, .val (.long (q2 &&& (9223372036854775807 : Int64))), .second, .unset, .unset] [(.long q1)])) ?_ (fun t k => XS.lloadN X0.here hx rfl (hb hby at_42) rfl k)
      refine Gen.on (b := s₁.setTop (mkF m 45 #[.val (.long q1), .second, .val (.long q2), .second, .val (.int p3), .val (.int (p3 &&& (3 : Int32))), .unset, .unset, .val (.long (q2 &&& (9223372036854775807 : Int64))), .second, .unset, .unset] [(.long (q2 &&& (9223372036854775807 : Int64))), (.long q1)])) ?_ (fun t k => XS.lload X0.here hx rfl (hb hby at_43) rfl k)
      obtain ⟨_, _, ⟨T5, L5, k5, n5⟩, -, X5, ⟨Lc5, hQ5, l5, y5, z5⟩, st5⟩ := Jvm.LawKit.callS X0 hx (y := (⟨"com/example/streambed/streambed/stream/DemandProductPinLaw", "near", "(JJ)J"⟩ : MethodName)) hown (mvT hZ (hw _ (List.mem_of_getElem? (i := 15) rfl))) (mvT hZ (hw _ (List.mem_of_getElem? (i := 16) rfl))) (mvT hZ (hw _ (List.mem_of_getElem? (i := 12) rfl))) (mvT hZ (hw _ (List.mem_of_getElem? (i := 17) rfl))) (by decide) (backOf (W := 0) (rm4 l Z a0 hw [] q1 (q2 &&& (9223372036854775807 : Int64))  h0 n0 Z0 ) hZ (hw _ (List.mem_of_getElem? (i := 17) rfl)) (hw _ (List.mem_of_getElem? (i := 12) rfl)) (by decide) (by decide)) (g := (mkF m 45 #[.val (.long q1), .second, .val (.long q2), .second, .val (.int p3), .val (.int (p3 &&& (3 : Int32))), .unset, .unset, .val (.long (q2 &&& (9223372036854775807 : Int64))), .second, .unset, .unset] [(.long (q2 &&& (9223372036854775807 : Int64))), (.long q1)])) rfl (by rw [hml]; rfl) (argsL := [(.long q1), (.long (q2 &&& (9223372036854775807 : Int64)))]) (rest := []) (lenOf pd_0_0 rfl) rfl (by show 2 * 0 + _ ≤ _; exact Nat.le_of_eq rfl) (hb hby at_45) (fun _ _ => ⟨rfl, e0, (by decide : 0 + 0 ≤ _), (by decide : 0 + 0 ≤ _)⟩)
      dsimp only [Pt.U, Pt.locs, Pt.cells, Pt.slots] at X5 l5 y5 z5 st5 hQ5
      subst l5 y5 z5
      obtain ⟨rfl, N5q, e5⟩ := hQ5
      have N5 := Fr.app N0 N5q
      refine Gen.on (b := T5.setTop (mkF m 48 #[.val (.long q1), .second, .val (.long q2), .second, .val (.int p3), .val (.int (p3 &&& (3 : Int32))), .unset, .unset, .val (.long (q2 &&& (9223372036854775807 : Int64))), .second, .unset, .unset] [(.long (f4 q1 (q2 &&& (9223372036854775807 : Int64))))])) ?_ (fun t k => st5 t k)
      refine Gen.on (b := T5.setTop (mkF m 50 #[.val (.long q1), .second, .val (.long q2), .second, .val (.int p3), .val (.int (p3 &&& (3 : Int32))), .val (.long (f4 q1 (q2 &&& (9223372036854775807 : Int64)))), .second, .val (.long (q2 &&& (9223372036854775807 : Int64))), .second, .unset, .unset] [])) ?_ (fun t k => XS.lstore X5.here hx rfl (hb hby at_48) rfl (l' := #[.val (.long q1), .second, .val (.long q2), .second, .val (.int p3), .val (.int (p3 &&& (3 : Int32))), .val (.long (f4 q1 (q2 &&& (9223372036854775807 : Int64)))), .second, .val (.long (q2 &&& (9223372036854775807 : Int64))), .second, .unset, .unset]) rfl k)
      refine Gen.on (b := T5.setTop (mkF m 91 #[.val (.long q1), .second, .val (.long q2), .second, .val (.int p3), .val (.int (p3 &&& (3 : Int32))), .val (.long (f4 q1 (q2 &&& (9223372036854775807 : Int64)))), .second, .val (.long (q2 &&& (9223372036854775807 : Int64))), .second, .unset, .unset] [])) ?_ (fun t k => XS.goto X5.here hx rfl (pc0 := 50) (pc' := 91) rfl (hb hby at_50) (by decide) (by decide) k)
      refine Gen.on (b := T5.setTop (mkF m 93 #[.val (.long q1), .second, .val (.long q2), .second, .val (.int p3), .val (.int (p3 &&& (3 : Int32))), .val (.long (f4 q1 (q2 &&& (9223372036854775807 : Int64)))), .second, .val (.long (q2 &&& (9223372036854775807 : Int64))), .second, .unset, .unset] [(.int p3)])) ?_ (fun t k => XS.iload X5.here hx rfl (hb hby at_91) rfl k)
      refine Gen.on (b := T5.setTop (mkF m 94 #[.val (.long q1), .second, .val (.long q2), .second, .val (.int p3), .val (.int (p3 &&& (3 : Int32))), .val (.long (f4 q1 (q2 &&& (9223372036854775807 : Int64)))), .second, .val (.long (q2 &&& (9223372036854775807 : Int64))), .second, .unset, .unset] [(.int (4 : Int32)), (.int p3)])) ?_ (fun t k => XS.iconst X5.here hx rfl (hb hby at_93) k)
      refine Gen.on (b := T5.setTop (mkF m 95 #[.val (.long q1), .second, .val (.long q2), .second, .val (.int p3), .val (.int (p3 &&& (3 : Int32))), .val (.long (f4 q1 (q2 &&& (9223372036854775807 : Int64)))), .second, .val (.long (q2 &&& (9223372036854775807 : Int64))), .second, .unset, .unset] [(.int (p3 &&& (4 : Int32)))])) ?_ (fun t k => XS.iand X5.here hx rfl (hb hby at_94) rfl k)
      by_cases c95_4 : (p3 &&& (4 : Int32)) = (0 : Int32)
      · refine Gen.on (b := T5.setTop (mkF m 110 #[.val (.long q1), .second, .val (.long q2), .second, .val (.int p3), .val (.int (p3 &&& (3 : Int32))), .val (.long (f4 q1 (q2 &&& (9223372036854775807 : Int64)))), .second, .val (.long (q2 &&& (9223372036854775807 : Int64))), .second, .unset, .unset] [])) ?_ (fun t k => XS.ifYes X5.here hx rfl (pc0 := 95) (pc' := 110) rfl (hb hby at_95) rfl ((if0 _ _).trans (teq c95_4).1) (by decide) (by decide) k)
        refine Gen.on (b := T5.setTop (mkF m 112 #[.val (.long q1), .second, .val (.long q2), .second, .val (.int p3), .val (.int (p3 &&& (3 : Int32))), .val (.long (f4 q1 (q2 &&& (9223372036854775807 : Int64)))), .second, .val (.long (q2 &&& (9223372036854775807 : Int64))), .second, .unset, .unset] [(.long (f4 q1 (q2 &&& (9223372036854775807 : Int64))))])) ?_ (fun t k => XS.lload X5.here hx rfl (hb hby at_110) rfl k)
        refine Gen.on (b := T5.setTop (mkF m 114 #[.val (.long q1), .second, .val (.long q2), .second, .val (.int p3), .val (.int (p3 &&& (3 : Int32))), .val (.long (f4 q1 (q2 &&& (9223372036854775807 : Int64)))), .second, .val (.long (q2 &&& (9223372036854775807 : Int64))), .second, .unset, .unset] [(.long (q2 &&& (9223372036854775807 : Int64))), (.long (f4 q1 (q2 &&& (9223372036854775807 : Int64))))])) ?_ (fun t k => XS.lload X5.here hx rfl (hb hby at_112) rfl k)
        obtain ⟨_, _, ⟨T6, L6, k6, n6⟩, -, X6, ⟨Lc6, hQ6, l6, y6, z6⟩, st6⟩ := Jvm.LawKit.callS X5 hx (y := (⟨"com/example/streambed/streambed/stream/Demand", "product", "(JJ)J"⟩ : MethodName)) hown (mvT hZ (hw _ (List.mem_of_getElem? (i := 1) rfl))) (mvT hZ (hw _ (List.mem_of_getElem? (i := 2) rfl))) (mvT hZ (hw _ (List.mem_of_getElem? (i := 3) rfl))) (mvT hZ (hw _ (List.mem_of_getElem? (i := 4) rfl))) (by decide) (backOf (W := 0) (rm1 l Z a0 hw [] (f4 q1 (q2 &&& (9223372036854775807 : Int64))) (q2 &&& (9223372036854775807 : Int64))  h0 n0 Z0 ) hZ (hw _ (List.mem_of_getElem? (i := 4) rfl)) (hw _ (List.mem_of_getElem? (i := 3) rfl)) (by decide) (by decide)) (g := (mkF m 114 #[.val (.long q1), .second, .val (.long q2), .second, .val (.int p3), .val (.int (p3 &&& (3 : Int32))), .val (.long (f4 q1 (q2 &&& (9223372036854775807 : Int64)))), .second, .val (.long (q2 &&& (9223372036854775807 : Int64))), .second, .unset, .unset] [(.long (q2 &&& (9223372036854775807 : Int64))), (.long (f4 q1 (q2 &&& (9223372036854775807 : Int64))))])) rfl (by rw [hml]; rfl) (argsL := [(.long (f4 q1 (q2 &&& (9223372036854775807 : Int64)))), (.long (q2 &&& (9223372036854775807 : Int64)))]) (rest := []) (lenOf pd_0_0 rfl) rfl (by show 2 * 0 + _ ≤ _; exact Nat.le_of_eq rfl) (hb hby at_114) (fun _ _ => ⟨rfl, e5, (by decide : 0 + 0 ≤ _), (by decide : 0 + 0 ≤ _)⟩)
        dsimp only [Pt.U, Pt.locs, Pt.cells, Pt.slots] at X6 l6 y6 z6 st6 hQ6
        subst l6 y6 z6
        obtain ⟨rfl, N6q, e6⟩ := hQ6
        have N6 := Fr.app N5 N6q
        refine Gen.on (b := T6.setTop (mkF m 117 #[.val (.long q1), .second, .val (.long q2), .second, .val (.int p3), .val (.int (p3 &&& (3 : Int32))), .val (.long (f4 q1 (q2 &&& (9223372036854775807 : Int64)))), .second, .val (.long (q2 &&& (9223372036854775807 : Int64))), .second, .unset, .unset] [(.long (f1 (f4 q1 (q2 &&& (9223372036854775807 : Int64))) (q2 &&& (9223372036854775807 : Int64))))])) ?_ (fun t k => st6 t k)
        refine Gen.on (b := T6.setTop (mkF m 119 #[.val (.long q1), .second, .val (.long q2), .second, .val (.int p3), .val (.int (p3 &&& (3 : Int32))), .val (.long (f4 q1 (q2 &&& (9223372036854775807 : Int64)))), .second, .val (.long (q2 &&& (9223372036854775807 : Int64))), .second, .unset, .unset] [(.long (f4 q1 (q2 &&& (9223372036854775807 : Int64)))), (.long (f1 (f4 q1 (q2 &&& (9223372036854775807 : Int64))) (q2 &&& (9223372036854775807 : Int64))))])) ?_ (fun t k => XS.lload X6.here hx rfl (hb hby at_117) rfl k)
        refine Gen.on (b := T6.setTop (mkF m 121 #[.val (.long q1), .second, .val (.long q2), .second, .val (.int p3), .val (.int (p3 &&& (3 : Int32))), .val (.long (f4 q1 (q2 &&& (9223372036854775807 : Int64)))), .second, .val (.long (q2 &&& (9223372036854775807 : Int64))), .second, .unset, .unset] [(.long (q2 &&& (9223372036854775807 : Int64))), (.long (f4 q1 (q2 &&& (9223372036854775807 : Int64)))), (.long (f1 (f4 q1 (q2 &&& (9223372036854775807 : Int64))) (q2 &&& (9223372036854775807 : Int64))))])) ?_ (fun t k => XS.lload X6.here hx rfl (hb hby at_119) rfl k)
        obtain ⟨_, _, ⟨T7, L7, k7, n7⟩, -, X7, ⟨Lc7, hQ7, l7, y7, z7⟩, st7⟩ := Jvm.LawKit.callS X6 hx (y := (⟨"com/example/streambed/streambed/stream/DemandProductPinLaw", "ref", "(JJ)J"⟩ : MethodName)) hown (mvT hZ (hw _ (List.mem_of_getElem? (i := 10) rfl))) (mvT hZ (hw _ (List.mem_of_getElem? (i := 11) rfl))) (mvT hZ (hw _ (List.mem_of_getElem? (i := 12) rfl))) (mvT hZ (hw _ (List.mem_of_getElem? (i := 13) rfl))) (by decide) (backOf (W := 2) (rm3 l Z a0 hw [] (f4 q1 (q2 &&& (9223372036854775807 : Int64))) (q2 &&& (9223372036854775807 : Int64))  h0 n0 Z0 ) hZ (hw _ (List.mem_of_getElem? (i := 13) rfl)) (hw _ (List.mem_of_getElem? (i := 12) rfl)) (by decide) (by decide)) (g := (mkF m 121 #[.val (.long q1), .second, .val (.long q2), .second, .val (.int p3), .val (.int (p3 &&& (3 : Int32))), .val (.long (f4 q1 (q2 &&& (9223372036854775807 : Int64)))), .second, .val (.long (q2 &&& (9223372036854775807 : Int64))), .second, .unset, .unset] [(.long (q2 &&& (9223372036854775807 : Int64))), (.long (f4 q1 (q2 &&& (9223372036854775807 : Int64)))), (.long (f1 (f4 q1 (q2 &&& (9223372036854775807 : Int64))) (q2 &&& (9223372036854775807 : Int64))))])) rfl (by rw [hml]; rfl) (argsL := [(.long (f4 q1 (q2 &&& (9223372036854775807 : Int64)))), (.long (q2 &&& (9223372036854775807 : Int64)))]) (rest := [(.long (f1 (f4 q1 (q2 &&& (9223372036854775807 : Int64))) (q2 &&& (9223372036854775807 : Int64))))]) (lenOf pd_0_0 rfl) rfl (by show 2 * 0 + _ ≤ _; exact Nat.le_of_eq rfl) (hb hby at_121) (fun _ _ => ⟨rfl, e6, (by decide : 0 + 0 ≤ _), (by decide : 0 + 0 ≤ _)⟩)
        dsimp only [Pt.U, Pt.locs, Pt.cells, Pt.slots] at X7 l7 y7 z7 st7 hQ7
        subst l7 y7 z7
        obtain ⟨rfl, N7q, e7⟩ := hQ7
        have N7 := Fr.app N6 N7q
        refine Gen.on (b := T7.setTop (mkF m 124 #[.val (.long q1), .second, .val (.long q2), .second, .val (.int p3), .val (.int (p3 &&& (3 : Int32))), .val (.long (f4 q1 (q2 &&& (9223372036854775807 : Int64)))), .second, .val (.long (q2 &&& (9223372036854775807 : Int64))), .second, .unset, .unset] [(.long (f3 (f4 q1 (q2 &&& (9223372036854775807 : Int64))) (q2 &&& (9223372036854775807 : Int64)))), (.long (f1 (f4 q1 (q2 &&& (9223372036854775807 : Int64))) (q2 &&& (9223372036854775807 : Int64))))])) ?_ (fun t k => st7 t k)
        refine Gen.on (b := T7.setTop (mkF m 125 #[.val (.long q1), .second, .val (.long q2), .second, .val (.int p3), .val (.int (p3 &&& (3 : Int32))), .val (.long (f4 q1 (q2 &&& (9223372036854775807 : Int64)))), .second, .val (.long (q2 &&& (9223372036854775807 : Int64))), .second, .unset, .unset] [(.int (lcmpW (f1 (f4 q1 (q2 &&& (9223372036854775807 : Int64))) (q2 &&& (9223372036854775807 : Int64))) (f3 (f4 q1 (q2 &&& (9223372036854775807 : Int64))) (q2 &&& (9223372036854775807 : Int64)))))])) ?_ (fun t k => XS.lcmp X7.here hx rfl (hb hby at_124) rfl k)
        refine Gen.on (b := T7.setTop (mkF m 128 #[.val (.long q1), .second, .val (.long q2), .second, .val (.int p3), .val (.int (p3 &&& (3 : Int32))), .val (.long (f4 q1 (q2 &&& (9223372036854775807 : Int64)))), .second, .val (.long (q2 &&& (9223372036854775807 : Int64))), .second, .unset, .unset] [])) ?_ (fun t k => XS.ifNo X7.here hx rfl (hb hby at_125) rfl (own_eq1 (own_same _ _ (own_near _ _) (own_nn q2))).2 k)
        refine Gen.on (b := T7.setTop (mkF m 129 #[.val (.long q1), .second, .val (.long q2), .second, .val (.int p3), .val (.int (p3 &&& (3 : Int32))), .val (.long (f4 q1 (q2 &&& (9223372036854775807 : Int64)))), .second, .val (.long (q2 &&& (9223372036854775807 : Int64))), .second, .unset, .unset] [(.int (1 : Int32))])) ?_ (fun t k => XS.iconst X7.here hx rfl (hb hby at_128) k)
        refine Gen.on (b := T7.setTop (mkF m 133 #[.val (.long q1), .second, .val (.long q2), .second, .val (.int p3), .val (.int (p3 &&& (3 : Int32))), .val (.long (f4 q1 (q2 &&& (9223372036854775807 : Int64)))), .second, .val (.long (q2 &&& (9223372036854775807 : Int64))), .second, .unset, .unset] [(.int (1 : Int32))])) ?_ (fun t k => XS.goto X7.here hx rfl (pc0 := 129) (pc' := 133) rfl (hb hby at_129) (by decide) (by decide) k)
        refine own_retN (t := .boolean) X7 hx Bd.returns (by simp) (by decide) (hb hby at_133) (by decide) (by decide) ?_
        exact ⟨rfl, N7⟩
      · refine Gen.on (b := T5.setTop (mkF m 98 #[.val (.long q1), .second, .val (.long q2), .second, .val (.int p3), .val (.int (p3 &&& (3 : Int32))), .val (.long (f4 q1 (q2 &&& (9223372036854775807 : Int64)))), .second, .val (.long (q2 &&& (9223372036854775807 : Int64))), .second, .unset, .unset] [])) ?_ (fun t k => XS.ifNo X5.here hx rfl (hb hby at_95) rfl ((if0 _ _).trans (feq c95_4).1) k)
        refine Gen.on (b := T5.setTop (mkF m 100 #[.val (.long q1), .second, .val (.long q2), .second, .val (.int p3), .val (.int (p3 &&& (3 : Int32))), .val (.long (f4 q1 (q2 &&& (9223372036854775807 : Int64)))), .second, .val (.long (q2 &&& (9223372036854775807 : Int64))), .second, .unset, .unset] [(.long (f4 q1 (q2 &&& (9223372036854775807 : Int64))))])) ?_ (fun t k => XS.lload X5.here hx rfl (hb hby at_98) rfl k)
        refine Gen.on (b := T5.setTop (mkF m 102 #[.val (.long q1), .second, .val (.long q2), .second, .val (.int p3), .val (.int (p3 &&& (3 : Int32))), .val (.long (f4 q1 (q2 &&& (9223372036854775807 : Int64)))), .second, .val (.long (q2 &&& (9223372036854775807 : Int64))), .second, .val (.long (f4 q1 (q2 &&& (9223372036854775807 : Int64)))), .second] [])) ?_ (fun t k => XS.lstore X5.here hx rfl (hb hby at_100) rfl (l' := #[.val (.long q1), .second, .val (.long q2), .second, .val (.int p3), .val (.int (p3 &&& (3 : Int32))), .val (.long (f4 q1 (q2 &&& (9223372036854775807 : Int64)))), .second, .val (.long (q2 &&& (9223372036854775807 : Int64))), .second, .val (.long (f4 q1 (q2 &&& (9223372036854775807 : Int64)))), .second]) rfl k)
        refine Gen.on (b := T5.setTop (mkF m 104 #[.val (.long q1), .second, .val (.long q2), .second, .val (.int p3), .val (.int (p3 &&& (3 : Int32))), .val (.long (f4 q1 (q2 &&& (9223372036854775807 : Int64)))), .second, .val (.long (q2 &&& (9223372036854775807 : Int64))), .second, .val (.long (f4 q1 (q2 &&& (9223372036854775807 : Int64)))), .second] [(.long (q2 &&& (9223372036854775807 : Int64)))])) ?_ (fun t k => XS.lload X5.here hx rfl (hb hby at_102) rfl k)
        refine Gen.on (b := T5.setTop (mkF m 106 #[.val (.long q1), .second, .val (.long q2), .second, .val (.int p3), .val (.int (p3 &&& (3 : Int32))), .val (.long (q2 &&& (9223372036854775807 : Int64))), .second, .val (.long (q2 &&& (9223372036854775807 : Int64))), .second, .val (.long (f4 q1 (q2 &&& (9223372036854775807 : Int64)))), .second] [])) ?_ (fun t k => XS.lstore X5.here hx rfl (hb hby at_104) rfl (l' := #[.val (.long q1), .second, .val (.long q2), .second, .val (.int p3), .val (.int (p3 &&& (3 : Int32))), .val (.long (q2 &&& (9223372036854775807 : Int64))), .second, .val (.long (q2 &&& (9223372036854775807 : Int64))), .second, .val (.long (f4 q1 (q2 &&& (9223372036854775807 : Int64)))), .second]) rfl k)
        refine Gen.on (b := T5.setTop (mkF m 108 #[.val (.long q1), .second, .val (.long q2), .second, .val (.int p3), .val (.int (p3 &&& (3 : Int32))), .val (.long (q2 &&& (9223372036854775807 : Int64))), .second, .val (.long (q2 &&& (9223372036854775807 : Int64))), .second, .val (.long (f4 q1 (q2 &&& (9223372036854775807 : Int64)))), .second] [(.long (f4 q1 (q2 &&& (9223372036854775807 : Int64))))])) ?_ (fun t k => XS.lload X5.here hx rfl (hb hby at_106) rfl k)
        refine Gen.on (b := T5.setTop (mkF m 110 #[.val (.long q1), .second, .val (.long q2), .second, .val (.int p3), .val (.int (p3 &&& (3 : Int32))), .val (.long (q2 &&& (9223372036854775807 : Int64))), .second, .val (.long (f4 q1 (q2 &&& (9223372036854775807 : Int64)))), .second, .val (.long (f4 q1 (q2 &&& (9223372036854775807 : Int64)))), .second] [])) ?_ (fun t k => XS.lstore X5.here hx rfl (hb hby at_108) rfl (l' := #[.val (.long q1), .second, .val (.long q2), .second, .val (.int p3), .val (.int (p3 &&& (3 : Int32))), .val (.long (q2 &&& (9223372036854775807 : Int64))), .second, .val (.long (f4 q1 (q2 &&& (9223372036854775807 : Int64)))), .second, .val (.long (f4 q1 (q2 &&& (9223372036854775807 : Int64)))), .second]) rfl k)
        refine Gen.on (b := T5.setTop (mkF m 112 #[.val (.long q1), .second, .val (.long q2), .second, .val (.int p3), .val (.int (p3 &&& (3 : Int32))), .val (.long (q2 &&& (9223372036854775807 : Int64))), .second, .val (.long (f4 q1 (q2 &&& (9223372036854775807 : Int64)))), .second, .val (.long (f4 q1 (q2 &&& (9223372036854775807 : Int64)))), .second] [(.long (q2 &&& (9223372036854775807 : Int64)))])) ?_ (fun t k => XS.lload X5.here hx rfl (hb hby at_110) rfl k)
        refine Gen.on (b := T5.setTop (mkF m 114 #[.val (.long q1), .second, .val (.long q2), .second, .val (.int p3), .val (.int (p3 &&& (3 : Int32))), .val (.long (q2 &&& (9223372036854775807 : Int64))), .second, .val (.long (f4 q1 (q2 &&& (9223372036854775807 : Int64)))), .second, .val (.long (f4 q1 (q2 &&& (9223372036854775807 : Int64)))), .second] [(.long (f4 q1 (q2 &&& (9223372036854775807 : Int64)))), (.long (q2 &&& (9223372036854775807 : Int64)))])) ?_ (fun t k => XS.lload X5.here hx rfl (hb hby at_112) rfl k)
        obtain ⟨_, _, ⟨T8, L8, k8, n8⟩, -, X8, ⟨Lc8, hQ8, l8, y8, z8⟩, st8⟩ := Jvm.LawKit.callS X5 hx (y := (⟨"com/example/streambed/streambed/stream/Demand", "product", "(JJ)J"⟩ : MethodName)) hown (mvT hZ (hw _ (List.mem_of_getElem? (i := 1) rfl))) (mvT hZ (hw _ (List.mem_of_getElem? (i := 2) rfl))) (mvT hZ (hw _ (List.mem_of_getElem? (i := 3) rfl))) (mvT hZ (hw _ (List.mem_of_getElem? (i := 4) rfl))) (by decide) (backOf (W := 0) (rm1 l Z a0 hw [] (q2 &&& (9223372036854775807 : Int64)) (f4 q1 (q2 &&& (9223372036854775807 : Int64)))  h0 n0 Z0 ) hZ (hw _ (List.mem_of_getElem? (i := 4) rfl)) (hw _ (List.mem_of_getElem? (i := 3) rfl)) (by decide) (by decide)) (g := (mkF m 114 #[.val (.long q1), .second, .val (.long q2), .second, .val (.int p3), .val (.int (p3 &&& (3 : Int32))), .val (.long (q2 &&& (9223372036854775807 : Int64))), .second, .val (.long (f4 q1 (q2 &&& (9223372036854775807 : Int64)))), .second, .val (.long (f4 q1 (q2 &&& (9223372036854775807 : Int64)))), .second] [(.long (f4 q1 (q2 &&& (9223372036854775807 : Int64)))), (.long (q2 &&& (9223372036854775807 : Int64)))])) rfl (by rw [hml]; rfl) (argsL := [(.long (q2 &&& (9223372036854775807 : Int64))), (.long (f4 q1 (q2 &&& (9223372036854775807 : Int64))))]) (rest := []) (lenOf pd_0_0 rfl) rfl (by show 2 * 0 + _ ≤ _; exact Nat.le_of_eq rfl) (hb hby at_114) (fun _ _ => ⟨rfl, e5, (by decide : 0 + 0 ≤ _), (by decide : 0 + 0 ≤ _)⟩)
        dsimp only [Pt.U, Pt.locs, Pt.cells, Pt.slots] at X8 l8 y8 z8 st8 hQ8
        subst l8 y8 z8
        obtain ⟨rfl, N8q, e8⟩ := hQ8
        have N8 := Fr.app N5 N8q
        refine Gen.on (b := T8.setTop (mkF m 117 #[.val (.long q1), .second, .val (.long q2), .second, .val (.int p3), .val (.int (p3 &&& (3 : Int32))), .val (.long (q2 &&& (9223372036854775807 : Int64))), .second, .val (.long (f4 q1 (q2 &&& (9223372036854775807 : Int64)))), .second, .val (.long (f4 q1 (q2 &&& (9223372036854775807 : Int64)))), .second] [(.long (f1 (q2 &&& (9223372036854775807 : Int64)) (f4 q1 (q2 &&& (9223372036854775807 : Int64)))))])) ?_ (fun t k => st8 t k)
        refine Gen.on (b := T8.setTop (mkF m 119 #[.val (.long q1), .second, .val (.long q2), .second, .val (.int p3), .val (.int (p3 &&& (3 : Int32))), .val (.long (q2 &&& (9223372036854775807 : Int64))), .second, .val (.long (f4 q1 (q2 &&& (9223372036854775807 : Int64)))), .second, .val (.long (f4 q1 (q2 &&& (9223372036854775807 : Int64)))), .second] [(.long (q2 &&& (9223372036854775807 : Int64))), (.long (f1 (q2 &&& (9223372036854775807 : Int64)) (f4 q1 (q2 &&& (9223372036854775807 : Int64)))))])) ?_ (fun t k => XS.lload X8.here hx rfl (hb hby at_117) rfl k)
        refine Gen.on (b := T8.setTop (mkF m 121 #[.val (.long q1), .second, .val (.long q2), .second, .val (.int p3), .val (.int (p3 &&& (3 : Int32))), .val (.long (q2 &&& (9223372036854775807 : Int64))), .second, .val (.long (f4 q1 (q2 &&& (9223372036854775807 : Int64)))), .second, .val (.long (f4 q1 (q2 &&& (9223372036854775807 : Int64)))), .second] [(.long (f4 q1 (q2 &&& (9223372036854775807 : Int64)))), (.long (q2 &&& (9223372036854775807 : Int64))), (.long (f1 (q2 &&& (9223372036854775807 : Int64)) (f4 q1 (q2 &&& (9223372036854775807 : Int64)))))])) ?_ (fun t k => XS.lload X8.here hx rfl (hb hby at_119) rfl k)
        obtain ⟨_, _, ⟨T9, L9, k9, n9⟩, -, X9, ⟨Lc9, hQ9, l9, y9, z9⟩, st9⟩ := Jvm.LawKit.callS X8 hx (y := (⟨"com/example/streambed/streambed/stream/DemandProductPinLaw", "ref", "(JJ)J"⟩ : MethodName)) hown (mvT hZ (hw _ (List.mem_of_getElem? (i := 10) rfl))) (mvT hZ (hw _ (List.mem_of_getElem? (i := 11) rfl))) (mvT hZ (hw _ (List.mem_of_getElem? (i := 12) rfl))) (mvT hZ (hw _ (List.mem_of_getElem? (i := 13) rfl))) (by decide) (backOf (W := 2) (rm3 l Z a0 hw [] (q2 &&& (9223372036854775807 : Int64)) (f4 q1 (q2 &&& (9223372036854775807 : Int64)))  h0 n0 Z0 ) hZ (hw _ (List.mem_of_getElem? (i := 13) rfl)) (hw _ (List.mem_of_getElem? (i := 12) rfl)) (by decide) (by decide)) (g := (mkF m 121 #[.val (.long q1), .second, .val (.long q2), .second, .val (.int p3), .val (.int (p3 &&& (3 : Int32))), .val (.long (q2 &&& (9223372036854775807 : Int64))), .second, .val (.long (f4 q1 (q2 &&& (9223372036854775807 : Int64)))), .second, .val (.long (f4 q1 (q2 &&& (9223372036854775807 : Int64)))), .second] [(.long (f4 q1 (q2 &&& (9223372036854775807 : Int64)))), (.long (q2 &&& (9223372036854775807 : Int64))), (.long (f1 (q2 &&& (9223372036854775807 : Int64)) (f4 q1 (q2 &&& (9223372036854775807 : Int64)))))])) rfl (by rw [hml]; rfl) (argsL := [(.long (q2 &&& (9223372036854775807 : Int64))), (.long (f4 q1 (q2 &&& (9223372036854775807 : Int64))))]) (rest := [(.long (f1 (q2 &&& (9223372036854775807 : Int64)) (f4 q1 (q2 &&& (9223372036854775807 : Int64)))))]) (lenOf pd_0_0 rfl) rfl (by show 2 * 0 + _ ≤ _; exact Nat.le_of_eq rfl) (hb hby at_121) (fun _ _ => ⟨rfl, e8, (by decide : 0 + 0 ≤ _), (by decide : 0 + 0 ≤ _)⟩)
        dsimp only [Pt.U, Pt.locs, Pt.cells, Pt.slots] at X9 l9 y9 z9 st9 hQ9
        subst l9 y9 z9
        obtain ⟨rfl, N9q, e9⟩ := hQ9
        have N9 := Fr.app N8 N9q
        refine Gen.on (b := T9.setTop (mkF m 124 #[.val (.long q1), .second, .val (.long q2), .second, .val (.int p3), .val (.int (p3 &&& (3 : Int32))), .val (.long (q2 &&& (9223372036854775807 : Int64))), .second, .val (.long (f4 q1 (q2 &&& (9223372036854775807 : Int64)))), .second, .val (.long (f4 q1 (q2 &&& (9223372036854775807 : Int64)))), .second] [(.long (f3 (q2 &&& (9223372036854775807 : Int64)) (f4 q1 (q2 &&& (9223372036854775807 : Int64))))), (.long (f1 (q2 &&& (9223372036854775807 : Int64)) (f4 q1 (q2 &&& (9223372036854775807 : Int64)))))])) ?_ (fun t k => st9 t k)
        refine Gen.on (b := T9.setTop (mkF m 125 #[.val (.long q1), .second, .val (.long q2), .second, .val (.int p3), .val (.int (p3 &&& (3 : Int32))), .val (.long (q2 &&& (9223372036854775807 : Int64))), .second, .val (.long (f4 q1 (q2 &&& (9223372036854775807 : Int64)))), .second, .val (.long (f4 q1 (q2 &&& (9223372036854775807 : Int64)))), .second] [(.int (lcmpW (f1 (q2 &&& (9223372036854775807 : Int64)) (f4 q1 (q2 &&& (9223372036854775807 : Int64)))) (f3 (q2 &&& (9223372036854775807 : Int64)) (f4 q1 (q2 &&& (9223372036854775807 : Int64))))))])) ?_ (fun t k => XS.lcmp X9.here hx rfl (hb hby at_124) rfl k)
        refine Gen.on (b := T9.setTop (mkF m 128 #[.val (.long q1), .second, .val (.long q2), .second, .val (.int p3), .val (.int (p3 &&& (3 : Int32))), .val (.long (q2 &&& (9223372036854775807 : Int64))), .second, .val (.long (f4 q1 (q2 &&& (9223372036854775807 : Int64)))), .second, .val (.long (f4 q1 (q2 &&& (9223372036854775807 : Int64)))), .second] [])) ?_ (fun t k => XS.ifNo X9.here hx rfl (hb hby at_125) rfl (own_eq1 (own_same _ _ (own_nn q2) (own_near _ _))).2 k)
        refine Gen.on (b := T9.setTop (mkF m 129 #[.val (.long q1), .second, .val (.long q2), .second, .val (.int p3), .val (.int (p3 &&& (3 : Int32))), .val (.long (q2 &&& (9223372036854775807 : Int64))), .second, .val (.long (f4 q1 (q2 &&& (9223372036854775807 : Int64)))), .second, .val (.long (f4 q1 (q2 &&& (9223372036854775807 : Int64)))), .second] [(.int (1 : Int32))])) ?_ (fun t k => XS.iconst X9.here hx rfl (hb hby at_128) k)
        refine Gen.on (b := T9.setTop (mkF m 133 #[.val (.long q1), .second, .val (.long q2), .second, .val (.int p3), .val (.int (p3 &&& (3 : Int32))), .val (.long (q2 &&& (9223372036854775807 : Int64))), .second, .val (.long (f4 q1 (q2 &&& (9223372036854775807 : Int64)))), .second, .val (.long (f4 q1 (q2 &&& (9223372036854775807 : Int64)))), .second] [(.int (1 : Int32))])) ?_ (fun t k => XS.goto X9.here hx rfl (pc0 := 129) (pc' := 133) rfl (hb hby at_129) (by decide) (by decide) k)
        refine own_retN (t := .boolean) X9 hx Bd.returns (by simp) (by decide) (hb hby at_133) (by decide) (by decide) ?_
        exact ⟨rfl, N9⟩
    · refine Gen.on (b := s₁.setTop (mkF m 53 #[.val (.long q1), .second, .val (.long q2), .second, .val (.int p3), .val (.int (p3 &&& (3 : Int32))), .unset, .unset, .unset, .unset, .unset, .unset] [])) ?_ (fun t k => XS.icmpYes X0.here hx rfl (pc0 := 32) (pc' := 53) rfl (hb hby at_32) rfl (feq c32_3).2 (by decide) (by decide) k)
      refine Gen.on (b := s₁.setTop (mkF m 55 #[.val (.long q1), .second, .val (.long q2), .second, .val (.int p3), .val (.int (p3 &&& (3 : Int32))), .unset, .unset, .unset, .unset, .unset, .unset] [(.int (p3 &&& (3 : Int32)))])) ?_ (fun t k => XS.iload X0.here hx rfl (hb hby at_53) rfl k)
      refine Gen.on (b := s₁.setTop (mkF m 56 #[.val (.long q1), .second, .val (.long q2), .second, .val (.int p3), .val (.int (p3 &&& (3 : Int32))), .unset, .unset, .unset, .unset, .unset, .unset] [(.int (3 : Int32)), (.int (p3 &&& (3 : Int32)))])) ?_ (fun t k => XS.iconst X0.here hx rfl (hb hby at_55) k)
      by_cases c56_5 : (p3 &&& (3 : Int32)) = (3 : Int32)
      · refine Gen.on (b := s₁.setTop (mkF m 59 #[.val (.long q1), .second, .val (.long q2), .second, .val (.int p3), .val (.int (p3 &&& (3 : Int32))), .unset, .unset, .unset, .unset, .unset, .unset] [])) ?_ (fun t k => XS.icmpNo X0.here hx rfl (hb hby at_56) rfl (teq c56_5).2 k)
        refine Gen.on (b := s₁.setTop (mkF m 60 #[.val (.long q1), .second, .val (.long q2), .second, .val (.int p3), .val (.int (p3 &&& (3 : Int32))), .unset, .unset, .unset, .unset, .unset, .unset] [(.long q2)])) ?_ (fun t k => XS.lloadN X0.here hx rfl (hb hby at_59) rfl k)
        refine Gen.on (b := s₁.setTop (mkF m 63 #[.val (.long q1), .second, .val (.long q2), .second, .val (.int p3), .val (.int (p3 &&& (3 : Int32))), .unset, .unset, .unset, .unset, .unset, .unset] [(.long (65535 : Int64)), (.long q2)])) ?_ (fun t k => X0.ldc2Long hx hown (mvT hZ (hw _ (List.mem_of_getElem? (i := 14) rfl))) (g := (mkF m 60 #[.val (.long q1), .second, .val (.long q2), .second, .val (.int p3), .val (.int (p3 &&& (3 : Int32))), .unset, .unset, .unset, .unset, .unset, .unset] [(.long q2)])) rfl (hb hby at_60) t k)
        refine Gen.on (b := s₁.setTop (mkF m 64 #[.val (.long q1), .second, .val (.long q2), .second, .val (.int p3), .val (.int (p3 &&& (3 : Int32))), .unset, .unset, .unset, .unset, .unset, .unset] [(.long (q2 &&& (65535 : Int64)))])) ?_ (fun t k => XS.land X0.here hx rfl (hb hby at_63) rfl k)
        refine Gen.on (b := s₁.setTop (mkF m 66 #[.val (.long q1), .second, .val (.long q2), .second, .val (.int p3), .val (.int (p3 &&& (3 : Int32))), .unset, .unset, .val (.long (q2 &&& (65535 : Int64))), .second, .unset, .unset] [])) ?_ (fun t k => XS.lstore X0.here hx rfl (hb hby at_64) rfl (l' := #[.val (.long q1), .second, .val (.long q2), .second, .val (.int p3), .val (.int (p3 &&& (3 : Int32))), .unset, .unset, .val (.long (q2 &&& (65535 : Int64))), .second, .unset, .unset]) rfl k)
        refine Gen.on (b := s₁.setTop (mkF m 67 #[.val (.long q1), .second, .val (.long q2), .second, .val (.int p3), .val (.int (p3 &&& (3 : Int32))), .unset, .unset, .val (.long (q2 &&& (65535 : Int64))), .second, .unset, .unset] [(.long q1)])) ?_ (fun t k => XS.lloadN X0.here hx rfl (hb hby at_66) rfl k)
        refine Gen.on (b := s₁.setTop (mkF m 69 #[.val (.long q1), .second, .val (.long q2), .second, .val (.int p3), .val (.int (p3 &&& (3 : Int32))), .unset, .unset, .val (.long (q2 &&& (65535 : Int64))), .second, .unset, .unset] [(.long (q2 &&& (65535 : Int64))), (.long q1)])) ?_ (fun t k => XS.lload X0.here hx rfl (hb hby at_67) rfl k)
        obtain ⟨_, _, ⟨T10, L10, k10, n10⟩, -, X10, ⟨Lc10, hQ10, l10, y10, z10⟩, st10⟩ := Jvm.LawKit.callS X0 hx (y := (⟨"com/example/streambed/streambed/stream/DemandProductPinLaw", "near", "(JJ)J"⟩ : MethodName)) hown (mvT hZ (hw _ (List.mem_of_getElem? (i := 15) rfl))) (mvT hZ (hw _ (List.mem_of_getElem? (i := 16) rfl))) (mvT hZ (hw _ (List.mem_of_getElem? (i := 12) rfl))) (mvT hZ (hw _ (List.mem_of_getElem? (i := 17) rfl))) (by decide) (backOf (W := 0) (rm4 l Z a0 hw [] q1 (q2 &&& (65535 : Int64))  h0 n0 Z0 ) hZ (hw _ (List.mem_of_getElem? (i := 17) rfl)) (hw _ (List.mem_of_getElem? (i := 12) rfl)) (by decide) (by decide)) (g := (mkF m 69 #[.val (.long q1), .second, .val (.long q2), .second, .val (.int p3), .val (.int (p3 &&& (3 : Int32))), .unset, .unset, .val (.long (q2 &&& (65535 : Int64))), .second, .unset, .unset] [(.long (q2 &&& (65535 : Int64))), (.long q1)])) rfl (by rw [hml]; rfl) (argsL := [(.long q1), (.long (q2 &&& (65535 : Int64)))]) (rest := []) (lenOf pd_0_0 rfl) rfl (by show 2 * 0 + _ ≤ _; exact Nat.le_of_eq rfl) (hb hby at_69) (fun _ _ => ⟨rfl, e0, (by decide : 0 + 0 ≤ _), (by decide : 0 + 0 ≤ _)⟩)
        dsimp only [Pt.U, Pt.locs, Pt.cells, Pt.slots] at X10 l10 y10 z10 st10 hQ10
        subst l10 y10 z10
        obtain ⟨rfl, N10q, e10⟩ := hQ10
        have N10 := Fr.app N0 N10q
        refine Gen.on (b := T10.setTop (mkF m 72 #[.val (.long q1), .second, .val (.long q2), .second, .val (.int p3), .val (.int (p3 &&& (3 : Int32))), .unset, .unset, .val (.long (q2 &&& (65535 : Int64))), .second, .unset, .unset] [(.long (f4 q1 (q2 &&& (65535 : Int64))))])) ?_ (fun t k => st10 t k)
        refine Gen.on (b := T10.setTop (mkF m 74 #[.val (.long q1), .second, .val (.long q2), .second, .val (.int p3), .val (.int (p3 &&& (3 : Int32))), .val (.long (f4 q1 (q2 &&& (65535 : Int64)))), .second, .val (.long (q2 &&& (65535 : Int64))), .second, .unset, .unset] [])) ?_ (fun t k => XS.lstore X10.here hx rfl (hb hby at_72) rfl (l' := #[.val (.long q1), .second, .val (.long q2), .second, .val (.int p3), .val (.int (p3 &&& (3 : Int32))), .val (.long (f4 q1 (q2 &&& (65535 : Int64)))), .second, .val (.long (q2 &&& (65535 : Int64))), .second, .unset, .unset]) rfl k)
        refine Gen.on (b := T10.setTop (mkF m 91 #[.val (.long q1), .second, .val (.long q2), .second, .val (.int p3), .val (.int (p3 &&& (3 : Int32))), .val (.long (f4 q1 (q2 &&& (65535 : Int64)))), .second, .val (.long (q2 &&& (65535 : Int64))), .second, .unset, .unset] [])) ?_ (fun t k => XS.goto X10.here hx rfl (pc0 := 74) (pc' := 91) rfl (hb hby at_74) (by decide) (by decide) k)
        refine Gen.on (b := T10.setTop (mkF m 93 #[.val (.long q1), .second, .val (.long q2), .second, .val (.int p3), .val (.int (p3 &&& (3 : Int32))), .val (.long (f4 q1 (q2 &&& (65535 : Int64)))), .second, .val (.long (q2 &&& (65535 : Int64))), .second, .unset, .unset] [(.int p3)])) ?_ (fun t k => XS.iload X10.here hx rfl (hb hby at_91) rfl k)
        refine Gen.on (b := T10.setTop (mkF m 94 #[.val (.long q1), .second, .val (.long q2), .second, .val (.int p3), .val (.int (p3 &&& (3 : Int32))), .val (.long (f4 q1 (q2 &&& (65535 : Int64)))), .second, .val (.long (q2 &&& (65535 : Int64))), .second, .unset, .unset] [(.int (4 : Int32)), (.int p3)])) ?_ (fun t k => XS.iconst X10.here hx rfl (hb hby at_93) k)
        refine Gen.on (b := T10.setTop (mkF m 95 #[.val (.long q1), .second, .val (.long q2), .second, .val (.int p3), .val (.int (p3 &&& (3 : Int32))), .val (.long (f4 q1 (q2 &&& (65535 : Int64)))), .second, .val (.long (q2 &&& (65535 : Int64))), .second, .unset, .unset] [(.int (p3 &&& (4 : Int32)))])) ?_ (fun t k => XS.iand X10.here hx rfl (hb hby at_94) rfl k)
        by_cases c95_6 : (p3 &&& (4 : Int32)) = (0 : Int32)
        · refine Gen.on (b := T10.setTop (mkF m 110 #[.val (.long q1), .second, .val (.long q2), .second, .val (.int p3), .val (.int (p3 &&& (3 : Int32))), .val (.long (f4 q1 (q2 &&& (65535 : Int64)))), .second, .val (.long (q2 &&& (65535 : Int64))), .second, .unset, .unset] [])) ?_ (fun t k => XS.ifYes X10.here hx rfl (pc0 := 95) (pc' := 110) rfl (hb hby at_95) rfl ((if0 _ _).trans (teq c95_6).1) (by decide) (by decide) k)
          refine Gen.on (b := T10.setTop (mkF m 112 #[.val (.long q1), .second, .val (.long q2), .second, .val (.int p3), .val (.int (p3 &&& (3 : Int32))), .val (.long (f4 q1 (q2 &&& (65535 : Int64)))), .second, .val (.long (q2 &&& (65535 : Int64))), .second, .unset, .unset] [(.long (f4 q1 (q2 &&& (65535 : Int64))))])) ?_ (fun t k => XS.lload X10.here hx rfl (hb hby at_110) rfl k)
          refine Gen.on (b := T10.setTop (mkF m 114 #[.val (.long q1), .second, .val (.long q2), .second, .val (.int p3), .val (.int (p3 &&& (3 : Int32))), .val (.long (f4 q1 (q2 &&& (65535 : Int64)))), .second, .val (.long (q2 &&& (65535 : Int64))), .second, .unset, .unset] [(.long (q2 &&& (65535 : Int64))), (.long (f4 q1 (q2 &&& (65535 : Int64))))])) ?_ (fun t k => XS.lload X10.here hx rfl (hb hby at_112) rfl k)
          obtain ⟨_, _, ⟨T11, L11, k11, n11⟩, -, X11, ⟨Lc11, hQ11, l11, y11, z11⟩, st11⟩ := Jvm.LawKit.callS X10 hx (y := (⟨"com/example/streambed/streambed/stream/Demand", "product", "(JJ)J"⟩ : MethodName)) hown (mvT hZ (hw _ (List.mem_of_getElem? (i := 1) rfl))) (mvT hZ (hw _ (List.mem_of_getElem? (i := 2) rfl))) (mvT hZ (hw _ (List.mem_of_getElem? (i := 3) rfl))) (mvT hZ (hw _ (List.mem_of_getElem? (i := 4) rfl))) (by decide) (backOf (W := 0) (rm1 l Z a0 hw [] (f4 q1 (q2 &&& (65535 : Int64))) (q2 &&& (65535 : Int64))  h0 n0 Z0 ) hZ (hw _ (List.mem_of_getElem? (i := 4) rfl)) (hw _ (List.mem_of_getElem? (i := 3) rfl)) (by decide) (by decide)) (g := (mkF m 114 #[.val (.long q1), .second, .val (.long q2), .second, .val (.int p3), .val (.int (p3 &&& (3 : Int32))), .val (.long (f4 q1 (q2 &&& (65535 : Int64)))), .second, .val (.long (q2 &&& (65535 : Int64))), .second, .unset, .unset] [(.long (q2 &&& (65535 : Int64))), (.long (f4 q1 (q2 &&& (65535 : Int64))))])) rfl (by rw [hml]; rfl) (argsL := [(.long (f4 q1 (q2 &&& (65535 : Int64)))), (.long (q2 &&& (65535 : Int64)))]) (rest := []) (lenOf pd_0_0 rfl) rfl (by show 2 * 0 + _ ≤ _; exact Nat.le_of_eq rfl) (hb hby at_114) (fun _ _ => ⟨rfl, e10, (by decide : 0 + 0 ≤ _), (by decide : 0 + 0 ≤ _)⟩)
          dsimp only [Pt.U, Pt.locs, Pt.cells, Pt.slots] at X11 l11 y11 z11 st11 hQ11
          subst l11 y11 z11
          obtain ⟨rfl, N11q, e11⟩ := hQ11
          have N11 := Fr.app N10 N11q
          refine Gen.on (b := T11.setTop (mkF m 117 #[.val (.long q1), .second, .val (.long q2), .second, .val (.int p3), .val (.int (p3 &&& (3 : Int32))), .val (.long (f4 q1 (q2 &&& (65535 : Int64)))), .second, .val (.long (q2 &&& (65535 : Int64))), .second, .unset, .unset] [(.long (f1 (f4 q1 (q2 &&& (65535 : Int64))) (q2 &&& (65535 : Int64))))])) ?_ (fun t k => st11 t k)
          refine Gen.on (b := T11.setTop (mkF m 119 #[.val (.long q1), .second, .val (.long q2), .second, .val (.int p3), .val (.int (p3 &&& (3 : Int32))), .val (.long (f4 q1 (q2 &&& (65535 : Int64)))), .second, .val (.long (q2 &&& (65535 : Int64))), .second, .unset, .unset] [(.long (f4 q1 (q2 &&& (65535 : Int64)))), (.long (f1 (f4 q1 (q2 &&& (65535 : Int64))) (q2 &&& (65535 : Int64))))])) ?_ (fun t k => XS.lload X11.here hx rfl (hb hby at_117) rfl k)
          refine Gen.on (b := T11.setTop (mkF m 121 #[.val (.long q1), .second, .val (.long q2), .second, .val (.int p3), .val (.int (p3 &&& (3 : Int32))), .val (.long (f4 q1 (q2 &&& (65535 : Int64)))), .second, .val (.long (q2 &&& (65535 : Int64))), .second, .unset, .unset] [(.long (q2 &&& (65535 : Int64))), (.long (f4 q1 (q2 &&& (65535 : Int64)))), (.long (f1 (f4 q1 (q2 &&& (65535 : Int64))) (q2 &&& (65535 : Int64))))])) ?_ (fun t k => XS.lload X11.here hx rfl (hb hby at_119) rfl k)
          obtain ⟨_, _, ⟨T12, L12, k12, n12⟩, -, X12, ⟨Lc12, hQ12, l12, y12, z12⟩, st12⟩ := Jvm.LawKit.callS X11 hx (y := (⟨"com/example/streambed/streambed/stream/DemandProductPinLaw", "ref", "(JJ)J"⟩ : MethodName)) hown (mvT hZ (hw _ (List.mem_of_getElem? (i := 10) rfl))) (mvT hZ (hw _ (List.mem_of_getElem? (i := 11) rfl))) (mvT hZ (hw _ (List.mem_of_getElem? (i := 12) rfl))) (mvT hZ (hw _ (List.mem_of_getElem? (i := 13) rfl))) (by decide) (backOf (W := 2) (rm3 l Z a0 hw [] (f4 q1 (q2 &&& (65535 : Int64))) (q2 &&& (65535 : Int64))  h0 n0 Z0 ) hZ (hw _ (List.mem_of_getElem? (i := 13) rfl)) (hw _ (List.mem_of_getElem? (i := 12) rfl)) (by decide) (by decide)) (g := (mkF m 121 #[.val (.long q1), .second, .val (.long q2), .second, .val (.int p3), .val (.int (p3 &&& (3 : Int32))), .val (.long (f4 q1 (q2 &&& (65535 : Int64)))), .second, .val (.long (q2 &&& (65535 : Int64))), .second, .unset, .unset] [(.long (q2 &&& (65535 : Int64))), (.long (f4 q1 (q2 &&& (65535 : Int64)))), (.long (f1 (f4 q1 (q2 &&& (65535 : Int64))) (q2 &&& (65535 : Int64))))])) rfl (by rw [hml]; rfl) (argsL := [(.long (f4 q1 (q2 &&& (65535 : Int64)))), (.long (q2 &&& (65535 : Int64)))]) (rest := [(.long (f1 (f4 q1 (q2 &&& (65535 : Int64))) (q2 &&& (65535 : Int64))))]) (lenOf pd_0_0 rfl) rfl (by show 2 * 0 + _ ≤ _; exact Nat.le_of_eq rfl) (hb hby at_121) (fun _ _ => ⟨rfl, e11, (by decide : 0 + 0 ≤ _), (by decide : 0 + 0 ≤ _)⟩)
          dsimp only [Pt.U, Pt.locs, Pt.cells, Pt.slots] at X12 l12 y12 z12 st12 hQ12
          subst l12 y12 z12
          obtain ⟨rfl, N12q, e12⟩ := hQ12
          have N12 := Fr.app N11 N12q
          refine Gen.on (b := T12.setTop (mkF m 124 #[.val (.long q1), .second, .val (.long q2), .second, .val (.int p3), .val (.int (p3 &&& (3 : Int32))), .val (.long (f4 q1 (q2 &&& (65535 : Int64)))), .second, .val (.long (q2 &&& (65535 : Int64))), .second, .unset, .unset] [(.long (f3 (f4 q1 (q2 &&& (65535 : Int64))) (q2 &&& (65535 : Int64)))), (.long (f1 (f4 q1 (q2 &&& (65535 : Int64))) (q2 &&& (65535 : Int64))))])) ?_ (fun t k => st12 t k)
          refine Gen.on (b := T12.setTop (mkF m 125 #[.val (.long q1), .second, .val (.long q2), .second, .val (.int p3), .val (.int (p3 &&& (3 : Int32))), .val (.long (f4 q1 (q2 &&& (65535 : Int64)))), .second, .val (.long (q2 &&& (65535 : Int64))), .second, .unset, .unset] [(.int (lcmpW (f1 (f4 q1 (q2 &&& (65535 : Int64))) (q2 &&& (65535 : Int64))) (f3 (f4 q1 (q2 &&& (65535 : Int64))) (q2 &&& (65535 : Int64)))))])) ?_ (fun t k => XS.lcmp X12.here hx rfl (hb hby at_124) rfl k)
          refine Gen.on (b := T12.setTop (mkF m 128 #[.val (.long q1), .second, .val (.long q2), .second, .val (.int p3), .val (.int (p3 &&& (3 : Int32))), .val (.long (f4 q1 (q2 &&& (65535 : Int64)))), .second, .val (.long (q2 &&& (65535 : Int64))), .second, .unset, .unset] [])) ?_ (fun t k => XS.ifNo X12.here hx rfl (hb hby at_125) rfl (own_eq1 (own_same _ _ (own_near _ _) (own_nn16 q2))).2 k)
          refine Gen.on (b := T12.setTop (mkF m 129 #[.val (.long q1), .second, .val (.long q2), .second, .val (.int p3), .val (.int (p3 &&& (3 : Int32))), .val (.long (f4 q1 (q2 &&& (65535 : Int64)))), .second, .val (.long (q2 &&& (65535 : Int64))), .second, .unset, .unset] [(.int (1 : Int32))])) ?_ (fun t k => XS.iconst X12.here hx rfl (hb hby at_128) k)
          refine Gen.on (b := T12.setTop (mkF m 133 #[.val (.long q1), .second, .val (.long q2), .second, .val (.int p3), .val (.int (p3 &&& (3 : Int32))), .val (.long (f4 q1 (q2 &&& (65535 : Int64)))), .second, .val (.long (q2 &&& (65535 : Int64))), .second, .unset, .unset] [(.int (1 : Int32))])) ?_ (fun t k => XS.goto X12.here hx rfl (pc0 := 129) (pc' := 133) rfl (hb hby at_129) (by decide) (by decide) k)
          refine own_retN (t := .boolean) X12 hx Bd.returns (by simp) (by decide) (hb hby at_133) (by decide) (by decide) ?_
          exact ⟨rfl, N12⟩
        · refine Gen.on (b := T10.setTop (mkF m 98 #[.val (.long q1), .second, .val (.long q2), .second, .val (.int p3), .val (.int (p3 &&& (3 : Int32))), .val (.long (f4 q1 (q2 &&& (65535 : Int64)))), .second, .val (.long (q2 &&& (65535 : Int64))), .second, .unset, .unset] [])) ?_ (fun t k => XS.ifNo X10.here hx rfl (hb hby at_95) rfl ((if0 _ _).trans (feq c95_6).1) k)
          refine Gen.on (b := T10.setTop (mkF m 100 #[.val (.long q1), .second, .val (.long q2), .second, .val (.int p3), .val (.int (p3 &&& (3 : Int32))), .val (.long (f4 q1 (q2 &&& (65535 : Int64)))), .second, .val (.long (q2 &&& (65535 : Int64))), .second, .unset, .unset] [(.long (f4 q1 (q2 &&& (65535 : Int64))))])) ?_ (fun t k => XS.lload X10.here hx rfl (hb hby at_98) rfl k)
          refine Gen.on (b := T10.setTop (mkF m 102 #[.val (.long q1), .second, .val (.long q2), .second, .val (.int p3), .val (.int (p3 &&& (3 : Int32))), .val (.long (f4 q1 (q2 &&& (65535 : Int64)))), .second, .val (.long (q2 &&& (65535 : Int64))), .second, .val (.long (f4 q1 (q2 &&& (65535 : Int64)))), .second] [])) ?_ (fun t k => XS.lstore X10.here hx rfl (hb hby at_100) rfl (l' := #[.val (.long q1), .second, .val (.long q2), .second, .val (.int p3), .val (.int (p3 &&& (3 : Int32))), .val (.long (f4 q1 (q2 &&& (65535 : Int64)))), .second, .val (.long (q2 &&& (65535 : Int64))), .second, .val (.long (f4 q1 (q2 &&& (65535 : Int64)))), .second]) rfl k)
          refine Gen.on (b := T10.setTop (mkF m 104 #[.val (.long q1), .second, .val (.long q2), .second, .val (.int p3), .val (.int (p3 &&& (3 : Int32))), .val (.long (f4 q1 (q2 &&& (65535 : Int64)))), .second, .val (.long (q2 &&& (65535 : Int64))), .second, .val (.long (f4 q1 (q2 &&& (65535 : Int64)))), .second] [(.long (q2 &&& (65535 : Int64)))])) ?_ (fun t k => XS.lload X10.here hx rfl (hb hby at_102) rfl k)
          refine Gen.on (b := T10.setTop (mkF m 106 #[.val (.long q1), .second, .val (.long q2), .second, .val (.int p3), .val (.int (p3 &&& (3 : Int32))), .val (.long (q2 &&& (65535 : Int64))), .second, .val (.long (q2 &&& (65535 : Int64))), .second, .val (.long (f4 q1 (q2 &&& (65535 : Int64)))), .second] [])) ?_ (fun t k => XS.lstore X10.here hx rfl (hb hby at_104) rfl (l' := #[.val (.long q1), .second, .val (.long q2), .second, .val (.int p3), .val (.int (p3 &&& (3 : Int32))), .val (.long (q2 &&& (65535 : Int64))), .second, .val (.long (q2 &&& (65535 : Int64))), .second, .val (.long (f4 q1 (q2 &&& (65535 : Int64)))), .second]) rfl k)
          refine Gen.on (b := T10.setTop (mkF m 108 #[.val (.long q1), .second, .val (.long q2), .second, .val (.int p3), .val (.int (p3 &&& (3 : Int32))), .val (.long (q2 &&& (65535 : Int64))), .second, .val (.long (q2 &&& (65535 : Int64))), .second, .val (.long (f4 q1 (q2 &&& (65535 : Int64)))), .second] [(.long (f4 q1 (q2 &&& (65535 : Int64))))])) ?_ (fun t k => XS.lload X10.here hx rfl (hb hby at_106) rfl k)
          refine Gen.on (b := T10.setTop (mkF m 110 #[.val (.long q1), .second, .val (.long q2), .second, .val (.int p3), .val (.int (p3 &&& (3 : Int32))), .val (.long (q2 &&& (65535 : Int64))), .second, .val (.long (f4 q1 (q2 &&& (65535 : Int64)))), .second, .val (.long (f4 q1 (q2 &&& (65535 : Int64)))), .second] [])) ?_ (fun t k => XS.lstore X10.here hx rfl (hb hby at_108) rfl (l' := #[.val (.long q1), .second, .val (.long q2), .second, .val (.int p3), .val (.int (p3 &&& (3 : Int32))), .val (.long (q2 &&& (65535 : Int64))), .second, .val (.long (f4 q1 (q2 &&& (65535 : Int64)))), .second, .val (.long (f4 q1 (q2 &&& (65535 : Int64)))), .second]) rfl k)
          refine Gen.on (b := T10.setTop (mkF m 112 #[.val (.long q1), .second, .val (.long q2), .second, .val (.int p3), .val (.int (p3 &&& (3 : Int32))), .val (.long (q2 &&& (65535 : Int64))), .second, .val (.long (f4 q1 (q2 &&& (65535 : Int64)))), .second, .val (.long (f4 q1 (q2 &&& (65535 : Int64)))), .second] [(.long (q2 &&& (65535 : Int64)))])) ?_ (fun t k => XS.lload X10.here hx rfl (hb hby at_110) rfl k)
          refine Gen.on (b := T10.setTop (mkF m 114 #[.val (.long q1), .second, .val (.long q2), .second, .val (.int p3), .val (.int (p3 &&& (3 : Int32))), .val (.long (q2 &&& (65535 : Int64))), .second, .val (.long (f4 q1 (q2 &&& (65535 : Int64)))), .second, .val (.long (f4 q1 (q2 &&& (65535 : Int64)))), .second] [(.long (f4 q1 (q2 &&& (65535 : Int64)))), (.long (q2 &&& (65535 : Int64)))])) ?_ (fun t k => XS.lload X10.here hx rfl (hb hby at_112) rfl k)
          obtain ⟨_, _, ⟨T13, L13, k13, n13⟩, -, X13, ⟨Lc13, hQ13, l13, y13, z13⟩, st13⟩ := Jvm.LawKit.callS X10 hx (y := (⟨"com/example/streambed/streambed/stream/Demand", "product", "(JJ)J"⟩ : MethodName)) hown (mvT hZ (hw _ (List.mem_of_getElem? (i := 1) rfl))) (mvT hZ (hw _ (List.mem_of_getElem? (i := 2) rfl))) (mvT hZ (hw _ (List.mem_of_getElem? (i := 3) rfl))) (mvT hZ (hw _ (List.mem_of_getElem? (i := 4) rfl))) (by decide) (backOf (W := 0) (rm1 l Z a0 hw [] (q2 &&& (65535 : Int64)) (f4 q1 (q2 &&& (65535 : Int64)))  h0 n0 Z0 ) hZ (hw _ (List.mem_of_getElem? (i := 4) rfl)) (hw _ (List.mem_of_getElem? (i := 3) rfl)) (by decide) (by decide)) (g := (mkF m 114 #[.val (.long q1), .second, .val (.long q2), .second, .val (.int p3), .val (.int (p3 &&& (3 : Int32))), .val (.long (q2 &&& (65535 : Int64))), .second, .val (.long (f4 q1 (q2 &&& (65535 : Int64)))), .second, .val (.long (f4 q1 (q2 &&& (65535 : Int64)))), .second] [(.long (f4 q1 (q2 &&& (65535 : Int64)))), (.long (q2 &&& (65535 : Int64)))])) rfl (by rw [hml]; rfl) (argsL := [(.long (q2 &&& (65535 : Int64))), (.long (f4 q1 (q2 &&& (65535 : Int64))))]) (rest := []) (lenOf pd_0_0 rfl) rfl (by show 2 * 0 + _ ≤ _; exact Nat.le_of_eq rfl) (hb hby at_114) (fun _ _ => ⟨rfl, e10, (by decide : 0 + 0 ≤ _), (by decide : 0 + 0 ≤ _)⟩)
          dsimp only [Pt.U, Pt.locs, Pt.cells, Pt.slots] at X13 l13 y13 z13 st13 hQ13
          subst l13 y13 z13
          obtain ⟨rfl, N13q, e13⟩ := hQ13
          have N13 := Fr.app N10 N13q
          refine Gen.on (b := T13.setTop (mkF m 117 #[.val (.long q1), .second, .val (.long q2), .second, .val (.int p3), .val (.int (p3 &&& (3 : Int32))), .val (.long (q2 &&& (65535 : Int64))), .second, .val (.long (f4 q1 (q2 &&& (65535 : Int64)))), .second, .val (.long (f4 q1 (q2 &&& (65535 : Int64)))), .second] [(.long (f1 (q2 &&& (65535 : Int64)) (f4 q1 (q2 &&& (65535 : Int64)))))])) ?_ (fun t k => st13 t k)
          refine Gen.on (b := T13.setTop (mkF m 119 #[.val (.long q1), .second, .val (.long q2), .second, .val (.int p3), .val (.int (p3 &&& (3 : Int32))), .val (.long (q2 &&& (65535 : Int64))), .second, .val (.long (f4 q1 (q2 &&& (65535 : Int64)))), .second, .val (.long (f4 q1 (q2 &&& (65535 : Int64)))), .second] [(.long (q2 &&& (65535 : Int64))), (.long (f1 (q2 &&& (65535 : Int64)) (f4 q1 (q2 &&& (65535 : Int64)))))])) ?_ (fun t k => XS.lload X13.here hx rfl (hb hby at_117) rfl k)
          refine Gen.on (b := T13.setTop (mkF m 121 #[.val (.long q1), .second, .val (.long q2), .second, .val (.int p3), .val (.int (p3 &&& (3 : Int32))), .val (.long (q2 &&& (65535 : Int64))), .second, .val (.long (f4 q1 (q2 &&& (65535 : Int64)))), .second, .val (.long (f4 q1 (q2 &&& (65535 : Int64)))), .second] [(.long (f4 q1 (q2 &&& (65535 : Int64)))), (.long (q2 &&& (65535 : Int64))), (.long (f1 (q2 &&& (65535 : Int64)) (f4 q1 (q2 &&& (65535 : Int64)))))])) ?_ (fun t k => XS.lload X13.here hx rfl (hb hby at_119) rfl k)
          obtain ⟨_, _, ⟨T14, L14, k14, n14⟩, -, X14, ⟨Lc14, hQ14, l14, y14, z14⟩, st14⟩ := Jvm.LawKit.callS X13 hx (y := (⟨"com/example/streambed/streambed/stream/DemandProductPinLaw", "ref", "(JJ)J"⟩ : MethodName)) hown (mvT hZ (hw _ (List.mem_of_getElem? (i := 10) rfl))) (mvT hZ (hw _ (List.mem_of_getElem? (i := 11) rfl))) (mvT hZ (hw _ (List.mem_of_getElem? (i := 12) rfl))) (mvT hZ (hw _ (List.mem_of_getElem? (i := 13) rfl))) (by decide) (backOf (W := 2) (rm3 l Z a0 hw [] (q2 &&& (65535 : Int64)) (f4 q1 (q2 &&& (65535 : Int64)))  h0 n0 Z0 ) hZ (hw _ (List.mem_of_getElem? (i := 13) rfl)) (hw _ (List.mem_of_getElem? (i := 12) rfl)) (by decide) (by decide)) (g := (mkF m 121 #[.val (.long q1), .second, .val (.long q2), .second, .val (.int p3), .val (.int (p3 &&& (3 : Int32))), .val (.long (q2 &&& (65535 : Int64))), .second, .val (.long (f4 q1 (q2 &&& (65535 : Int64)))), .second, .val (.long (f4 q1 (q2 &&& (65535 : Int64)))), .second] [(.long (f4 q1 (q2 &&& (65535 : Int64)))), (.long (q2 &&& (65535 : Int64))), (.long (f1 (q2 &&& (65535 : Int64)) (f4 q1 (q2 &&& (65535 : Int64)))))])) rfl (by rw [hml]; rfl) (argsL := [(.long (q2 &&& (65535 : Int64))), (.long (f4 q1 (q2 &&& (65535 : Int64))))]) (rest := [(.long (f1 (q2 &&& (65535 : Int64)) (f4 q1 (q2 &&& (65535 : Int64)))))]) (lenOf pd_0_0 rfl) rfl (by show 2 * 0 + _ ≤ _; exact Nat.le_of_eq rfl) (hb hby at_121) (fun _ _ => ⟨rfl, e13, (by decide : 0 + 0 ≤ _), (by decide : 0 + 0 ≤ _)⟩)
          dsimp only [Pt.U, Pt.locs, Pt.cells, Pt.slots] at X14 l14 y14 z14 st14 hQ14
          subst l14 y14 z14
          obtain ⟨rfl, N14q, e14⟩ := hQ14
          have N14 := Fr.app N13 N14q
          refine Gen.on (b := T14.setTop (mkF m 124 #[.val (.long q1), .second, .val (.long q2), .second, .val (.int p3), .val (.int (p3 &&& (3 : Int32))), .val (.long (q2 &&& (65535 : Int64))), .second, .val (.long (f4 q1 (q2 &&& (65535 : Int64)))), .second, .val (.long (f4 q1 (q2 &&& (65535 : Int64)))), .second] [(.long (f3 (q2 &&& (65535 : Int64)) (f4 q1 (q2 &&& (65535 : Int64))))), (.long (f1 (q2 &&& (65535 : Int64)) (f4 q1 (q2 &&& (65535 : Int64)))))])) ?_ (fun t k => st14 t k)
          refine Gen.on (b := T14.setTop (mkF m 125 #[.val (.long q1), .second, .val (.long q2), .second, .val (.int p3), .val (.int (p3 &&& (3 : Int32))), .val (.long (q2 &&& (65535 : Int64))), .second, .val (.long (f4 q1 (q2 &&& (65535 : Int64)))), .second, .val (.long (f4 q1 (q2 &&& (65535 : Int64)))), .second] [(.int (lcmpW (f1 (q2 &&& (65535 : Int64)) (f4 q1 (q2 &&& (65535 : Int64)))) (f3 (q2 &&& (65535 : Int64)) (f4 q1 (q2 &&& (65535 : Int64))))))])) ?_ (fun t k => XS.lcmp X14.here hx rfl (hb hby at_124) rfl k)
          refine Gen.on (b := T14.setTop (mkF m 128 #[.val (.long q1), .second, .val (.long q2), .second, .val (.int p3), .val (.int (p3 &&& (3 : Int32))), .val (.long (q2 &&& (65535 : Int64))), .second, .val (.long (f4 q1 (q2 &&& (65535 : Int64)))), .second, .val (.long (f4 q1 (q2 &&& (65535 : Int64)))), .second] [])) ?_ (fun t k => XS.ifNo X14.here hx rfl (hb hby at_125) rfl (own_eq1 (own_same _ _ (own_nn16 q2) (own_near _ _))).2 k)
          refine Gen.on (b := T14.setTop (mkF m 129 #[.val (.long q1), .second, .val (.long q2), .second, .val (.int p3), .val (.int (p3 &&& (3 : Int32))), .val (.long (q2 &&& (65535 : Int64))), .second, .val (.long (f4 q1 (q2 &&& (65535 : Int64)))), .second, .val (.long (f4 q1 (q2 &&& (65535 : Int64)))), .second] [(.int (1 : Int32))])) ?_ (fun t k => XS.iconst X14.here hx rfl (hb hby at_128) k)
          refine Gen.on (b := T14.setTop (mkF m 133 #[.val (.long q1), .second, .val (.long q2), .second, .val (.int p3), .val (.int (p3 &&& (3 : Int32))), .val (.long (q2 &&& (65535 : Int64))), .second, .val (.long (f4 q1 (q2 &&& (65535 : Int64)))), .second, .val (.long (f4 q1 (q2 &&& (65535 : Int64)))), .second] [(.int (1 : Int32))])) ?_ (fun t k => XS.goto X14.here hx rfl (pc0 := 129) (pc' := 133) rfl (hb hby at_129) (by decide) (by decide) k)
          refine own_retN (t := .boolean) X14 hx Bd.returns (by simp) (by decide) (hb hby at_133) (by decide) (by decide) ?_
          exact ⟨rfl, N14⟩
      · refine Gen.on (b := s₁.setTop (mkF m 77 #[.val (.long q1), .second, .val (.long q2), .second, .val (.int p3), .val (.int (p3 &&& (3 : Int32))), .unset, .unset, .unset, .unset, .unset, .unset] [])) ?_ (fun t k => XS.icmpYes X0.here hx rfl (pc0 := 56) (pc' := 77) rfl (hb hby at_56) rfl (feq c56_5).2 (by decide) (by decide) k)
        refine Gen.on (b := s₁.setTop (mkF m 78 #[.val (.long q1), .second, .val (.long q2), .second, .val (.int p3), .val (.int (p3 &&& (3 : Int32))), .unset, .unset, .unset, .unset, .unset, .unset] [(.long q1)])) ?_ (fun t k => XS.lloadN X0.here hx rfl (hb hby at_77) rfl k)
        refine Gen.on (b := s₁.setTop (mkF m 81 #[.val (.long q1), .second, .val (.long q2), .second, .val (.int p3), .val (.int (p3 &&& (3 : Int32))), .unset, .unset, .unset, .unset, .unset, .unset] [(.long (9223372036854775807 : Int64)), (.long q1)])) ?_ (fun t k => X0.ldc2Long hx hown (mvT hZ (hw _ (List.mem_of_getElem? (i := 0) rfl))) (g := (mkF m 78 #[.val (.long q1), .second, .val (.long q2), .second, .val (.int p3), .val (.int (p3 &&& (3 : Int32))), .unset, .unset, .unset, .unset, .unset, .unset] [(.long q1)])) rfl (hb hby at_78) t k)
        refine Gen.on (b := s₁.setTop (mkF m 82 #[.val (.long q1), .second, .val (.long q2), .second, .val (.int p3), .val (.int (p3 &&& (3 : Int32))), .unset, .unset, .unset, .unset, .unset, .unset] [(.long (q1 &&& (9223372036854775807 : Int64)))])) ?_ (fun t k => XS.land X0.here hx rfl (hb hby at_81) rfl k)
        refine Gen.on (b := s₁.setTop (mkF m 84 #[.val (.long q1), .second, .val (.long q2), .second, .val (.int p3), .val (.int (p3 &&& (3 : Int32))), .val (.long (q1 &&& (9223372036854775807 : Int64))), .second, .unset, .unset, .unset, .unset] [])) ?_ (fun t k => XS.lstore X0.here hx rfl (hb hby at_82) rfl (l' := #[.val (.long q1), .second, .val (.long q2), .second, .val (.int p3), .val (.int (p3 &&& (3 : Int32))), .val (.long (q1 &&& (9223372036854775807 : Int64))), .second, .unset, .unset, .unset, .unset]) rfl k)
        refine Gen.on (b := s₁.setTop (mkF m 85 #[.val (.long q1), .second, .val (.long q2), .second, .val (.int p3), .val (.int (p3 &&& (3 : Int32))), .val (.long (q1 &&& (9223372036854775807 : Int64))), .second, .unset, .unset, .unset, .unset] [(.long q2)])) ?_ (fun t k => XS.lloadN X0.here hx rfl (hb hby at_84) rfl k)
        refine Gen.on (b := s₁.setTop (mkF m 88 #[.val (.long q1), .second, .val (.long q2), .second, .val (.int p3), .val (.int (p3 &&& (3 : Int32))), .val (.long (q1 &&& (9223372036854775807 : Int64))), .second, .unset, .unset, .unset, .unset] [(.long (9223372036854775807 : Int64)), (.long q2)])) ?_ (fun t k => X0.ldc2Long hx hown (mvT hZ (hw _ (List.mem_of_getElem? (i := 0) rfl))) (g := (mkF m 85 #[.val (.long q1), .second, .val (.long q2), .second, .val (.int p3), .val (.int (p3 &&& (3 : Int32))), .val (.long (q1 &&& (9223372036854775807 : Int64))), .second, .unset, .unset, .unset, .unset] [(.long q2)])) rfl (hb hby at_85) t k)
        refine Gen.on (b := s₁.setTop (mkF m 89 #[.val (.long q1), .second, .val (.long q2), .second, .val (.int p3), .val (.int (p3 &&& (3 : Int32))), .val (.long (q1 &&& (9223372036854775807 : Int64))), .second, .unset, .unset, .unset, .unset] [(.long (q2 &&& (9223372036854775807 : Int64)))])) ?_ (fun t k => XS.land X0.here hx rfl (hb hby at_88) rfl k)
        refine Gen.on (b := s₁.setTop (mkF m 91 #[.val (.long q1), .second, .val (.long q2), .second, .val (.int p3), .val (.int (p3 &&& (3 : Int32))), .val (.long (q1 &&& (9223372036854775807 : Int64))), .second, .val (.long (q2 &&& (9223372036854775807 : Int64))), .second, .unset, .unset] [])) ?_ (fun t k => XS.lstore X0.here hx rfl (hb hby at_89) rfl (l' := #[.val (.long q1), .second, .val (.long q2), .second, .val (.int p3), .val (.int (p3 &&& (3 : Int32))), .val (.long (q1 &&& (9223372036854775807 : Int64))), .second, .val (.long (q2 &&& (9223372036854775807 : Int64))), .second, .unset, .unset]) rfl k)
        refine Gen.on (b := s₁.setTop (mkF m 93 #[.val (.long q1), .second, .val (.long q2), .second, .val (.int p3), .val (.int (p3 &&& (3 : Int32))), .val (.long (q1 &&& (9223372036854775807 : Int64))), .second, .val (.long (q2 &&& (9223372036854775807 : Int64))), .second, .unset, .unset] [(.int p3)])) ?_ (fun t k => XS.iload X0.here hx rfl (hb hby at_91) rfl k)
        refine Gen.on (b := s₁.setTop (mkF m 94 #[.val (.long q1), .second, .val (.long q2), .second, .val (.int p3), .val (.int (p3 &&& (3 : Int32))), .val (.long (q1 &&& (9223372036854775807 : Int64))), .second, .val (.long (q2 &&& (9223372036854775807 : Int64))), .second, .unset, .unset] [(.int (4 : Int32)), (.int p3)])) ?_ (fun t k => XS.iconst X0.here hx rfl (hb hby at_93) k)
        refine Gen.on (b := s₁.setTop (mkF m 95 #[.val (.long q1), .second, .val (.long q2), .second, .val (.int p3), .val (.int (p3 &&& (3 : Int32))), .val (.long (q1 &&& (9223372036854775807 : Int64))), .second, .val (.long (q2 &&& (9223372036854775807 : Int64))), .second, .unset, .unset] [(.int (p3 &&& (4 : Int32)))])) ?_ (fun t k => XS.iand X0.here hx rfl (hb hby at_94) rfl k)
        by_cases c95_7 : (p3 &&& (4 : Int32)) = (0 : Int32)
        · refine Gen.on (b := s₁.setTop (mkF m 110 #[.val (.long q1), .second, .val (.long q2), .second, .val (.int p3), .val (.int (p3 &&& (3 : Int32))), .val (.long (q1 &&& (9223372036854775807 : Int64))), .second, .val (.long (q2 &&& (9223372036854775807 : Int64))), .second, .unset, .unset] [])) ?_ (fun t k => XS.ifYes X0.here hx rfl (pc0 := 95) (pc' := 110) rfl (hb hby at_95) rfl ((if0 _ _).trans (teq c95_7).1) (by decide) (by decide) k)
          refine Gen.on (b := s₁.setTop (mkF m 112 #[.val (.long q1), .second, .val (.long q2), .second, .val (.int p3), .val (.int (p3 &&& (3 : Int32))), .val (.long (q1 &&& (9223372036854775807 : Int64))), .second, .val (.long (q2 &&& (9223372036854775807 : Int64))), .second, .unset, .unset] [(.long (q1 &&& (9223372036854775807 : Int64)))])) ?_ (fun t k => XS.lload X0.here hx rfl (hb hby at_110) rfl k)
          refine Gen.on (b := s₁.setTop (mkF m 114 #[.val (.long q1), .second, .val (.long q2), .second, .val (.int p3), .val (.int (p3 &&& (3 : Int32))), .val (.long (q1 &&& (9223372036854775807 : Int64))), .second, .val (.long (q2 &&& (9223372036854775807 : Int64))), .second, .unset, .unset] [(.long (q2 &&& (9223372036854775807 : Int64))), (.long (q1 &&& (9223372036854775807 : Int64)))])) ?_ (fun t k => XS.lload X0.here hx rfl (hb hby at_112) rfl k)
          obtain ⟨_, _, ⟨T15, L15, k15, n15⟩, -, X15, ⟨Lc15, hQ15, l15, y15, z15⟩, st15⟩ := Jvm.LawKit.callS X0 hx (y := (⟨"com/example/streambed/streambed/stream/Demand", "product", "(JJ)J"⟩ : MethodName)) hown (mvT hZ (hw _ (List.mem_of_getElem? (i := 1) rfl))) (mvT hZ (hw _ (List.mem_of_getElem? (i := 2) rfl))) (mvT hZ (hw _ (List.mem_of_getElem? (i := 3) rfl))) (mvT hZ (hw _ (List.mem_of_getElem? (i := 4) rfl))) (by decide) (backOf (W := 0) (rm1 l Z a0 hw [] (q1 &&& (9223372036854775807 : Int64)) (q2 &&& (9223372036854775807 : Int64))  h0 n0 Z0 ) hZ (hw _ (List.mem_of_getElem? (i := 4) rfl)) (hw _ (List.mem_of_getElem? (i := 3) rfl)) (by decide) (by decide)) (g := (mkF m 114 #[.val (.long q1), .second, .val (.long q2), .second, .val (.int p3), .val (.int (p3 &&& (3 : Int32))), .val (.long (q1 &&& (9223372036854775807 : Int64))), .second, .val (.long (q2 &&& (9223372036854775807 : Int64))), .second, .unset, .unset] [(.long (q2 &&& (9223372036854775807 : Int64))), (.long (q1 &&& (9223372036854775807 : Int64)))])) rfl (by rw [hml]; rfl) (argsL := [(.long (q1 &&& (9223372036854775807 : Int64))), (.long (q2 &&& (9223372036854775807 : Int64)))]) (rest := []) (lenOf pd_0_0 rfl) rfl (by show 2 * 0 + _ ≤ _; exact Nat.le_of_eq rfl) (hb hby at_114) (fun _ _ => ⟨rfl, e0, (by decide : 0 + 0 ≤ _), (by decide : 0 + 0 ≤ _)⟩)
          dsimp only [Pt.U, Pt.locs, Pt.cells, Pt.slots] at X15 l15 y15 z15 st15 hQ15
          subst l15 y15 z15
          obtain ⟨rfl, N15q, e15⟩ := hQ15
          have N15 := Fr.app N0 N15q
          refine Gen.on (b := T15.setTop (mkF m 117 #[.val (.long q1), .second, .val (.long q2), .second, .val (.int p3), .val (.int (p3 &&& (3 : Int32))), .val (.long (q1 &&& (9223372036854775807 : Int64))), .second, .val (.long (q2 &&& (9223372036854775807 : Int64))), .second, .unset, .unset] [(.long (f1 (q1 &&& (9223372036854775807 : Int64)) (q2 &&& (9223372036854775807 : Int64))))])) ?_ (fun t k => st15 t k)
          refine Gen.on (b := T15.setTop (mkF m 119 #[.val (.long q1), .second, .val (.long q2), .second, .val (.int p3), .val (.int (p3 &&& (3 : Int32))), .val (.long (q1 &&& (9223372036854775807 : Int64))), .second, .val (.long (q2 &&& (9223372036854775807 : Int64))), .second, .unset, .unset] [(.long (q1 &&& (9223372036854775807 : Int64))), (.long (f1 (q1 &&& (9223372036854775807 : Int64)) (q2 &&& (9223372036854775807 : Int64))))])) ?_ (fun t k => XS.lload X15.here hx rfl (hb hby at_117) rfl k)
          refine Gen.on (b := T15.setTop (mkF m 121 #[.val (.long q1), .second, .val (.long q2), .second, .val (.int p3), .val (.int (p3 &&& (3 : Int32))), .val (.long (q1 &&& (9223372036854775807 : Int64))), .second, .val (.long (q2 &&& (9223372036854775807 : Int64))), .second, .unset, .unset] [(.long (q2 &&& (9223372036854775807 : Int64))), (.long (q1 &&& (9223372036854775807 : Int64))), (.long (f1 (q1 &&& (9223372036854775807 : Int64)) (q2 &&& (9223372036854775807 : Int64))))])) ?_ (fun t k => XS.lload X15.here hx rfl (hb hby at_119) rfl k)
          obtain ⟨_, _, ⟨T16, L16, k16, n16⟩, -, X16, ⟨Lc16, hQ16, l16, y16, z16⟩, st16⟩ := Jvm.LawKit.callS X15 hx (y := (⟨"com/example/streambed/streambed/stream/DemandProductPinLaw", "ref", "(JJ)J"⟩ : MethodName)) hown (mvT hZ (hw _ (List.mem_of_getElem? (i := 10) rfl))) (mvT hZ (hw _ (List.mem_of_getElem? (i := 11) rfl))) (mvT hZ (hw _ (List.mem_of_getElem? (i := 12) rfl))) (mvT hZ (hw _ (List.mem_of_getElem? (i := 13) rfl))) (by decide) (backOf (W := 2) (rm3 l Z a0 hw [] (q1 &&& (9223372036854775807 : Int64)) (q2 &&& (9223372036854775807 : Int64))  h0 n0 Z0 ) hZ (hw _ (List.mem_of_getElem? (i := 13) rfl)) (hw _ (List.mem_of_getElem? (i := 12) rfl)) (by decide) (by decide)) (g := (mkF m 121 #[.val (.long q1), .second, .val (.long q2), .second, .val (.int p3), .val (.int (p3 &&& (3 : Int32))), .val (.long (q1 &&& (9223372036854775807 : Int64))), .second, .val (.long (q2 &&& (9223372036854775807 : Int64))), .second, .unset, .unset] [(.long (q2 &&& (9223372036854775807 : Int64))), (.long (q1 &&& (9223372036854775807 : Int64))), (.long (f1 (q1 &&& (9223372036854775807 : Int64)) (q2 &&& (9223372036854775807 : Int64))))])) rfl (by rw [hml]; rfl) (argsL := [(.long (q1 &&& (9223372036854775807 : Int64))), (.long (q2 &&& (9223372036854775807 : Int64)))]) (rest := [(.long (f1 (q1 &&& (9223372036854775807 : Int64)) (q2 &&& (9223372036854775807 : Int64))))]) (lenOf pd_0_0 rfl) rfl (by show 2 * 0 + _ ≤ _; exact Nat.le_of_eq rfl) (hb hby at_121) (fun _ _ => ⟨rfl, e15, (by decide : 0 + 0 ≤ _), (by decide : 0 + 0 ≤ _)⟩)
          dsimp only [Pt.U, Pt.locs, Pt.cells, Pt.slots] at X16 l16 y16 z16 st16 hQ16
          subst l16 y16 z16
          obtain ⟨rfl, N16q, e16⟩ := hQ16
          have N16 := Fr.app N15 N16q
          refine Gen.on (b := T16.setTop (mkF m 124 #[.val (.long q1), .second, .val (.long q2), .second, .val (.int p3), .val (.int (p3 &&& (3 : Int32))), .val (.long (q1 &&& (9223372036854775807 : Int64))), .second, .val (.long (q2 &&& (9223372036854775807 : Int64))), .second, .unset, .unset] [(.long (f3 (q1 &&& (9223372036854775807 : Int64)) (q2 &&& (9223372036854775807 : Int64)))), (.long (f1 (q1 &&& (9223372036854775807 : Int64)) (q2 &&& (9223372036854775807 : Int64))))])) ?_ (fun t k => st16 t k)
          refine Gen.on (b := T16.setTop (mkF m 125 #[.val (.long q1), .second, .val (.long q2), .second, .val (.int p3), .val (.int (p3 &&& (3 : Int32))), .val (.long (q1 &&& (9223372036854775807 : Int64))), .second, .val (.long (q2 &&& (9223372036854775807 : Int64))), .second, .unset, .unset] [(.int (lcmpW (f1 (q1 &&& (9223372036854775807 : Int64)) (q2 &&& (9223372036854775807 : Int64))) (f3 (q1 &&& (9223372036854775807 : Int64)) (q2 &&& (9223372036854775807 : Int64)))))])) ?_ (fun t k => XS.lcmp X16.here hx rfl (hb hby at_124) rfl k)
          refine Gen.on (b := T16.setTop (mkF m 128 #[.val (.long q1), .second, .val (.long q2), .second, .val (.int p3), .val (.int (p3 &&& (3 : Int32))), .val (.long (q1 &&& (9223372036854775807 : Int64))), .second, .val (.long (q2 &&& (9223372036854775807 : Int64))), .second, .unset, .unset] [])) ?_ (fun t k => XS.ifNo X16.here hx rfl (hb hby at_125) rfl (own_eq1 (own_same _ _ (own_nn q1) (own_nn q2))).2 k)
          refine Gen.on (b := T16.setTop (mkF m 129 #[.val (.long q1), .second, .val (.long q2), .second, .val (.int p3), .val (.int (p3 &&& (3 : Int32))), .val (.long (q1 &&& (9223372036854775807 : Int64))), .second, .val (.long (q2 &&& (9223372036854775807 : Int64))), .second, .unset, .unset] [(.int (1 : Int32))])) ?_ (fun t k => XS.iconst X16.here hx rfl (hb hby at_128) k)
          refine Gen.on (b := T16.setTop (mkF m 133 #[.val (.long q1), .second, .val (.long q2), .second, .val (.int p3), .val (.int (p3 &&& (3 : Int32))), .val (.long (q1 &&& (9223372036854775807 : Int64))), .second, .val (.long (q2 &&& (9223372036854775807 : Int64))), .second, .unset, .unset] [(.int (1 : Int32))])) ?_ (fun t k => XS.goto X16.here hx rfl (pc0 := 129) (pc' := 133) rfl (hb hby at_129) (by decide) (by decide) k)
          refine own_retN (t := .boolean) X16 hx Bd.returns (by simp) (by decide) (hb hby at_133) (by decide) (by decide) ?_
          exact ⟨rfl, N16⟩
        · refine Gen.on (b := s₁.setTop (mkF m 98 #[.val (.long q1), .second, .val (.long q2), .second, .val (.int p3), .val (.int (p3 &&& (3 : Int32))), .val (.long (q1 &&& (9223372036854775807 : Int64))), .second, .val (.long (q2 &&& (9223372036854775807 : Int64))), .second, .unset, .unset] [])) ?_ (fun t k => XS.ifNo X0.here hx rfl (hb hby at_95) rfl ((if0 _ _).trans (feq c95_7).1) k)
          refine Gen.on (b := s₁.setTop (mkF m 100 #[.val (.long q1), .second, .val (.long q2), .second, .val (.int p3), .val (.int (p3 &&& (3 : Int32))), .val (.long (q1 &&& (9223372036854775807 : Int64))), .second, .val (.long (q2 &&& (9223372036854775807 : Int64))), .second, .unset, .unset] [(.long (q1 &&& (9223372036854775807 : Int64)))])) ?_ (fun t k => XS.lload X0.here hx rfl (hb hby at_98) rfl k)
          refine Gen.on (b := s₁.setTop (mkF m 102 #[.val (.long q1), .second, .val (.long q2), .second, .val (.int p3), .val (.int (p3 &&& (3 : Int32))), .val (.long (q1 &&& (9223372036854775807 : Int64))), .second, .val (.long (q2 &&& (9223372036854775807 : Int64))), .second, .val (.long (q1 &&& (9223372036854775807 : Int64))), .second] [])) ?_ (fun t k => XS.lstore X0.here hx rfl (hb hby at_100) rfl (l' := #[.val (.long q1), .second, .val (.long q2), .second, .val (.int p3), .val (.int (p3 &&& (3 : Int32))), .val (.long (q1 &&& (9223372036854775807 : Int64))), .second, .val (.long (q2 &&& (9223372036854775807 : Int64))), .second, .val (.long (q1 &&& (9223372036854775807 : Int64))), .second]) rfl k)
          refine Gen.on (b := s₁.setTop (mkF m 104 #[.val (.long q1), .second, .val (.long q2), .second, .val (.int p3), .val (.int (p3 &&& (3 : Int32))), .val (.long (q1 &&& (9223372036854775807 : Int64))), .second, .val (.long (q2 &&& (9223372036854775807 : Int64))), .second, .val (.long (q1 &&& (9223372036854775807 : Int64))), .second] [(.long (q2 &&& (9223372036854775807 : Int64)))])) ?_ (fun t k => XS.lload X0.here hx rfl (hb hby at_102) rfl k)
          refine Gen.on (b := s₁.setTop (mkF m 106 #[.val (.long q1), .second, .val (.long q2), .second, .val (.int p3), .val (.int (p3 &&& (3 : Int32))), .val (.long (q2 &&& (9223372036854775807 : Int64))), .second, .val (.long (q2 &&& (9223372036854775807 : Int64))), .second, .val (.long (q1 &&& (9223372036854775807 : Int64))), .second] [])) ?_ (fun t k => XS.lstore X0.here hx rfl (hb hby at_104) rfl (l' := #[.val (.long q1), .second, .val (.long q2), .second, .val (.int p3), .val (.int (p3 &&& (3 : Int32))), .val (.long (q2 &&& (9223372036854775807 : Int64))), .second, .val (.long (q2 &&& (9223372036854775807 : Int64))), .second, .val (.long (q1 &&& (9223372036854775807 : Int64))), .second]) rfl k)
          refine Gen.on (b := s₁.setTop (mkF m 108 #[.val (.long q1), .second, .val (.long q2), .second, .val (.int p3), .val (.int (p3 &&& (3 : Int32))), .val (.long (q2 &&& (9223372036854775807 : Int64))), .second, .val (.long (q2 &&& (9223372036854775807 : Int64))), .second, .val (.long (q1 &&& (9223372036854775807 : Int64))), .second] [(.long (q1 &&& (9223372036854775807 : Int64)))])) ?_ (fun t k => XS.lload X0.here hx rfl (hb hby at_106) rfl k)
          refine Gen.on (b := s₁.setTop (mkF m 110 #[.val (.long q1), .second, .val (.long q2), .second, .val (.int p3), .val (.int (p3 &&& (3 : Int32))), .val (.long (q2 &&& (9223372036854775807 : Int64))), .second, .val (.long (q1 &&& (9223372036854775807 : Int64))), .second, .val (.long (q1 &&& (9223372036854775807 : Int64))), .second] [])) ?_ (fun t k => XS.lstore X0.here hx rfl (hb hby at_108) rfl (l' := #[.val (.long q1), .second, .val (.long q2), .second, .val (.int p3), .val (.int (p3 &&& (3 : Int32))), .val (.long (q2 &&& (9223372036854775807 : Int64))), .second, .val (.long (q1 &&& (9223372036854775807 : Int64))), .second, .val (.long (q1 &&& (9223372036854775807 : Int64))), .second]) rfl k)
          refine Gen.on (b := s₁.setTop (mkF m 112 #[.val (.long q1), .second, .val (.long q2), .second, .val (.int p3), .val (.int (p3 &&& (3 : Int32))), .val (.long (q2 &&& (9223372036854775807 : Int64))), .second, .val (.long (q1 &&& (9223372036854775807 : Int64))), .second, .val (.long (q1 &&& (9223372036854775807 : Int64))), .second] [(.long (q2 &&& (9223372036854775807 : Int64)))])) ?_ (fun t k => XS.lload X0.here hx rfl (hb hby at_110) rfl k)
          refine Gen.on (b := s₁.setTop (mkF m 114 #[.val (.long q1), .second, .val (.long q2), .second, .val (.int p3), .val (.int (p3 &&& (3 : Int32))), .val (.long (q2 &&& (9223372036854775807 : Int64))), .second, .val (.long (q1 &&& (9223372036854775807 : Int64))), .second, .val (.long (q1 &&& (9223372036854775807 : Int64))), .second] [(.long (q1 &&& (9223372036854775807 : Int64))), (.long (q2 &&& (9223372036854775807 : Int64)))])) ?_ (fun t k => XS.lload X0.here hx rfl (hb hby at_112) rfl k)
          obtain ⟨_, _, ⟨T17, L17, k17, n17⟩, -, X17, ⟨Lc17, hQ17, l17, y17, z17⟩, st17⟩ := Jvm.LawKit.callS X0 hx (y := (⟨"com/example/streambed/streambed/stream/Demand", "product", "(JJ)J"⟩ : MethodName)) hown (mvT hZ (hw _ (List.mem_of_getElem? (i := 1) rfl))) (mvT hZ (hw _ (List.mem_of_getElem? (i := 2) rfl))) (mvT hZ (hw _ (List.mem_of_getElem? (i := 3) rfl))) (mvT hZ (hw _ (List.mem_of_getElem? (i := 4) rfl))) (by decide) (backOf (W := 0) (rm1 l Z a0 hw [] (q2 &&& (9223372036854775807 : Int64)) (q1 &&& (9223372036854775807 : Int64))  h0 n0 Z0 ) hZ (hw _ (List.mem_of_getElem? (i := 4) rfl)) (hw _ (List.mem_of_getElem? (i := 3) rfl)) (by decide) (by decide)) (g := (mkF m 114 #[.val (.long q1), .second, .val (.long q2), .second, .val (.int p3), .val (.int (p3 &&& (3 : Int32))), .val (.long (q2 &&& (9223372036854775807 : Int64))), .second, .val (.long (q1 &&& (9223372036854775807 : Int64))), .second, .val (.long (q1 &&& (9223372036854775807 : Int64))), .second] [(.long (q1 &&& (9223372036854775807 : Int64))), (.long (q2 &&& (9223372036854775807 : Int64)))])) rfl (by rw [hml]; rfl) (argsL := [(.long (q2 &&& (9223372036854775807 : Int64))), (.long (q1 &&& (9223372036854775807 : Int64)))]) (rest := []) (lenOf pd_0_0 rfl) rfl (by show 2 * 0 + _ ≤ _; exact Nat.le_of_eq rfl) (hb hby at_114) (fun _ _ => ⟨rfl, e0, (by decide : 0 + 0 ≤ _), (by decide : 0 + 0 ≤ _)⟩)
          dsimp only [Pt.U, Pt.locs, Pt.cells, Pt.slots] at X17 l17 y17 z17 st17 hQ17
          subst l17 y17 z17
          obtain ⟨rfl, N17q, e17⟩ := hQ17
          have N17 := Fr.app N0 N17q
          refine Gen.on (b := T17.setTop (mkF m 117 #[.val (.long q1), .second, .val (.long q2), .second, .val (.int p3), .val (.int (p3 &&& (3 : Int32))), .val (.long (q2 &&& (9223372036854775807 : Int64))), .second, .val (.long (q1 &&& (9223372036854775807 : Int64))), .second, .val (.long (q1 &&& (9223372036854775807 : Int64))), .second] [(.long (f1 (q2 &&& (9223372036854775807 : Int64)) (q1 &&& (9223372036854775807 : Int64))))])) ?_ (fun t k => st17 t k)
          refine Gen.on (b := T17.setTop (mkF m 119 #[.val (.long q1), .second, .val (.long q2), .second, .val (.int p3), .val (.int (p3 &&& (3 : Int32))), .val (.long (q2 &&& (9223372036854775807 : Int64))), .second, .val (.long (q1 &&& (9223372036854775807 : Int64))), .second, .val (.long (q1 &&& (9223372036854775807 : Int64))), .second] [(.long (q2 &&& (9223372036854775807 : Int64))), (.long (f1 (q2 &&& (9223372036854775807 : Int64)) (q1 &&& (9223372036854775807 : Int64))))])) ?_ (fun t k => XS.lload X17.here hx rfl (hb hby at_117) rfl k)
          refine Gen.on (b := T17.setTop (mkF m 121 #[.val (.long q1), .second, .val (.long q2), .second, .val (.int p3), .val (.int (p3 &&& (3 : Int32))), .val (.long (q2 &&& (9223372036854775807 : Int64))), .second, .val (.long (q1 &&& (9223372036854775807 : Int64))), .second, .val (.long (q1 &&& (9223372036854775807 : Int64))), .second] [(.long (q1 &&& (9223372036854775807 : Int64))), (.long (q2 &&& (9223372036854775807 : Int64))), (.long (f1 (q2 &&& (9223372036854775807 : Int64)) (q1 &&& (9223372036854775807 : Int64))))])) ?_ (fun t k => XS.lload X17.here hx rfl (hb hby at_119) rfl k)
          obtain ⟨_, _, ⟨T18, L18, k18, n18⟩, -, X18, ⟨Lc18, hQ18, l18, y18, z18⟩, st18⟩ := Jvm.LawKit.callS X17 hx (y := (⟨"com/example/streambed/streambed/stream/DemandProductPinLaw", "ref", "(JJ)J"⟩ : MethodName)) hown (mvT hZ (hw _ (List.mem_of_getElem? (i := 10) rfl))) (mvT hZ (hw _ (List.mem_of_getElem? (i := 11) rfl))) (mvT hZ (hw _ (List.mem_of_getElem? (i := 12) rfl))) (mvT hZ (hw _ (List.mem_of_getElem? (i := 13) rfl))) (by decide) (backOf (W := 2) (rm3 l Z a0 hw [] (q2 &&& (9223372036854775807 : Int64)) (q1 &&& (9223372036854775807 : Int64))  h0 n0 Z0 ) hZ (hw _ (List.mem_of_getElem? (i := 13) rfl)) (hw _ (List.mem_of_getElem? (i := 12) rfl)) (by decide) (by decide)) (g := (mkF m 121 #[.val (.long q1), .second, .val (.long q2), .second, .val (.int p3), .val (.int (p3 &&& (3 : Int32))), .val (.long (q2 &&& (9223372036854775807 : Int64))), .second, .val (.long (q1 &&& (9223372036854775807 : Int64))), .second, .val (.long (q1 &&& (9223372036854775807 : Int64))), .second] [(.long (q1 &&& (9223372036854775807 : Int64))), (.long (q2 &&& (9223372036854775807 : Int64))), (.long (f1 (q2 &&& (9223372036854775807 : Int64)) (q1 &&& (9223372036854775807 : Int64))))])) rfl (by rw [hml]; rfl) (argsL := [(.long (q2 &&& (9223372036854775807 : Int64))), (.long (q1 &&& (9223372036854775807 : Int64)))]) (rest := [(.long (f1 (q2 &&& (9223372036854775807 : Int64)) (q1 &&& (9223372036854775807 : Int64))))]) (lenOf pd_0_0 rfl) rfl (by show 2 * 0 + _ ≤ _; exact Nat.le_of_eq rfl) (hb hby at_121) (fun _ _ => ⟨rfl, e17, (by decide : 0 + 0 ≤ _), (by decide : 0 + 0 ≤ _)⟩)
          dsimp only [Pt.U, Pt.locs, Pt.cells, Pt.slots] at X18 l18 y18 z18 st18 hQ18
          subst l18 y18 z18
          obtain ⟨rfl, N18q, e18⟩ := hQ18
          have N18 := Fr.app N17 N18q
          refine Gen.on (b := T18.setTop (mkF m 124 #[.val (.long q1), .second, .val (.long q2), .second, .val (.int p3), .val (.int (p3 &&& (3 : Int32))), .val (.long (q2 &&& (9223372036854775807 : Int64))), .second, .val (.long (q1 &&& (9223372036854775807 : Int64))), .second, .val (.long (q1 &&& (9223372036854775807 : Int64))), .second] [(.long (f3 (q2 &&& (9223372036854775807 : Int64)) (q1 &&& (9223372036854775807 : Int64)))), (.long (f1 (q2 &&& (9223372036854775807 : Int64)) (q1 &&& (9223372036854775807 : Int64))))])) ?_ (fun t k => st18 t k)
          refine Gen.on (b := T18.setTop (mkF m 125 #[.val (.long q1), .second, .val (.long q2), .second, .val (.int p3), .val (.int (p3 &&& (3 : Int32))), .val (.long (q2 &&& (9223372036854775807 : Int64))), .second, .val (.long (q1 &&& (9223372036854775807 : Int64))), .second, .val (.long (q1 &&& (9223372036854775807 : Int64))), .second] [(.int (lcmpW (f1 (q2 &&& (9223372036854775807 : Int64)) (q1 &&& (9223372036854775807 : Int64))) (f3 (q2 &&& (9223372036854775807 : Int64)) (q1 &&& (9223372036854775807 : Int64)))))])) ?_ (fun t k => XS.lcmp X18.here hx rfl (hb hby at_124) rfl k)
          refine Gen.on (b := T18.setTop (mkF m 128 #[.val (.long q1), .second, .val (.long q2), .second, .val (.int p3), .val (.int (p3 &&& (3 : Int32))), .val (.long (q2 &&& (9223372036854775807 : Int64))), .second, .val (.long (q1 &&& (9223372036854775807 : Int64))), .second, .val (.long (q1 &&& (9223372036854775807 : Int64))), .second] [])) ?_ (fun t k => XS.ifNo X18.here hx rfl (hb hby at_125) rfl (own_eq1 (own_same _ _ (own_nn q2) (own_nn q1))).2 k)
          refine Gen.on (b := T18.setTop (mkF m 129 #[.val (.long q1), .second, .val (.long q2), .second, .val (.int p3), .val (.int (p3 &&& (3 : Int32))), .val (.long (q2 &&& (9223372036854775807 : Int64))), .second, .val (.long (q1 &&& (9223372036854775807 : Int64))), .second, .val (.long (q1 &&& (9223372036854775807 : Int64))), .second] [(.int (1 : Int32))])) ?_ (fun t k => XS.iconst X18.here hx rfl (hb hby at_128) k)
          refine Gen.on (b := T18.setTop (mkF m 133 #[.val (.long q1), .second, .val (.long q2), .second, .val (.int p3), .val (.int (p3 &&& (3 : Int32))), .val (.long (q2 &&& (9223372036854775807 : Int64))), .second, .val (.long (q1 &&& (9223372036854775807 : Int64))), .second, .val (.long (q1 &&& (9223372036854775807 : Int64))), .second] [(.int (1 : Int32))])) ?_ (fun t k => XS.goto X18.here hx rfl (pc0 := 129) (pc' := 133) rfl (hb hby at_129) (by decide) (by decide) k)
          refine own_retN (t := .boolean) X18 hx Bd.returns (by simp) (by decide) (hb hby at_133) (by decide) (by decide) ?_
          exact ⟨rfl, N18⟩
set_option maxRecDepth 65536 in
set_option maxHeartbeats 40000000 in
theorem comes_1 {Post : Tables → Env → Array Value → State → Outcome → State → Prop} (hpost : ∀ tb e args s v u, (limb_1_1.after args s (.returned v) u = true ∧ limb_1_2.after args s (.returned v) u = true ∧ True) → FrameEnd s (.returned v) u (Jvm.fieldLocs frame_1_writes args s ++ Jvm.arrayLocs frame_1_arrays args s ++ Jvm.staticLocs frame_1_statics s) 0 0 → Post tb e args s (.returned v) u) :
    ArmFor flags0 classFile x code maxLocals ret World_1 tables_1 room_1 Calls_1 rest_1 Pre_1 Post := by
  intro l hfl _ _ p e ha hc hk s m args below hf hA hF happ hP
  obtain ⟨hcalls, hrest, hpre⟩ := hP
  obtain ⟨-, -, -, hnamed, -, -, -, hat⟩ := (Spec.applies_iff hf).mp happ
  obtain ⟨hg, hn⟩ := and_e (Cond.before_iff.mp (show (Jvm.Cond.and given_1 narrow_1).before args s = true from hpre))
  obtain ⟨hcount, hr1⟩ := and_e hg
  obtain ⟨ha0, hr2⟩ := and_e hr1
  obtain ⟨ha1, hr3⟩ := and_e hr2
  obtain ⟨w0, w1, w2, rfl⟩ : ∃ w0 w1 w2 : Value, args = #[w0, w1, w2] := by
    have hs : args.size = 3 := by simpa [Cond.value, given_1] using hcount
    obtain ⟨L⟩ := args
    match L, hs with
    | [w0, w1, w2], _ => exact ⟨w0, w1, w2, rfl⟩
  have hw := fun d (hd : d ∈ tables_1) => atoms_spec (ws := Jvm.Cond.code x code maxLocals ret :: tables_1) hat d (List.mem_cons_of_mem _ hd)
  have hfit : Fit s := fun {y c} hc i hi => by
    obtain ⟨ha, rfl⟩ := Array.getElem?_eq_some_iff.mp hc
    have q := List.all_eq_true.mp ((Array.all_eq_true_iff_forall_mem.mp hF) _ (Array.getElem_mem ha)) i (List.mem_range.mpr hi)
    simpa [Array.getElem?_eq_getElem hi] using q
  obtain ⟨i0, ei0⟩ := isL_v ha0
  obtain rfl : w0 = (.long i0) := Option.some.inj ei0
  obtain ⟨i1, ei1⟩ := isL_v ha1
  obtain rfl : w1 = (.long i1) := Option.some.inj ei1
  obtain ⟨i2, ei2⟩ := is_v hr3
  obtain rfl : w2 = (.int i2) := Option.some.inj ei2
  obtain ⟨n, o, h1, h2, h3, _, L, rfl, ⟨rfl, N⟩, hq⟩ := rm0 l s _ hw tables_1 i0 i1 i2 s.heap s.heap.size (Nat.le_refl _)  p e ha hc hk s m _ below hf ((Spec.applies_iff_loose hf).mp happ).1 ⟨rfl, State.Warmed39.refl s, rfl⟩ trivial
  refine ⟨n, _, h1, h2, h3, hpost _ _ _ _ _ _ ⟨Cond.after_iff.mpr rfl, Cond.after_iff.mpr (eq_i res_at (Term.int_eval (1)) rfl), trivial⟩ ⟨hq.1, hq.2.1, (hq.2.2.sift fun y hy => Or.inr (N y hy)).mono (by decide) (by decide)⟩⟩
theorem main_1_1 : Claimed_1_1 := comes_1 fun _ _ _ _ _ _ h hF => ⟨h.1, hF⟩
theorem main_1_2 : Claimed_1_2 := comes_1 fun _ _ _ _ _ _ h hF => ⟨h.2.1, hF⟩
end Jvm.Pilot.@@N@@
namespace Jvm.Pilot.@@N@@
open Jvm Jvm.ClassFile Sem Op Lib Jvm.Free Jvm.Stand Jvm.Pilot.@@N@@.Jvm.D
/-! MADE BY PROGRAM (witnessworld.py) out of the Statement's table words and the real class files: 10 classes; the members and pool entries that the words name. The judged class is class 1, her method 3. -/
namespace start1
open Jvm.ClassFile
def u (s : String) : CpInfo := .utf8 (stringToUtf16 s)
/-- a pool by its gaps: so many unusable entries, then the entry; so many at the end -/
def gap : Nat → List CpInfo → List CpInfo
  | 0, r => r
  | n + 1, r => .unusable :: gap n r
def poolList (es : List (Nat × CpInfo)) (last : Nat) : List CpInfo := es.foldr (fun e r => gap e.1 (e.2 :: r)) (gap last [])
def pool (es : List (Nat × CpInfo)) (last : Nat) : Array CpInfo := ⟨poolList es last⟩
def fileOf (pool : Array CpInfo) (this : Nat) (attrs : Array Attribute := #[]) (ms : Array MethodInfo := #[]) (fl : Nat := 33) (sup : Nat := 0) (ifs : Array Nat := #[]) (fds : Array FieldInfo := #[]) : ClassFile where
  minorVersion := 0
  majorVersion := 65
  constantPool := pool
  accessFlags := fl
  thisClass := this
  superClass := sup
  interfaces := ifs
  fields := fds
  methods := ms
  attributes := attrs
def plain (name : String) (sup : Option ClassId) : Class where
  name := name
  kind := .ordinary
  loader := none
  accessFlags := 33
  super := sup
  interfaces := #[]
  cf := none
  fields := #[]
  methods := #[]
  instanceTypes := #[]
  staticTypes := #[]
  resolved := #[]
  callSites := []
  init := .initialized
  statics := none
  mirror := none

def pool0 : Array CpInfo := pool [(5, u "<init>"), (0, u "()V"), (1, .class_ 10), (1, u "java/lang/Object")] 113

def k0m0 : Method := { name := "<init>", desc := "()V", sig := { parameters := [], returnType := none }, accessFlags := 1, code := none }
/-- java/lang/Object -/
def k0 : Class := { plain "java/lang/Object" none with
  accessFlags := 33
  interfaces := #[]
  cf := some (fileOf pool0 8 #[] #[{ accessFlags := 1, nameIndex := 5, descriptorIndex := 6, attributes := #[] }] 33 0 #[] #[])
  fields := #[]
  methods := #[k0m0]
  instanceTypes := #[]
  staticTypes := #[]
  resolved := Array.replicate 124 none
  statics := none }

def pool1 : Array CpInfo := pool [(2, .class_ 4), (1, u "java/lang/Object"), (0, u "<init>"), (0, u "()V"), (2, .long 9223372036854775807), (1, .long 3), (1, .long 2147483647), (1, .methodref 16 17), (0, .class_ 18), (0, .nameAndType 19 20), (0, u "com/example/streambed/streambed/stream/DemandProductPinLaw"), (0, u "near"), (0, u "(JJ)J"), (0, .long 65535), (1, .methodref 24 25), (0, .class_ 26), (0, .nameAndType 27 20), (0, u "com/example/streambed/streambed/stream/Demand"), (0, u "product"), (0, .methodref 16 29), (0, .nameAndType 30 20), (0, u "ref"), (3, u "law"), (0, u "(JJI)Z")] 2

def k1m0 : Method := { name := "<init>", desc := "()V", sig := { parameters := [], returnType := none }, accessFlags := 1, code := none }
def k1c1 : Code := { maxStack := 6, maxLocals := 4, code := method_2_code, exceptionTable := #[], attributes := #[] }
def k1m1 : Method := { name := "ref", desc := "(JJ)J", sig := { parameters := [.long, .long], returnType := some .long }, accessFlags := 10, code := some k1c1 }
def k1c2 : Code := { maxStack := 4, maxLocals := 10, code := method_3_code, exceptionTable := #[], attributes := #[] }
def k1m2 : Method := { name := "near", desc := "(JJ)J", sig := { parameters := [.long, .long], returnType := some .long }, accessFlags := 10, code := some k1c2 }
def k1c3 : Code := { maxStack := 6, maxLocals := 12, code := code, exceptionTable := #[], attributes := #[] }
def k1m3 : Method := { name := "law", desc := "(JJI)Z", sig := { parameters := [.long, .long, .int], returnType := some .boolean }, accessFlags := 9, code := some k1c3 }
/-- com/example/streambed/streambed/stream/DemandProductPinLaw -/
def k1 : Class := { plain "com/example/streambed/streambed/stream/DemandProductPinLaw" (some 0) with
  accessFlags := 49
  interfaces := #[]
  cf := some (fileOf pool1 16 #[] #[{ accessFlags := 1, nameIndex := 5, descriptorIndex := 6, attributes := #[] }, { accessFlags := 10, nameIndex := 30, descriptorIndex := 20, attributes := #[] }, { accessFlags := 10, nameIndex := 19, descriptorIndex := 20, attributes := #[] }, { accessFlags := 9, nameIndex := 34, descriptorIndex := 35, attributes := #[] }] 49 2 #[] #[])
  fields := #[]
  methods := #[k1m0, k1m1, k1m2, k1m3]
  instanceTypes := #[]
  staticTypes := #[]
  resolved := Array.replicate 38 none
  statics := none }

def pool2 : Array CpInfo := pool [(2, .class_ 4), (1, u "java/lang/Object"), (0, u "<init>"), (0, u "()V"), (2, .long 9223372036854775807), (1, .methodref 12 13), (0, .class_ 14), (0, .nameAndType 15 16), (0, u "java/lang/Math"), (0, u "multiplyHigh"), (0, u "(JJ)J"), (7, .class_ 26), (1, u "com/example/streambed/streambed/stream/Demand"), (14, .class_ 42), (0, u "com/example/streambed/streambed/stream/Demand$1"), (3, u "NONE"), (0, u "Ljava/util/concurrent/Flow$Subscription;"), (3, u "product")] 30

def k2m0 : Method := { name := "<init>", desc := "()V", sig := { parameters := [], returnType := none }, accessFlags := 2, code := none }
def k2c1 : Code := { maxStack := 4, maxLocals := 8, code := prog_10_method_3_code, exceptionTable := #[], attributes := #[] }
def k2m1 : Method := { name := "product", desc := "(JJ)J", sig := { parameters := [.long, .long], returnType := some .long }, accessFlags := 8, code := some k2c1 }
/-- com/example/streambed/streambed/stream/Demand -/
def k2 : Class := { plain "com/example/streambed/streambed/stream/Demand" (some 0) with
  accessFlags := 48
  interfaces := #[]
  cf := some (fileOf pool2 24 #[.nestMembers #[41]] #[{ accessFlags := 2, nameIndex := 5, descriptorIndex := 6, attributes := #[] }, { accessFlags := 8, nameIndex := 51, descriptorIndex := 16, attributes := #[] }] 48 2 #[] #[{ accessFlags := 24, nameIndex := 46, descriptorIndex := 47, attributes := #[] }])
  fields := #[{ name := "NONE", type := (.object "java/util/concurrent/Flow$Subscription"), accessFlags := 24, slot := 0, constantValue := 0 }]
  methods := #[k2m0, k2m1]
  instanceTypes := #[]
  staticTypes := #[(.object "java/util/concurrent/Flow$Subscription")]
  resolved := Array.replicate 82 none
  statics := none }

def pool3 : Array CpInfo := pool [(1, .class_ 2), (0, u "java/lang/Math"), (1, .class_ 6), (1, u "java/lang/Object"), (0, u "<init>"), (0, u "()V"), (89, .class_ 100), (1, u "java/lang/Math$RandomNumberGeneratorHolder"), (20, u "(JJ)J"), (16, .long 4294967295), (3, u "multiplyHigh"), (29, u "negativeZeroFloatBits"), (0, u "J"), (2, u "negativeZeroDoubleBits"), (68, u "$assertionsDisabled"), (0, u "Z"), (91, u "twoToTheDoubleScaleDown"), (0, u "D"), (4, u "twoToTheDoubleScaleUp"), (9, u "E"), (3, u "PI"), (2, u "TAU"), (2, u "DEGREES_TO_RADIANS"), (0, u "RADIANS_TO_DEGREES")] 94

def k3m0 : Method := { name := "<init>", desc := "()V", sig := { parameters := [], returnType := none }, accessFlags := 2, code := none }
def k3c1 : Code := { maxStack := 6, maxLocals := 20, code := jdk_29_method_45_code, exceptionTable := #[], attributes := #[] }
def k3m1 : Method := { name := "multiplyHigh", desc := "(JJ)J", sig := { parameters := [.long, .long], returnType := some .long }, accessFlags := 9, code := some k3c1 }
/-- java/lang/Math -/
def k3 : Class := { plain "java/lang/Math" (some 0) with
  accessFlags := 49
  interfaces := #[]
  cf := some (fileOf pool3 1 #[.nestMembers #[98]] #[{ accessFlags := 2, nameIndex := 7, descriptorIndex := 8, attributes := #[] }, { accessFlags := 9, nameIndex := 142, descriptorIndex := 121, attributes := #[] }] 49 4 #[] #[{ accessFlags := 25, nameIndex := 354, descriptorIndex := 339, attributes := #[] }, { accessFlags := 25, nameIndex := 358, descriptorIndex := 339, attributes := #[] }, { accessFlags := 25, nameIndex := 361, descriptorIndex := 339, attributes := #[] }, { accessFlags := 26, nameIndex := 364, descriptorIndex := 339, attributes := #[] }, { accessFlags := 26, nameIndex := 365, descriptorIndex := 339, attributes := #[] }, { accessFlags := 26, nameIndex := 172, descriptorIndex := 173, attributes := #[] }, { accessFlags := 26, nameIndex := 176, descriptorIndex := 173, attributes := #[] }, { accessFlags := 8, nameIndex := 344, descriptorIndex := 339, attributes := #[] }, { accessFlags := 8, nameIndex := 338, descriptorIndex := 339, attributes := #[] }, { accessFlags := 4120, nameIndex := 245, descriptorIndex := 246, attributes := #[] }])
  fields := #[{ name := "E", type := .double, accessFlags := 25, slot := 0, constantValue := 0 }, { name := "PI", type := .double, accessFlags := 25, slot := 1, constantValue := 0 }, { name := "TAU", type := .double, accessFlags := 25, slot := 2, constantValue := 0 }, { name := "DEGREES_TO_RADIANS", type := .double, accessFlags := 26, slot := 3, constantValue := 0 }, { name := "RADIANS_TO_DEGREES", type := .double, accessFlags := 26, slot := 4, constantValue := 0 }, { name := "negativeZeroFloatBits", type := .long, accessFlags := 26, slot := 5, constantValue := 0 }, { name := "negativeZeroDoubleBits", type := .long, accessFlags := 26, slot := 6, constantValue := 0 }, { name := "twoToTheDoubleScaleUp", type := .double, accessFlags := 8, slot := 7, constantValue := 0 }, { name := "twoToTheDoubleScaleDown", type := .double, accessFlags := 8, slot := 8, constantValue := 0 }, { name := "$assertionsDisabled", type := .boolean, accessFlags := 4120, slot := 9, constantValue := 0 }]
  methods := #[k3m0, k3m1]
  instanceTypes := #[]
  staticTypes := #[.double, .double, .double, .double, .double, .long, .long, .double, .double, .boolean]
  resolved := Array.replicate 460 none
  statics := none }

def pool4 : Array CpInfo := pool [(1, u "java/lang/Cloneable"), (0, .class_ 1), (0, u "java/lang/Object"), (0, .class_ 3)] 3

/-- java/lang/Cloneable -/
def k4 : Class := { plain "java/lang/Cloneable" (some 0) with
  accessFlags := 1537
  interfaces := #[]
  cf := some (fileOf pool4 2 #[] #[] 1537 4 #[] #[])
  fields := #[]
  methods := #[]
  instanceTypes := #[]
  staticTypes := #[]
  resolved := Array.replicate 8 none
  statics := none }

def pool5 : Array CpInfo := pool [(1, u "java/io/Serializable"), (0, .class_ 1), (0, u "java/lang/Object"), (0, .class_ 3)] 3

/-- java/io/Serializable -/
def k5 : Class := { plain "java/io/Serializable" (some 0) with
  accessFlags := 1537
  interfaces := #[]
  cf := some (fileOf pool5 2 #[] #[] 1537 4 #[] #[])
  fields := #[]
  methods := #[]
  instanceTypes := #[]
  staticTypes := #[]
  resolved := Array.replicate 8 none
  statics := none }

/-- the primitive byte -/
def k6 : Class := { plain "byte" none with kind := .primitive 'B', accessFlags := 0x411 }
/-- [B -/
def k7 : Class := { plain "[B" (some 0) with kind := .array 6 .byte, interfaces := #[4, 5], accessFlags := 1041 }

/-- the primitive int -/
def k8 : Class := { plain "int" none with kind := .primitive 'I', accessFlags := 0x411 }
/-- [I -/
def k9 : Class := { plain "[I" (some 0) with kind := .array 8 .int, interfaces := #[4, 5], accessFlags := 1041 }

def heap : Heap := #[]
def classes : Array Class := #[k0, k1, k2, k3, k4, k5, k6, k7, k8, k9]
def interned : List (Array UInt16 × Addr) := []
def slotsUsed : Nat := 0
def theMethod : MethodId := ⟨1, 3⟩
def args0 : Array Value := #[.long 5, .long 7, .int 1]
def aboutOver (below : List Frame) : State where
  vm := { classes := classes, interned := interned.toArray }
  heap := heap
  slotsUsed := slotsUsed
  threads := #[{ frames := .invoking theMethod args0 :: below }]
def below0 : List Frame := [.native { method := ⟨0, 0⟩, args := #[] }]
def about1 : State := aboutOver below0
def p0 : Program := .bare "" "" ""
def e0 : Env := launch0.env 0 0 0
theorem w_frames : about1.frames = Frame.invoking theMethod args0 :: below0 := rfl
set_option maxRecDepth 65536 in
theorem w_args : argsFit about1.vm theMethod args0 = true := by decide +kernel
set_option maxRecDepth 65536 in
theorem w_heap : heapFits about1 = true := by decide +kernel
set_option maxRecDepth 65536 in
theorem w_runnable : about1.curStatus? = some .runnable := by decide +kernel
set_option maxRecDepth 65536 in
theorem w_alone : about1.alone = true := by decide +kernel
set_option maxRecDepth 65536 in
theorem w_named : about1.methodNamed? x = some theMethod := by decide +kernel
set_option maxRecDepth 65536 in
theorem w_hears : about1.hears theMethod below0 = true := by decide +kernel
set_option maxRecDepth 65536 in
theorem w_ripe : about1.ripe theMethod args0 below0 = true := by decide +kernel
theorem w_running : about1.status = .running := rfl
set_option maxRecDepth 65536 in
theorem w_room : about1.hasRoom e0.platform room_1 = true :=
  launch0.hasRoom_least _ room_1 (by decide +kernel) (by decide +kernel) (by decide +kernel) (by decide +kernel) (by decide +kernel) (by decide +kernel)
theorem allAtoms_all (ts : List Jvm.Cond) (a : Array Jvm.Value) (st : Jvm.State) : (allAtoms ts).before a st = ts.all (fun c => c.before a st) := by
  induction ts with
  | nil => rfl
  | cons c t ih =>
    show (Jvm.Cond.and c (allAtoms t)).before a st = _
    rw [Jvm.Cond.before_and, ih, List.all_cons]
def words1 : List Jvm.Cond := Jvm.Cond.code x code maxLocals ret :: tables_1
/-- a 'code' word, met by the world's own term for the bytes: nothing is compared byte by byte -/
theorem code_word {y : MethodName} {bytes : ByteArray} {mx : Nat} {rt : Option FieldType} {a : Array Value} {s : State} {m : MethodId} {meth : Method} {c : Code} (h1 : s.methodNamed? y = some m) (h2 : s.vm.method? m = some meth) (h3 : meth.code = some c) (h4 : c.code = bytes)
    (h5 : (c.maxLocals == mx && c.exceptionTable.isEmpty && decide (c.maxStack ≤ mostOperands) && decide (meth.sig.returnType = rt) && !meth.locks && decide (parseMethodDescriptor y.desc = some meth.sig)) = true) : (Jvm.Cond.code y bytes mx rt).before a s = true := by
  simp only [Bool.and_eq_true, beq_iff_eq, Bool.not_eq_true', decide_eq_true_eq] at h5
  obtain ⟨⟨⟨⟨⟨g1, g2⟩, g3⟩, g4⟩, g5⟩, g6⟩ := h5
  simp [Cond.before, Cond.holds, Cond.value, h1, h2, h3, h4, g1, g2, g3, g4, g5, g6]
def isCode : Jvm.Cond → Bool
  | .code _ _ _ _ => true
  | _ => false
theorem all_split {L : List Jvm.Cond} {P : Jvm.Cond → Bool} (h1 : L.all (fun c => isCode c || P c) = true) (h2 : ∀ c ∈ L.filter isCode, P c = true) : L.all P = true := by
  refine List.all_eq_true.mpr fun c hc => ?_
  have h := List.all_eq_true.mp h1 c hc
  rcases Bool.eq_false_or_eq_true (isCode c) with hi | hi
  · exact h2 c (List.mem_filter.mpr ⟨hc, hi⟩)
  · simpa [hi] using h
set_option maxRecDepth 65536 in
theorem w_c0 : (Jvm.Cond.code x code maxLocals ret).before args0 about1 = true := code_word (m := ⟨1, 3⟩) (meth := k1m3) (c := k1c3) (by decide +kernel) rfl rfl rfl (by decide +kernel)
set_option maxRecDepth 65536 in
theorem w_c1 : (Jvm.Cond.code ({ cls := "com/example/streambed/streambed/stream/Demand", name := "product", desc := "(JJ)J" } : Jvm.MethodName) prog_10_method_3_code (8 : Nat) (Option.some Jvm.ClassFile.FieldType.long)).before args0 about1 = true := code_word (m := ⟨2, 1⟩) (meth := k2m1) (c := k2c1) (by decide +kernel) rfl rfl rfl (by decide +kernel)
set_option maxRecDepth 65536 in
theorem w_c2 : (Jvm.Cond.code ({ cls := "java/lang/Math", name := "multiplyHigh", desc := "(JJ)J" } : Jvm.MethodName) jdk_29_method_45_code (20 : Nat) (Option.some Jvm.ClassFile.FieldType.long)).before args0 about1 = true := code_word (m := ⟨3, 1⟩) (meth := k3m1) (c := k3c1) (by decide +kernel) rfl rfl rfl (by decide +kernel)
set_option maxRecDepth 65536 in
theorem w_c3 : (Jvm.Cond.code ({ cls := "com/example/streambed/streambed/stream/DemandProductPinLaw", name := "ref", desc := "(JJ)J" } : Jvm.MethodName) method_2_code (4 : Nat) (Option.some Jvm.ClassFile.FieldType.long)).before args0 about1 = true := code_word (m := ⟨1, 1⟩) (meth := k1m1) (c := k1c1) (by decide +kernel) rfl rfl rfl (by decide +kernel)
set_option maxRecDepth 65536 in
theorem w_c4 : (Jvm.Cond.code ({ cls := "com/example/streambed/streambed/stream/DemandProductPinLaw", name := "near", desc := "(JJ)J" } : Jvm.MethodName) method_3_code (10 : Nat) (Option.some Jvm.ClassFile.FieldType.long)).before args0 about1 = true := code_word (m := ⟨1, 2⟩) (meth := k1m2) (c := k1c2) (by decide +kernel) rfl rfl rfl (by decide +kernel)
def codes1 : List Jvm.Cond := [Jvm.Cond.code x code maxLocals ret, Jvm.Cond.code ({ cls := "com/example/streambed/streambed/stream/Demand", name := "product", desc := "(JJ)J" } : Jvm.MethodName) prog_10_method_3_code (8 : Nat) (Option.some Jvm.ClassFile.FieldType.long), Jvm.Cond.code ({ cls := "java/lang/Math", name := "multiplyHigh", desc := "(JJ)J" } : Jvm.MethodName) jdk_29_method_45_code (20 : Nat) (Option.some Jvm.ClassFile.FieldType.long), Jvm.Cond.code ({ cls := "com/example/streambed/streambed/stream/DemandProductPinLaw", name := "ref", desc := "(JJ)J" } : Jvm.MethodName) method_2_code (4 : Nat) (Option.some Jvm.ClassFile.FieldType.long), Jvm.Cond.code ({ cls := "com/example/streambed/streambed/stream/DemandProductPinLaw", name := "near", desc := "(JJ)J" } : Jvm.MethodName) method_3_code (10 : Nat) (Option.some Jvm.ClassFile.FieldType.long)]
set_option maxRecDepth 65536 in
theorem codes_eq : words1.filter isCode = codes1 := rfl
theorem w_codes : ∀ c ∈ words1.filter isCode, c.before args0 about1 = true := by
  rw [codes_eq]
  intro c hc
  simp only [codes1, List.mem_cons, List.not_mem_nil, or_false] at hc
  rcases hc with rfl | rfl | rfl | rfl | rfl
  · exact w_c0
  · exact w_c1
  · exact w_c2
  · exact w_c3
  · exact w_c4
set_option maxRecDepth 65536 in
theorem w_t1 : words1.all (fun c => isCode c || c.before args0 about1) = true := by decide +kernel
theorem w_tables : (allAtoms (Jvm.Cond.code x code maxLocals ret :: tables_1)).before args0 about1 = true := by
  rw [allAtoms_all]
  show words1.all (fun c => c.before args0 about1) = true
  refine all_split ?_ w_codes
  rw [w_t1]
set_option maxRecDepth 65536 in
theorem w_case : (Jvm.Cond.and given_1 narrow_1).before args0 about1 = true := by decide +kernel
theorem w_applies : (headSpec (Jvm.Cond.code x code maxLocals ret :: tables_1) room_1).applies x e0.platform about1 = true :=
  (Spec.applies_iff w_frames).mpr ⟨w_running, w_runnable, w_alone, w_named, w_hears, w_ripe, w_room, w_tables⟩
theorem atStart : AtStart classFile x code maxLocals ret World_1 tables_1 room_1 Calls_1 rest_1 Pre_1 launch0 p0 e0 about1 theMethod args0 below0 :=
  ⟨lists_1, trivial, launch0.admits_env _ _ _, launch0.least_env, fairChoices_fair.cas, fairChoices_fair.clock, w_frames, w_args, w_heap, w_applies, trivial, trivial, w_case⟩
end start1
theorem witness_1 : WitnessClaimed_1 := ⟨start1.p0, start1.e0, start1.about1, start1.theMethod, start1.args0, start1.below0, start1.atStart⟩
end Jvm.Pilot.@@N@@
