import JvmDerived
import JvmDerived.Pilot.@@N@@Statement
import JvmDerived.Pilot.@@N@@Code
set_option linter.unusedVariables false
set_option linter.unusedSimpArgs false
@@BLOCK:NumsL.lean.txt@@
namespace Jvm.Pilot.@@N@@
open Jvm Jvm.ClassFile Sem Op Lib Jvm.Free Jvm.Stand Jvm.LawKit Jvm.RoadKit Bundle Jvm.Pilot.@@N@@.Jvm.D
section OwnKit
variable {p : Program} {l : Launch} {e : Env} {R : Room} {s : State} {m : MethodId} {args : Array Value} {below : List Frame} {meth : Method} {c : Code} {T : State} {locs : List Loc} {cells slots : Nat}
/-- from the state a the run comes to a state of which P holds -/
def Gen (p : Program) (e : Env) (below : List Frame) (P : State → Prop) (a : State) : Prop := ∃ s₂, Steps p.tables e below a s₂ ∧ P s₂
theorem Gen.on {P : State → Prop} {a b : State} (k : Gen p e below P b) (h : ∀ t, Steps p.tables e below b t → Steps p.tables e below a t) : Gen p e below P a := by
  obtain ⟨s2, h1, h2⟩ := k
  exact ⟨s2, h _ h1, h2⟩
/-- the body has returned, and Q holds of what it returns, leaves and has written -/
def OwnP (below : List Frame) (s : State) (Q : Option Value → Heap → List Loc → Prop) (C S : Nat) (s₂ : State) : Prop := ∃ o, s₂.status = .running ∧ Ended s₂ below o ∧ ∃ v L, o = .returned v ∧ Q v s₂.heap L ∧ FrameEnd s o s₂ L C S
def Own (p : Program) (e : Env) (below : List Frame) (s : State) (Q : Option Value → Heap → List Loc → Prop) (C S : Nat) (a : State) : Prop := Gen p e below (OwnP below s Q C S) a
variable {Q : Option Value → Heap → List Loc → Prop} {C S : Nat}
theorem own_start {a : State} (k : Own p e below s Q C S a) : ∃ s₂ o, Steps p.tables e below a s₂ ∧ s₂.status = .running ∧ Ended s₂ below o ∧ ∃ v L, o = .returned v ∧ Q v s₂.heap L ∧ FrameEnd s o s₂ L C S := by
  obtain ⟨s2, h1, o, h2⟩ := k
  exact ⟨s2, o, h1, h2⟩
/-- the walk stands in a frame F, the heap being H, with what X had written -/
def own_at (X : Stand p l e R s m args below meth c T locs cells slots) (H : Heap) (F : JFrame) (s₂ : State) : Prop := ∃ T', Stand p l e R s m args below meth c T' locs cells slots ∧ T'.heap = H ∧ s₂ = T'.setTop F
theorem own_ret (X : Stand p l e R s m args below meth c T locs cells slots) {g : JFrame} {v : Option Value} (hv : meth.sig.returnType = none → v = none) (hlocks : meth.locks = false) (hc : cells ≤ C) (hs : slots ≤ S) (hq : Q v T.heap locs)
    (st : ∀ fs, (∀ (f : JFrame) (acts : List Action), f.method = m → f.locked = none → f.entered = [] → (doReturn e (T.setTop f) acts v).1 = T.setFrames fs) → Steps p.tables e below (T.setTop g) (T.setFrames fs)) : Own p e below s Q C S (T.setTop g) := by
  obtain ⟨fs, hr, hrun, hended, hW, hsame⟩ := X.leave (v := v) hv hlocks
  exact ⟨_, st fs hr, _, hrun, hended, _, _, rfl, hq, ⟨_, rfl⟩, hW, hsame.mono hc hs⟩
theorem own_retI (X : Stand p l e R s m args below meth c T locs cells slots) (hx : p.tables.exec = Jvm.exec) {pc : Nat} {Ls : Array Slot} {z : Int32} {rest : List Value} (hret : meth.sig.returnType = some .int) (hd : decode c.code pc = .ok (.ireturn, 1)) (hc : cells ≤ C) (hs : slots ≤ S) (hq : Q (some (.int z)) T.heap locs) (hlocks : meth.locks = false := by first | assumption | exact BodyLoose.notSynchronized (by assumption)) : Own p e below s Q C S (T.setTop (mkF m pc Ls (.int z :: rest))) :=
  own_ret X (fun h => by rw [hret] at h; cases h) hlocks hc hs hq fun fs hr => retOut X hx hret rfl (Or.inl ⟨rfl, Or.inl rfl, z, rfl⟩) hd hr
theorem own_retN (X : Stand p l e R s m args below meth c T locs cells slots) (hx : p.tables.exec = Jvm.exec) {pc : Nat} {Ls : Array Slot} {z : Int32} {t : FieldType} {rest : List Value} (hret : meth.sig.returnType = some t) (ht : t = .boolean ∨ t = .byte ∨ t = .char ∨ t = .short) (hz : nar t z = z) (hd : decode c.code pc = .ok (.ireturn, 1)) (hc : cells ≤ C) (hs : slots ≤ S) (hq : Q (some (.int z)) T.heap locs) (hlocks : meth.locks = false := by first | assumption | exact BodyLoose.notSynchronized (by assumption)) : Own p e below s Q C S (T.setTop (mkF m pc Ls (.int z :: rest))) :=
  own_ret X (fun h => by rw [hret] at h; cases h) hlocks hc hs hq fun fs hr => retN X hx hret ht hd (by rw [hz]; exact hr)
theorem own_retJ (X : Stand p l e R s m args below meth c T locs cells slots) (hx : p.tables.exec = Jvm.exec) {pc : Nat} {Ls : Array Slot} {z : Int64} {rest : List Value} (hret : meth.sig.returnType = some .long) (hd : decode c.code pc = .ok (.lreturn, 1)) (hc : cells ≤ C) (hs : slots ≤ S) (hq : Q (some (.long z)) T.heap locs) (hlocks : meth.locks = false := by first | assumption | exact BodyLoose.notSynchronized (by assumption)) : Own p e below s Q C S (T.setTop (mkF m pc Ls (.long z :: rest))) :=
  own_ret X (fun h => by rw [hret] at h; cases h) hlocks hc hs hq fun fs hr => retOut X hx hret rfl (Or.inr (Or.inl ⟨rfl, rfl, z, rfl⟩)) hd hr
theorem own_retA (X : Stand p l e R s m args below meth c T locs cells slots) (hx : p.tables.exec = Jvm.exec) {pc : Nat} {Ls : Array Slot} {w : Value} {t : FieldType} {rest : List Value} (hret : meth.sig.returnType = some t) (ht : t.isReference = true) (hw : w.isRef = true) (hd : decode c.code pc = .ok (.areturn, 1)) (hc : cells ≤ C) (hs : slots ≤ S) (hq : Q (some w) T.heap locs) (hlocks : meth.locks = false := by first | assumption | exact BodyLoose.notSynchronized (by assumption)) : Own p e below s Q C S (T.setTop (mkF m pc Ls (w :: rest))) :=
  own_ret X (fun h => by rw [hret] at h; cases h) hlocks hc hs hq fun fs hr => retOut X hx hret (by cases t <;> cases w <;> simp [FieldType.isReference, Value.isRef] at ht hw <;> rfl) (Or.inr (Or.inr (Or.inr (Or.inr ⟨rfl, ht, hw⟩)))) hd hr
theorem own_ret0 (X : Stand p l e R s m args below meth c T locs cells slots) (hx : p.tables.exec = Jvm.exec) {pc : Nat} {Ls : Array Slot} (hret : meth.sig.returnType = none) (hd : decode c.code pc = .ok (.return_, 1)) (hc : cells ≤ C) (hs : slots ≤ S) (hq : Q none T.heap locs) (hlocks : meth.locks = false := by first | assumption | exact BodyLoose.notSynchronized (by assumption)) : Own p e below s Q C S (T.setTop (mkF m pc Ls [])) :=
  own_ret X (fun _ => rfl) hlocks hc hs hq fun fs hr => X.returnOut hx hret hd hr
theorem own_lt1 {a b : Int64} (h : a < b) : ifCond.holds .lt (lcmpW a b) = true ∧ ifCond.holds .ge (lcmpW a b) = false := by
  have h1 : ¬ a > b := fun q => by rw [gt_iff_lt, Int64.lt_iff_toInt_lt] at q; rw [Int64.lt_iff_toInt_lt] at h; omega
  have h2 : ¬ a = b := fun q => by subst q; exact h1 h
  rw [lcmpW, if_neg h1, if_neg h2]; exact ⟨rfl, rfl⟩
theorem own_lt0 {a b : Int64} (h : ¬ a < b) : ifCond.holds .lt (lcmpW a b) = false ∧ ifCond.holds .ge (lcmpW a b) = true := by
  rw [lcmpW]
  by_cases h1 : a > b
  · rw [if_pos h1]; exact ⟨rfl, rfl⟩
  · have h2 : a = b := by rw [gt_iff_lt, Int64.lt_iff_toInt_lt] at h1; rw [Int64.lt_iff_toInt_lt] at h; exact Int64.toInt_inj.mp (by omega)
    rw [if_neg h1, if_pos h2]; exact ⟨rfl, rfl⟩
theorem own_gt1 {a b : Int64} (h : b < a) : ifCond.holds .gt (lcmpW a b) = true ∧ ifCond.holds .le (lcmpW a b) = false := by
  rw [lcmpW, if_pos h]; exact ⟨rfl, rfl⟩
theorem own_gt0 {a b : Int64} (h : ¬ b < a) : ifCond.holds .gt (lcmpW a b) = false ∧ ifCond.holds .le (lcmpW a b) = true := by
  rw [lcmpW, if_neg h]
  by_cases h1 : a = b
  · rw [if_pos h1]; exact ⟨rfl, rfl⟩
  · rw [if_neg h1]; exact ⟨rfl, rfl⟩
theorem own_eq1 {a b : Int64} (h : a = b) : ifCond.holds .eq (lcmpW a b) = true ∧ ifCond.holds .ne (lcmpW a b) = false := by
  have h1 : ¬ a > b := fun q => by subst h; rw [gt_iff_lt, Int64.lt_iff_toInt_lt] at q; omega
  rw [lcmpW, if_neg h1, if_pos h]; exact ⟨rfl, rfl⟩
theorem own_eq0 {a b : Int64} (h : ¬ a = b) : ifCond.holds .eq (lcmpW a b) = false ∧ ifCond.holds .ne (lcmpW a b) = true := by
  rw [lcmpW]
  by_cases h1 : a > b
  · rw [if_pos h1]; exact ⟨rfl, rfl⟩
  · rw [if_neg h1, if_neg h]; exact ⟨rfl, rfl⟩
theorem own_sta_keep {Z : State} {h h' : Heap} {C n d : String} {w : Value} (F : Sta Z h C n d w) (K : Keep h h' []) : Sta Z h' C n d w := by
  obtain ⟨cf, i, k, f, st, cell, h1, h2, h3, h4, h5, h6⟩ := F
  exact ⟨cf, i, k, f, st, cell, h1, h2, h3, h4, K.2.1 st cell h5 nin0, h6⟩
theorem own_arr_keep {Z : State} {h h' : Heap} {a : Addr} {cl : Cell} {ty : FieldType} {ws : List Addr} (A : Arr Z h a cl ty) (K : Keep h h' ws) (q : a ∉ ws) : Arr Z h' a cl ty := ⟨K.2.1 a cl A.1 q, A.2⟩
end OwnKit


def own_sh (z : Int64) (k : Int32) : Int64 := (z.toUInt64 >>> (k &&& 0x3f).toInt64.toUInt64).toInt64
def own_m (z : Int64) (k : Int32) (c : Int64) : Int64 := (z ^^^ own_sh z k) * c
def own_x (z : Int64) (k k2 : Int32) : Int64 := (z ^^^ own_sh z k) ^^^ own_sh z k2
def own_nw (c x : Int64) : Int64 := x * (2 - (c * x))

theorem d1_0 : decode prog_24_method_2_code 0 = .ok (.lload_n 0, 1) := by decide +kernel
theorem d1_1 : decode prog_24_method_2_code 1 = .ok (.lload_n 0, 1) := by decide +kernel
theorem d1_2 : decode prog_24_method_2_code 2 = .ok (.bipush 30, 2) := by decide +kernel
theorem d1_4 : decode prog_24_method_2_code 4 = .ok (.lushr, 1) := by decide +kernel
theorem d1_5 : decode prog_24_method_2_code 5 = .ok (.lxor, 1) := by decide +kernel
theorem d1_6 : decode prog_24_method_2_code 6 = .ok (.ldc2_w 7, 3) := by decide +kernel
theorem d1_9 : decode prog_24_method_2_code 9 = .ok (.lmul, 1) := by decide +kernel
theorem d1_10 : decode prog_24_method_2_code 10 = .ok (.lstore_n 0, 1) := by decide +kernel
theorem d1_11 : decode prog_24_method_2_code 11 = .ok (.lload_n 0, 1) := by decide +kernel
theorem d1_12 : decode prog_24_method_2_code 12 = .ok (.lload_n 0, 1) := by decide +kernel
theorem d1_13 : decode prog_24_method_2_code 13 = .ok (.bipush 27, 2) := by decide +kernel
theorem d1_15 : decode prog_24_method_2_code 15 = .ok (.lushr, 1) := by decide +kernel
theorem d1_16 : decode prog_24_method_2_code 16 = .ok (.lxor, 1) := by decide +kernel
theorem d1_17 : decode prog_24_method_2_code 17 = .ok (.ldc2_w 9, 3) := by decide +kernel
theorem d1_20 : decode prog_24_method_2_code 20 = .ok (.lmul, 1) := by decide +kernel
theorem d1_21 : decode prog_24_method_2_code 21 = .ok (.lstore_n 0, 1) := by decide +kernel
theorem d1_22 : decode prog_24_method_2_code 22 = .ok (.lload_n 0, 1) := by decide +kernel
theorem d1_23 : decode prog_24_method_2_code 23 = .ok (.lload_n 0, 1) := by decide +kernel
theorem d1_24 : decode prog_24_method_2_code 24 = .ok (.bipush 31, 2) := by decide +kernel
theorem d1_26 : decode prog_24_method_2_code 26 = .ok (.lushr, 1) := by decide +kernel
theorem d1_27 : decode prog_24_method_2_code 27 = .ok (.lxor, 1) := by decide +kernel
theorem d1_28 : decode prog_24_method_2_code 28 = .ok (.lreturn, 1) := by decide +kernel
theorem pn_1 : plainName "com/example/halftally/halftally/Hashing" = true := by first | (simp [plainName, overriddenIn]; done) | decide +kernel
theorem ef_1 (m : MethodId) (x0 : Int64) : entryFrame m #[(.long x0)] 2 = mkF m 0 #[.val (.long x0), .second] [] := by first | (simp [entryFrame, mkF, argsToLocals, Value.category]; done) | rfl
def f1 (q1 : Int64) : Int64 := ((own_m (own_m q1 30 (-4658895280553007687 : Int64)) 27 (-7723592293110705685 : Int64)) ^^^ (((own_m (own_m q1 30 (-4658895280553007687 : Int64)) 27 (-7723592293110705685 : Int64)).toUInt64 >>> ((31 : Int32) &&& 0x3f).toInt64.toUInt64).toInt64))
def Q1 (q1 : Int64) (h0 : Heap) (n0 : Nat) (v : Option Value) (h : Heap) (L : List Loc) : Prop := v = some (.long (f1 q1)) ∧ Fr n0 L ∧ h = h0
set_option maxRecDepth 65536 in
set_option maxHeartbeats 40000000 in
theorem rm1 (l : Launch) (Z : State) (a0 : Array Value) (hw : ∀ d ∈ tables_1, d.before a0 Z = true) (ws : List Jvm.Cond) (q1 : Int64) (h0 : Heap) (n0 : Nat) (Z0 : n0 ≤ h0.size)  :
    MetFree l (⟨"com/example/halftally/halftally/Hashing", "mix", "(J)J"⟩ : MethodName) (head1 (Jvm.Cond.code (⟨"com/example/halftally/halftally/Hashing", "mix", "(J)J"⟩ : MethodName) prog_24_method_2_code 2 (some .long) :: ws) ({ frames := 0, cells := 0, slots := 0, locals := 0 } : Room)) (fun a U => a = #[(.long q1)] ∧ Z.Warmed39 U.vm ∧ U.heap = h0) (fun _ _ _ _ _ => True) (fun _ U o U' => ∃ v L, o = .returned v ∧ Q1 q1 h0 n0 v U'.heap L ∧ FrameEnd U o U' L ({ frames := 0, cells := 0, slots := 0, locals := 0 } : Room).cells ({ frames := 0, cells := 0, slots := 0, locals := 0 } : Room).slots) := by
  refine MetFree.of_bodySF (plainFor_of_name pn_1) hisR ?_
  intro p e s m args below meth c s₁ Bd hml0 hP hK
  obtain ⟨rfl, hZ, hh⟩ := hP
  have hx := Bd.exec
  have hby := Bd.bytes
  have hml : c.maxLocals = 2 := hml0
  have hown : s.vm.findClass "com/example/halftally/halftally/Hashing" = some m.cls := findClass_of_methodNamed Bd.named
  have hnm := (name_of_methodNamed Bd.named Bd.method).1
  have X0 : Stand p l e ({ frames := 0, cells := 0, slots := 0, locals := 0 } : Room) s m #[(.long q1)] below meth c s₁ [] 0 0 := Stand.of_body Bd
  have e0 : s₁.heap = h0 := by rw [← hh, Bd.state]; rfl
  have N0 := Fr.nil n0
  refine own_start (Q := Q1 q1 h0 n0) (C := ({ frames := 0, cells := 0, slots := 0, locals := 0 } : Room).cells) (S := ({ frames := 0, cells := 0, slots := 0, locals := 0 } : Room).slots) ?_
  rw [ef_1 m q1]
  have hq : ∀ v hh L, v = some (.long (f1 q1)) → Fr n0 L → hh = h0 → Q1 q1 h0 n0 v hh L := fun v hh L q1 q2 q3 => ⟨q1, q2, q3⟩
  refine Gen.on (b := s₁.setTop (mkF m 1 #[.val (.long q1), .second] [(.long q1)])) ?_ (fun t k => XS.lloadN X0.here hx rfl (hb hby d1_0) rfl k)
  refine Gen.on (b := s₁.setTop (mkF m 2 #[.val (.long q1), .second] [(.long q1), (.long q1)])) ?_ (fun t k => XS.lloadN X0.here hx rfl (hb hby d1_1) rfl k)
  refine Gen.on (b := s₁.setTop (mkF m 4 #[.val (.long q1), .second] [(.int (30 : Int32)), (.long q1), (.long q1)])) ?_ (fun t k => XS.bipush X0.here hx rfl (hb hby d1_2) k)
  refine Gen.on (b := s₁.setTop (mkF m 5 #[.val (.long q1), .second] [(.long ((q1.toUInt64 >>> ((30 : Int32) &&& 0x3f).toInt64.toUInt64).toInt64)), (.long q1)])) ?_ (fun t k => XS.lushr X0.here hx rfl (hb hby d1_4) rfl k)
  refine Gen.on (b := s₁.setTop (mkF m 6 #[.val (.long q1), .second] [(.long (q1 ^^^ ((q1.toUInt64 >>> ((30 : Int32) &&& 0x3f).toInt64.toUInt64).toInt64)))])) ?_ (fun t k => XS.lxor X0.here hx rfl (hb hby d1_5) rfl k)
  refine Gen.on (b := s₁.setTop (mkF m 9 #[.val (.long q1), .second] [(.long (-4658895280553007687 : Int64)), (.long (q1 ^^^ ((q1.toUInt64 >>> ((30 : Int32) &&& 0x3f).toInt64.toUInt64).toInt64)))])) ?_ (fun t k => X0.ldc2Long hx hown (mvT hZ (hw _ (List.mem_of_getElem? (i := 4) rfl))) (g := (mkF m 6 #[.val (.long q1), .second] [(.long (q1 ^^^ ((q1.toUInt64 >>> ((30 : Int32) &&& 0x3f).toInt64.toUInt64).toInt64)))])) rfl (hb hby d1_6) t k)
  refine Gen.on (b := s₁.setTop (mkF m 10 #[.val (.long q1), .second] [(.long ((q1 ^^^ ((q1.toUInt64 >>> ((30 : Int32) &&& 0x3f).toInt64.toUInt64).toInt64)) * (-4658895280553007687 : Int64)))])) ?_ (fun t k => XS.lmul X0.here hx rfl (hb hby d1_9) rfl k)
  refine Gen.on (b := s₁.setTop (mkF m 11 #[.val (.long ((q1 ^^^ ((q1.toUInt64 >>> ((30 : Int32) &&& 0x3f).toInt64.toUInt64).toInt64)) * (-4658895280553007687 : Int64))), .second] [])) ?_ (fun t k => XS.lstoreN X0.here hx rfl (hb hby d1_10) rfl (l' := #[.val (.long ((q1 ^^^ ((q1.toUInt64 >>> ((30 : Int32) &&& 0x3f).toInt64.toUInt64).toInt64)) * (-4658895280553007687 : Int64))), .second]) rfl k)
  refine Gen.on (b := s₁.setTop (mkF m 12 #[.val (.long (own_m q1 30 (-4658895280553007687 : Int64))), .second] [(.long (own_m q1 30 (-4658895280553007687 : Int64)))])) ?_ (fun t k => XS.lloadN X0.here hx rfl (hb hby d1_11) rfl k)
  refine Gen.on (b := s₁.setTop (mkF m 13 #[.val (.long (own_m q1 30 (-4658895280553007687 : Int64))), .second] [(.long (own_m q1 30 (-4658895280553007687 : Int64))), (.long (own_m q1 30 (-4658895280553007687 : Int64)))])) ?_ (fun t k => XS.lloadN X0.here hx rfl (hb hby d1_12) rfl k)
  refine Gen.on (b := s₁.setTop (mkF m 15 #[.val (.long (own_m q1 30 (-4658895280553007687 : Int64))), .second] [(.int (27 : Int32)), (.long (own_m q1 30 (-4658895280553007687 : Int64))), (.long (own_m q1 30 (-4658895280553007687 : Int64)))])) ?_ (fun t k => XS.bipush X0.here hx rfl (hb hby d1_13) k)
  refine Gen.on (b := s₁.setTop (mkF m 16 #[.val (.long (own_m q1 30 (-4658895280553007687 : Int64))), .second] [(.long (((own_m q1 30 (-4658895280553007687 : Int64)).toUInt64 >>> ((27 : Int32) &&& 0x3f).toInt64.toUInt64).toInt64)), (.long (own_m q1 30 (-4658895280553007687 : Int64)))])) ?_ (fun t k => XS.lushr X0.here hx rfl (hb hby d1_15) rfl k)
  refine Gen.on (b := s₁.setTop (mkF m 17 #[.val (.long (own_m q1 30 (-4658895280553007687 : Int64))), .second] [(.long ((own_m q1 30 (-4658895280553007687 : Int64)) ^^^ (((own_m q1 30 (-4658895280553007687 : Int64)).toUInt64 >>> ((27 : Int32) &&& 0x3f).toInt64.toUInt64).toInt64)))])) ?_ (fun t k => XS.lxor X0.here hx rfl (hb hby d1_16) rfl k)
  refine Gen.on (b := s₁.setTop (mkF m 20 #[.val (.long (own_m q1 30 (-4658895280553007687 : Int64))), .second] [(.long (-7723592293110705685 : Int64)), (.long ((own_m q1 30 (-4658895280553007687 : Int64)) ^^^ (((own_m q1 30 (-4658895280553007687 : Int64)).toUInt64 >>> ((27 : Int32) &&& 0x3f).toInt64.toUInt64).toInt64)))])) ?_ (fun t k => X0.ldc2Long hx hown (mvT hZ (hw _ (List.mem_of_getElem? (i := 5) rfl))) (g := (mkF m 17 #[.val (.long (own_m q1 30 (-4658895280553007687 : Int64))), .second] [(.long ((own_m q1 30 (-4658895280553007687 : Int64)) ^^^ (((own_m q1 30 (-4658895280553007687 : Int64)).toUInt64 >>> ((27 : Int32) &&& 0x3f).toInt64.toUInt64).toInt64)))])) rfl (hb hby d1_17) t k)
  refine Gen.on (b := s₁.setTop (mkF m 21 #[.val (.long (own_m q1 30 (-4658895280553007687 : Int64))), .second] [(.long (((own_m q1 30 (-4658895280553007687 : Int64)) ^^^ (((own_m q1 30 (-4658895280553007687 : Int64)).toUInt64 >>> ((27 : Int32) &&& 0x3f).toInt64.toUInt64).toInt64)) * (-7723592293110705685 : Int64)))])) ?_ (fun t k => XS.lmul X0.here hx rfl (hb hby d1_20) rfl k)
  refine Gen.on (b := s₁.setTop (mkF m 22 #[.val (.long (((own_m q1 30 (-4658895280553007687 : Int64)) ^^^ (((own_m q1 30 (-4658895280553007687 : Int64)).toUInt64 >>> ((27 : Int32) &&& 0x3f).toInt64.toUInt64).toInt64)) * (-7723592293110705685 : Int64))), .second] [])) ?_ (fun t k => XS.lstoreN X0.here hx rfl (hb hby d1_21) rfl (l' := #[.val (.long (((own_m q1 30 (-4658895280553007687 : Int64)) ^^^ (((own_m q1 30 (-4658895280553007687 : Int64)).toUInt64 >>> ((27 : Int32) &&& 0x3f).toInt64.toUInt64).toInt64)) * (-7723592293110705685 : Int64))), .second]) rfl k)
  refine Gen.on (b := s₁.setTop (mkF m 23 #[.val (.long (own_m (own_m q1 30 (-4658895280553007687 : Int64)) 27 (-7723592293110705685 : Int64))), .second] [(.long (own_m (own_m q1 30 (-4658895280553007687 : Int64)) 27 (-7723592293110705685 : Int64)))])) ?_ (fun t k => XS.lloadN X0.here hx rfl (hb hby d1_22) rfl k)
  refine Gen.on (b := s₁.setTop (mkF m 24 #[.val (.long (own_m (own_m q1 30 (-4658895280553007687 : Int64)) 27 (-7723592293110705685 : Int64))), .second] [(.long (own_m (own_m q1 30 (-4658895280553007687 : Int64)) 27 (-7723592293110705685 : Int64))), (.long (own_m (own_m q1 30 (-4658895280553007687 : Int64)) 27 (-7723592293110705685 : Int64)))])) ?_ (fun t k => XS.lloadN X0.here hx rfl (hb hby d1_23) rfl k)
  refine Gen.on (b := s₁.setTop (mkF m 26 #[.val (.long (own_m (own_m q1 30 (-4658895280553007687 : Int64)) 27 (-7723592293110705685 : Int64))), .second] [(.int (31 : Int32)), (.long (own_m (own_m q1 30 (-4658895280553007687 : Int64)) 27 (-7723592293110705685 : Int64))), (.long (own_m (own_m q1 30 (-4658895280553007687 : Int64)) 27 (-7723592293110705685 : Int64)))])) ?_ (fun t k => XS.bipush X0.here hx rfl (hb hby d1_24) k)
  refine Gen.on (b := s₁.setTop (mkF m 27 #[.val (.long (own_m (own_m q1 30 (-4658895280553007687 : Int64)) 27 (-7723592293110705685 : Int64))), .second] [(.long (((own_m (own_m q1 30 (-4658895280553007687 : Int64)) 27 (-7723592293110705685 : Int64)).toUInt64 >>> ((31 : Int32) &&& 0x3f).toInt64.toUInt64).toInt64)), (.long (own_m (own_m q1 30 (-4658895280553007687 : Int64)) 27 (-7723592293110705685 : Int64)))])) ?_ (fun t k => XS.lushr X0.here hx rfl (hb hby d1_26) rfl k)
  refine Gen.on (b := s₁.setTop (mkF m 28 #[.val (.long (own_m (own_m q1 30 (-4658895280553007687 : Int64)) 27 (-7723592293110705685 : Int64))), .second] [(.long ((own_m (own_m q1 30 (-4658895280553007687 : Int64)) 27 (-7723592293110705685 : Int64)) ^^^ (((own_m (own_m q1 30 (-4658895280553007687 : Int64)) 27 (-7723592293110705685 : Int64)).toUInt64 >>> ((31 : Int32) &&& 0x3f).toInt64.toUInt64).toInt64)))])) ?_ (fun t k => XS.lxor X0.here hx rfl (hb hby d1_27) rfl k)
  refine own_retJ X0 hx Bd.returns (hb hby d1_28) (by decide) (by decide) ?_
  exact hq _ _ _ (by simp only [f1]) N0 e0
theorem d3_0 : decode method_2_code 0 = .ok (.lload_n 0, 1) := by decide +kernel
theorem d3_1 : decode method_2_code 1 = .ok (.lstore_n 2, 1) := by decide +kernel
theorem d3_2 : decode method_2_code 2 = .ok (.lload_n 2, 1) := by decide +kernel
theorem d3_3 : decode method_2_code 3 = .ok (.ldc2_w 7, 3) := by decide +kernel
theorem d3_6 : decode method_2_code 6 = .ok (.lload_n 0, 1) := by decide +kernel
theorem d3_7 : decode method_2_code 7 = .ok (.lload_n 2, 1) := by decide +kernel
theorem d3_8 : decode method_2_code 8 = .ok (.lmul, 1) := by decide +kernel
theorem d3_9 : decode method_2_code 9 = .ok (.lsub, 1) := by decide +kernel
theorem d3_10 : decode method_2_code 10 = .ok (.lmul, 1) := by decide +kernel
theorem d3_11 : decode method_2_code 11 = .ok (.lstore_n 2, 1) := by decide +kernel
theorem d3_12 : decode method_2_code 12 = .ok (.lload_n 2, 1) := by decide +kernel
theorem d3_13 : decode method_2_code 13 = .ok (.ldc2_w 7, 3) := by decide +kernel
theorem d3_16 : decode method_2_code 16 = .ok (.lload_n 0, 1) := by decide +kernel
theorem d3_17 : decode method_2_code 17 = .ok (.lload_n 2, 1) := by decide +kernel
theorem d3_18 : decode method_2_code 18 = .ok (.lmul, 1) := by decide +kernel
theorem d3_19 : decode method_2_code 19 = .ok (.lsub, 1) := by decide +kernel
theorem d3_20 : decode method_2_code 20 = .ok (.lmul, 1) := by decide +kernel
theorem d3_21 : decode method_2_code 21 = .ok (.lstore_n 2, 1) := by decide +kernel
theorem d3_22 : decode method_2_code 22 = .ok (.lload_n 2, 1) := by decide +kernel
theorem d3_23 : decode method_2_code 23 = .ok (.ldc2_w 7, 3) := by decide +kernel
theorem d3_26 : decode method_2_code 26 = .ok (.lload_n 0, 1) := by decide +kernel
theorem d3_27 : decode method_2_code 27 = .ok (.lload_n 2, 1) := by decide +kernel
theorem d3_28 : decode method_2_code 28 = .ok (.lmul, 1) := by decide +kernel
theorem d3_29 : decode method_2_code 29 = .ok (.lsub, 1) := by decide +kernel
theorem d3_30 : decode method_2_code 30 = .ok (.lmul, 1) := by decide +kernel
theorem d3_31 : decode method_2_code 31 = .ok (.lstore_n 2, 1) := by decide +kernel
theorem d3_32 : decode method_2_code 32 = .ok (.lload_n 2, 1) := by decide +kernel
theorem d3_33 : decode method_2_code 33 = .ok (.ldc2_w 7, 3) := by decide +kernel
theorem d3_36 : decode method_2_code 36 = .ok (.lload_n 0, 1) := by decide +kernel
theorem d3_37 : decode method_2_code 37 = .ok (.lload_n 2, 1) := by decide +kernel
theorem d3_38 : decode method_2_code 38 = .ok (.lmul, 1) := by decide +kernel
theorem d3_39 : decode method_2_code 39 = .ok (.lsub, 1) := by decide +kernel
theorem d3_40 : decode method_2_code 40 = .ok (.lmul, 1) := by decide +kernel
theorem d3_41 : decode method_2_code 41 = .ok (.lstore_n 2, 1) := by decide +kernel
theorem d3_42 : decode method_2_code 42 = .ok (.lload_n 2, 1) := by decide +kernel
theorem d3_43 : decode method_2_code 43 = .ok (.ldc2_w 7, 3) := by decide +kernel
theorem d3_46 : decode method_2_code 46 = .ok (.lload_n 0, 1) := by decide +kernel
theorem d3_47 : decode method_2_code 47 = .ok (.lload_n 2, 1) := by decide +kernel
theorem d3_48 : decode method_2_code 48 = .ok (.lmul, 1) := by decide +kernel
theorem d3_49 : decode method_2_code 49 = .ok (.lsub, 1) := by decide +kernel
theorem d3_50 : decode method_2_code 50 = .ok (.lmul, 1) := by decide +kernel
theorem d3_51 : decode method_2_code 51 = .ok (.lstore_n 2, 1) := by decide +kernel
theorem d3_52 : decode method_2_code 52 = .ok (.lload_n 2, 1) := by decide +kernel
theorem d3_53 : decode method_2_code 53 = .ok (.lreturn, 1) := by decide +kernel
theorem pn_3 : plainName "com/example/halftally/halftally/HashingMixPinLaw" = true := by first | (simp [plainName, overriddenIn]; done) | decide +kernel
theorem ef_3 (m : MethodId) (x0 : Int64) : entryFrame m #[(.long x0)] 4 = mkF m 0 #[.val (.long x0), .second, .unset, .unset] [] := by first | (simp [entryFrame, mkF, argsToLocals, Value.category]; done) | rfl
def f3 (q1 : Int64) : Int64 := (own_nw q1 (own_nw q1 (own_nw q1 (own_nw q1 (own_nw q1 q1)))))
def Q3 (q1 : Int64) (h0 : Heap) (n0 : Nat) (v : Option Value) (h : Heap) (L : List Loc) : Prop := v = some (.long (f3 q1)) ∧ Fr n0 L ∧ h = h0
set_option maxRecDepth 65536 in
set_option maxHeartbeats 40000000 in
theorem rm3 (l : Launch) (Z : State) (a0 : Array Value) (hw : ∀ d ∈ tables_1, d.before a0 Z = true) (ws : List Jvm.Cond) (q1 : Int64) (h0 : Heap) (n0 : Nat) (Z0 : n0 ≤ h0.size)  :
    MetFree l (⟨"com/example/halftally/halftally/HashingMixPinLaw", "inverseOdd", "(J)J"⟩ : MethodName) (head1 (Jvm.Cond.code (⟨"com/example/halftally/halftally/HashingMixPinLaw", "inverseOdd", "(J)J"⟩ : MethodName) method_2_code 4 (some .long) :: ws) ({ frames := 0, cells := 0, slots := 0, locals := 0 } : Room)) (fun a U => a = #[(.long q1)] ∧ Z.Warmed39 U.vm ∧ U.heap = h0) (fun _ _ _ _ _ => True) (fun _ U o U' => ∃ v L, o = .returned v ∧ Q3 q1 h0 n0 v U'.heap L ∧ FrameEnd U o U' L ({ frames := 0, cells := 0, slots := 0, locals := 0 } : Room).cells ({ frames := 0, cells := 0, slots := 0, locals := 0 } : Room).slots) := by
  refine MetFree.of_bodySF (plainFor_of_name pn_3) hisR ?_
  intro p e s m args below meth c s₁ Bd hml0 hP hK
  obtain ⟨rfl, hZ, hh⟩ := hP
  have hx := Bd.exec
  have hby := Bd.bytes
  have hml : c.maxLocals = 4 := hml0
  have hown : s.vm.findClass "com/example/halftally/halftally/HashingMixPinLaw" = some m.cls := findClass_of_methodNamed Bd.named
  have hnm := (name_of_methodNamed Bd.named Bd.method).1
  have X0 : Stand p l e ({ frames := 0, cells := 0, slots := 0, locals := 0 } : Room) s m #[(.long q1)] below meth c s₁ [] 0 0 := Stand.of_body Bd
  have e0 : s₁.heap = h0 := by rw [← hh, Bd.state]; rfl
  have N0 := Fr.nil n0
  refine own_start (Q := Q3 q1 h0 n0) (C := ({ frames := 0, cells := 0, slots := 0, locals := 0 } : Room).cells) (S := ({ frames := 0, cells := 0, slots := 0, locals := 0 } : Room).slots) ?_
  rw [ef_3 m q1]
  have hq : ∀ v hh L, v = some (.long (f3 q1)) → Fr n0 L → hh = h0 → Q3 q1 h0 n0 v hh L := fun v hh L q1 q2 q3 => ⟨q1, q2, q3⟩
  refine Gen.on (b := s₁.setTop (mkF m 1 #[.val (.long q1), .second, .unset, .unset] [(.long q1)])) ?_ (fun t k => XS.lloadN X0.here hx rfl (hb hby d3_0) rfl k)
  refine Gen.on (b := s₁.setTop (mkF m 2 #[.val (.long q1), .second, .val (.long q1), .second] [])) ?_ (fun t k => XS.lstoreN X0.here hx rfl (hb hby d3_1) rfl (l' := #[.val (.long q1), .second, .val (.long q1), .second]) rfl k)
  refine Gen.on (b := s₁.setTop (mkF m 3 #[.val (.long q1), .second, .val (.long q1), .second] [(.long q1)])) ?_ (fun t k => XS.lloadN X0.here hx rfl (hb hby d3_2) rfl k)
  refine Gen.on (b := s₁.setTop (mkF m 6 #[.val (.long q1), .second, .val (.long q1), .second] [(.long (2 : Int64)), (.long q1)])) ?_ (fun t k => X0.ldc2Long hx hown (mvT hZ (hw _ (List.mem_of_getElem? (i := 14) rfl))) (g := (mkF m 3 #[.val (.long q1), .second, .val (.long q1), .second] [(.long q1)])) rfl (hb hby d3_3) t k)
  refine Gen.on (b := s₁.setTop (mkF m 7 #[.val (.long q1), .second, .val (.long q1), .second] [(.long q1), (.long (2 : Int64)), (.long q1)])) ?_ (fun t k => XS.lloadN X0.here hx rfl (hb hby d3_6) rfl k)
  refine Gen.on (b := s₁.setTop (mkF m 8 #[.val (.long q1), .second, .val (.long q1), .second] [(.long q1), (.long q1), (.long (2 : Int64)), (.long q1)])) ?_ (fun t k => XS.lloadN X0.here hx rfl (hb hby d3_7) rfl k)
  refine Gen.on (b := s₁.setTop (mkF m 9 #[.val (.long q1), .second, .val (.long q1), .second] [(.long (q1 * q1)), (.long (2 : Int64)), (.long q1)])) ?_ (fun t k => XS.lmul X0.here hx rfl (hb hby d3_8) rfl k)
  refine Gen.on (b := s₁.setTop (mkF m 10 #[.val (.long q1), .second, .val (.long q1), .second] [(.long ((2 : Int64) - (q1 * q1))), (.long q1)])) ?_ (fun t k => XS.lsub X0.here hx rfl (hb hby d3_9) rfl k)
  refine Gen.on (b := s₁.setTop (mkF m 11 #[.val (.long q1), .second, .val (.long q1), .second] [(.long (q1 * ((2 : Int64) - (q1 * q1))))])) ?_ (fun t k => XS.lmul X0.here hx rfl (hb hby d3_10) rfl k)
  refine Gen.on (b := s₁.setTop (mkF m 12 #[.val (.long q1), .second, .val (.long (q1 * ((2 : Int64) - (q1 * q1)))), .second] [])) ?_ (fun t k => XS.lstoreN X0.here hx rfl (hb hby d3_11) rfl (l' := #[.val (.long q1), .second, .val (.long (q1 * ((2 : Int64) - (q1 * q1)))), .second]) rfl k)
  refine Gen.on (b := s₁.setTop (mkF m 13 #[.val (.long q1), .second, .val (.long (own_nw q1 q1)), .second] [(.long (own_nw q1 q1))])) ?_ (fun t k => XS.lloadN X0.here hx rfl (hb hby d3_12) rfl k)
  refine Gen.on (b := s₁.setTop (mkF m 16 #[.val (.long q1), .second, .val (.long (own_nw q1 q1)), .second] [(.long (2 : Int64)), (.long (own_nw q1 q1))])) ?_ (fun t k => X0.ldc2Long hx hown (mvT hZ (hw _ (List.mem_of_getElem? (i := 14) rfl))) (g := (mkF m 13 #[.val (.long q1), .second, .val (.long (own_nw q1 q1)), .second] [(.long (own_nw q1 q1))])) rfl (hb hby d3_13) t k)
  refine Gen.on (b := s₁.setTop (mkF m 17 #[.val (.long q1), .second, .val (.long (own_nw q1 q1)), .second] [(.long q1), (.long (2 : Int64)), (.long (own_nw q1 q1))])) ?_ (fun t k => XS.lloadN X0.here hx rfl (hb hby d3_16) rfl k)
  refine Gen.on (b := s₁.setTop (mkF m 18 #[.val (.long q1), .second, .val (.long (own_nw q1 q1)), .second] [(.long (own_nw q1 q1)), (.long q1), (.long (2 : Int64)), (.long (own_nw q1 q1))])) ?_ (fun t k => XS.lloadN X0.here hx rfl (hb hby d3_17) rfl k)
  refine Gen.on (b := s₁.setTop (mkF m 19 #[.val (.long q1), .second, .val (.long (own_nw q1 q1)), .second] [(.long (q1 * (own_nw q1 q1))), (.long (2 : Int64)), (.long (own_nw q1 q1))])) ?_ (fun t k => XS.lmul X0.here hx rfl (hb hby d3_18) rfl k)
  refine Gen.on (b := s₁.setTop (mkF m 20 #[.val (.long q1), .second, .val (.long (own_nw q1 q1)), .second] [(.long ((2 : Int64) - (q1 * (own_nw q1 q1)))), (.long (own_nw q1 q1))])) ?_ (fun t k => XS.lsub X0.here hx rfl (hb hby d3_19) rfl k)
  refine Gen.on (b := s₁.setTop (mkF m 21 #[.val (.long q1), .second, .val (.long (own_nw q1 q1)), .second] [(.long ((own_nw q1 q1) * ((2 : Int64) - (q1 * (own_nw q1 q1)))))])) ?_ (fun t k => XS.lmul X0.here hx rfl (hb hby d3_20) rfl k)
  refine Gen.on (b := s₁.setTop (mkF m 22 #[.val (.long q1), .second, .val (.long ((own_nw q1 q1) * ((2 : Int64) - (q1 * (own_nw q1 q1))))), .second] [])) ?_ (fun t k => XS.lstoreN X0.here hx rfl (hb hby d3_21) rfl (l' := #[.val (.long q1), .second, .val (.long ((own_nw q1 q1) * ((2 : Int64) - (q1 * (own_nw q1 q1))))), .second]) rfl k)
  refine Gen.on (b := s₁.setTop (mkF m 23 #[.val (.long q1), .second, .val (.long (own_nw q1 (own_nw q1 q1))), .second] [(.long (own_nw q1 (own_nw q1 q1)))])) ?_ (fun t k => XS.lloadN X0.here hx rfl (hb hby d3_22) rfl k)
  refine Gen.on (b := s₁.setTop (mkF m 26 #[.val (.long q1), .second, .val (.long (own_nw q1 (own_nw q1 q1))), .second] [(.long (2 : Int64)), (.long (own_nw q1 (own_nw q1 q1)))])) ?_ (fun t k => X0.ldc2Long hx hown (mvT hZ (hw _ (List.mem_of_getElem? (i := 14) rfl))) (g := (mkF m 23 #[.val (.long q1), .second, .val (.long (own_nw q1 (own_nw q1 q1))), .second] [(.long (own_nw q1 (own_nw q1 q1)))])) rfl (hb hby d3_23) t k)
  refine Gen.on (b := s₁.setTop (mkF m 27 #[.val (.long q1), .second, .val (.long (own_nw q1 (own_nw q1 q1))), .second] [(.long q1), (.long (2 : Int64)), (.long (own_nw q1 (own_nw q1 q1)))])) ?_ (fun t k => XS.lloadN X0.here hx rfl (hb hby d3_26) rfl k)
  refine Gen.on (b := s₁.setTop (mkF m 28 #[.val (.long q1), .second, .val (.long (own_nw q1 (own_nw q1 q1))), .second] [(.long (own_nw q1 (own_nw q1 q1))), (.long q1), (.long (2 : Int64)), (.long (own_nw q1 (own_nw q1 q1)))])) ?_ (fun t k => XS.lloadN X0.here hx rfl (hb hby d3_27) rfl k)
  refine Gen.on (b := s₁.setTop (mkF m 29 #[.val (.long q1), .second, .val (.long (own_nw q1 (own_nw q1 q1))), .second] [(.long (q1 * (own_nw q1 (own_nw q1 q1)))), (.long (2 : Int64)), (.long (own_nw q1 (own_nw q1 q1)))])) ?_ (fun t k => XS.lmul X0.here hx rfl (hb hby d3_28) rfl k)
  refine Gen.on (b := s₁.setTop (mkF m 30 #[.val (.long q1), .second, .val (.long (own_nw q1 (own_nw q1 q1))), .second] [(.long ((2 : Int64) - (q1 * (own_nw q1 (own_nw q1 q1))))), (.long (own_nw q1 (own_nw q1 q1)))])) ?_ (fun t k => XS.lsub X0.here hx rfl (hb hby d3_29) rfl k)
  refine Gen.on (b := s₁.setTop (mkF m 31 #[.val (.long q1), .second, .val (.long (own_nw q1 (own_nw q1 q1))), .second] [(.long ((own_nw q1 (own_nw q1 q1)) * ((2 : Int64) - (q1 * (own_nw q1 (own_nw q1 q1))))))])) ?_ (fun t k => XS.lmul X0.here hx rfl (hb hby d3_30) rfl k)
  refine Gen.on (b := s₁.setTop (mkF m 32 #[.val (.long q1), .second, .val (.long ((own_nw q1 (own_nw q1 q1)) * ((2 : Int64) - (q1 * (own_nw q1 (own_nw q1 q1)))))), .second] [])) ?_ (fun t k => XS.lstoreN X0.here hx rfl (hb hby d3_31) rfl (l' := #[.val (.long q1), .second, .val (.long ((own_nw q1 (own_nw q1 q1)) * ((2 : Int64) - (q1 * (own_nw q1 (own_nw q1 q1)))))), .second]) rfl k)
  refine Gen.on (b := s₁.setTop (mkF m 33 #[.val (.long q1), .second, .val (.long (own_nw q1 (own_nw q1 (own_nw q1 q1)))), .second] [(.long (own_nw q1 (own_nw q1 (own_nw q1 q1))))])) ?_ (fun t k => XS.lloadN X0.here hx rfl (hb hby d3_32) rfl k)
  refine Gen.on (b := s₁.setTop (mkF m 36 #[.val (.long q1), .second, .val (.long (own_nw q1 (own_nw q1 (own_nw q1 q1)))), .second] [(.long (2 : Int64)), (.long (own_nw q1 (own_nw q1 (own_nw q1 q1))))])) ?_ (fun t k => X0.ldc2Long hx hown (mvT hZ (hw _ (List.mem_of_getElem? (i := 14) rfl))) (g := (mkF m 33 #[.val (.long q1), .second, .val (.long (own_nw q1 (own_nw q1 (own_nw q1 q1)))), .second] [(.long (own_nw q1 (own_nw q1 (own_nw q1 q1))))])) rfl (hb hby d3_33) t k)
  refine Gen.on (b := s₁.setTop (mkF m 37 #[.val (.long q1), .second, .val (.long (own_nw q1 (own_nw q1 (own_nw q1 q1)))), .second] [(.long q1), (.long (2 : Int64)), (.long (own_nw q1 (own_nw q1 (own_nw q1 q1))))])) ?_ (fun t k => XS.lloadN X0.here hx rfl (hb hby d3_36) rfl k)
  refine Gen.on (b := s₁.setTop (mkF m 38 #[.val (.long q1), .second, .val (.long (own_nw q1 (own_nw q1 (own_nw q1 q1)))), .second] [(.long (own_nw q1 (own_nw q1 (own_nw q1 q1)))), (.long q1), (.long (2 : Int64)), (.long (own_nw q1 (own_nw q1 (own_nw q1 q1))))])) ?_ (fun t k => XS.lloadN X0.here hx rfl (hb hby d3_37) rfl k)
  refine Gen.on (b := s₁.setTop (mkF m 39 #[.val (.long q1), .second, .val (.long (own_nw q1 (own_nw q1 (own_nw q1 q1)))), .second] [(.long (q1 * (own_nw q1 (own_nw q1 (own_nw q1 q1))))), (.long (2 : Int64)), (.long (own_nw q1 (own_nw q1 (own_nw q1 q1))))])) ?_ (fun t k => XS.lmul X0.here hx rfl (hb hby d3_38) rfl k)
  refine Gen.on (b := s₁.setTop (mkF m 40 #[.val (.long q1), .second, .val (.long (own_nw q1 (own_nw q1 (own_nw q1 q1)))), .second] [(.long ((2 : Int64) - (q1 * (own_nw q1 (own_nw q1 (own_nw q1 q1)))))), (.long (own_nw q1 (own_nw q1 (own_nw q1 q1))))])) ?_ (fun t k => XS.lsub X0.here hx rfl (hb hby d3_39) rfl k)
  refine Gen.on (b := s₁.setTop (mkF m 41 #[.val (.long q1), .second, .val (.long (own_nw q1 (own_nw q1 (own_nw q1 q1)))), .second] [(.long ((own_nw q1 (own_nw q1 (own_nw q1 q1))) * ((2 : Int64) - (q1 * (own_nw q1 (own_nw q1 (own_nw q1 q1)))))))])) ?_ (fun t k => XS.lmul X0.here hx rfl (hb hby d3_40) rfl k)
  refine Gen.on (b := s₁.setTop (mkF m 42 #[.val (.long q1), .second, .val (.long ((own_nw q1 (own_nw q1 (own_nw q1 q1))) * ((2 : Int64) - (q1 * (own_nw q1 (own_nw q1 (own_nw q1 q1))))))), .second] [])) ?_ (fun t k => XS.lstoreN X0.here hx rfl (hb hby d3_41) rfl (l' := #[.val (.long q1), .second, .val (.long ((own_nw q1 (own_nw q1 (own_nw q1 q1))) * ((2 : Int64) - (q1 * (own_nw q1 (own_nw q1 (own_nw q1 q1))))))), .second]) rfl k)
  refine Gen.on (b := s₁.setTop (mkF m 43 #[.val (.long q1), .second, .val (.long (own_nw q1 (own_nw q1 (own_nw q1 (own_nw q1 q1))))), .second] [(.long (own_nw q1 (own_nw q1 (own_nw q1 (own_nw q1 q1)))))])) ?_ (fun t k => XS.lloadN X0.here hx rfl (hb hby d3_42) rfl k)
  refine Gen.on (b := s₁.setTop (mkF m 46 #[.val (.long q1), .second, .val (.long (own_nw q1 (own_nw q1 (own_nw q1 (own_nw q1 q1))))), .second] [(.long (2 : Int64)), (.long (own_nw q1 (own_nw q1 (own_nw q1 (own_nw q1 q1)))))])) ?_ (fun t k => X0.ldc2Long hx hown (mvT hZ (hw _ (List.mem_of_getElem? (i := 14) rfl))) (g := (mkF m 43 #[.val (.long q1), .second, .val (.long (own_nw q1 (own_nw q1 (own_nw q1 (own_nw q1 q1))))), .second] [(.long (own_nw q1 (own_nw q1 (own_nw q1 (own_nw q1 q1)))))])) rfl (hb hby d3_43) t k)
  refine Gen.on (b := s₁.setTop (mkF m 47 #[.val (.long q1), .second, .val (.long (own_nw q1 (own_nw q1 (own_nw q1 (own_nw q1 q1))))), .second] [(.long q1), (.long (2 : Int64)), (.long (own_nw q1 (own_nw q1 (own_nw q1 (own_nw q1 q1)))))])) ?_ (fun t k => XS.lloadN X0.here hx rfl (hb hby d3_46) rfl k)
  refine Gen.on (b := s₁.setTop (mkF m 48 #[.val (.long q1), .second, .val (.long (own_nw q1 (own_nw q1 (own_nw q1 (own_nw q1 q1))))), .second] [(.long (own_nw q1 (own_nw q1 (own_nw q1 (own_nw q1 q1))))), (.long q1), (.long (2 : Int64)), (.long (own_nw q1 (own_nw q1 (own_nw q1 (own_nw q1 q1)))))])) ?_ (fun t k => XS.lloadN X0.here hx rfl (hb hby d3_47) rfl k)
  refine Gen.on (b := s₁.setTop (mkF m 49 #[.val (.long q1), .second, .val (.long (own_nw q1 (own_nw q1 (own_nw q1 (own_nw q1 q1))))), .second] [(.long (q1 * (own_nw q1 (own_nw q1 (own_nw q1 (own_nw q1 q1)))))), (.long (2 : Int64)), (.long (own_nw q1 (own_nw q1 (own_nw q1 (own_nw q1 q1)))))])) ?_ (fun t k => XS.lmul X0.here hx rfl (hb hby d3_48) rfl k)
  refine Gen.on (b := s₁.setTop (mkF m 50 #[.val (.long q1), .second, .val (.long (own_nw q1 (own_nw q1 (own_nw q1 (own_nw q1 q1))))), .second] [(.long ((2 : Int64) - (q1 * (own_nw q1 (own_nw q1 (own_nw q1 (own_nw q1 q1))))))), (.long (own_nw q1 (own_nw q1 (own_nw q1 (own_nw q1 q1)))))])) ?_ (fun t k => XS.lsub X0.here hx rfl (hb hby d3_49) rfl k)
  refine Gen.on (b := s₁.setTop (mkF m 51 #[.val (.long q1), .second, .val (.long (own_nw q1 (own_nw q1 (own_nw q1 (own_nw q1 q1))))), .second] [(.long ((own_nw q1 (own_nw q1 (own_nw q1 (own_nw q1 q1)))) * ((2 : Int64) - (q1 * (own_nw q1 (own_nw q1 (own_nw q1 (own_nw q1 q1))))))))])) ?_ (fun t k => XS.lmul X0.here hx rfl (hb hby d3_50) rfl k)
  refine Gen.on (b := s₁.setTop (mkF m 52 #[.val (.long q1), .second, .val (.long ((own_nw q1 (own_nw q1 (own_nw q1 (own_nw q1 q1)))) * ((2 : Int64) - (q1 * (own_nw q1 (own_nw q1 (own_nw q1 (own_nw q1 q1)))))))), .second] [])) ?_ (fun t k => XS.lstoreN X0.here hx rfl (hb hby d3_51) rfl (l' := #[.val (.long q1), .second, .val (.long ((own_nw q1 (own_nw q1 (own_nw q1 (own_nw q1 q1)))) * ((2 : Int64) - (q1 * (own_nw q1 (own_nw q1 (own_nw q1 (own_nw q1 q1)))))))), .second]) rfl k)
  refine Gen.on (b := s₁.setTop (mkF m 53 #[.val (.long q1), .second, .val (.long (own_nw q1 (own_nw q1 (own_nw q1 (own_nw q1 (own_nw q1 q1)))))), .second] [(.long (own_nw q1 (own_nw q1 (own_nw q1 (own_nw q1 (own_nw q1 q1))))))])) ?_ (fun t k => XS.lloadN X0.here hx rfl (hb hby d3_52) rfl k)
  refine own_retJ X0 hx Bd.returns (hb hby d3_53) (by decide) (by decide) ?_
  exact hq _ _ _ (by simp only [f3]) N0 e0
theorem d2_0 : decode method_3_code 0 = .ok (.lload_n 0, 1) := by decide +kernel
theorem d2_1 : decode method_3_code 1 = .ok (.lload_n 0, 1) := by decide +kernel
theorem d2_2 : decode method_3_code 2 = .ok (.bipush 31, 2) := by decide +kernel
theorem d2_4 : decode method_3_code 4 = .ok (.lushr, 1) := by decide +kernel
theorem d2_5 : decode method_3_code 5 = .ok (.lxor, 1) := by decide +kernel
theorem d2_6 : decode method_3_code 6 = .ok (.lload_n 0, 1) := by decide +kernel
theorem d2_7 : decode method_3_code 7 = .ok (.bipush 62, 2) := by decide +kernel
theorem d2_9 : decode method_3_code 9 = .ok (.lushr, 1) := by decide +kernel
theorem d2_10 : decode method_3_code 10 = .ok (.lxor, 1) := by decide +kernel
theorem d2_11 : decode method_3_code 11 = .ok (.lstore_n 2, 1) := by decide +kernel
theorem d2_12 : decode method_3_code 12 = .ok (.lload_n 2, 1) := by decide +kernel
theorem d2_13 : decode method_3_code 13 = .ok (.ldc2_w 9, 3) := by decide +kernel
theorem d2_16 : decode method_3_code 16 = .ok (.invokestatic 11, 3) := by decide +kernel
theorem d2_19 : decode method_3_code 19 = .ok (.lmul, 1) := by decide +kernel
theorem d2_20 : decode method_3_code 20 = .ok (.lstore_n 2, 1) := by decide +kernel
theorem d2_21 : decode method_3_code 21 = .ok (.lload_n 2, 1) := by decide +kernel
theorem d2_22 : decode method_3_code 22 = .ok (.lload_n 2, 1) := by decide +kernel
theorem d2_23 : decode method_3_code 23 = .ok (.bipush 27, 2) := by decide +kernel
theorem d2_25 : decode method_3_code 25 = .ok (.lushr, 1) := by decide +kernel
theorem d2_26 : decode method_3_code 26 = .ok (.lxor, 1) := by decide +kernel
theorem d2_27 : decode method_3_code 27 = .ok (.lload_n 2, 1) := by decide +kernel
theorem d2_28 : decode method_3_code 28 = .ok (.bipush 54, 2) := by decide +kernel
theorem d2_30 : decode method_3_code 30 = .ok (.lushr, 1) := by decide +kernel
theorem d2_31 : decode method_3_code 31 = .ok (.lxor, 1) := by decide +kernel
theorem d2_32 : decode method_3_code 32 = .ok (.lstore_n 2, 1) := by decide +kernel
theorem d2_33 : decode method_3_code 33 = .ok (.lload_n 2, 1) := by decide +kernel
theorem d2_34 : decode method_3_code 34 = .ok (.ldc2_w 17, 3) := by decide +kernel
theorem d2_37 : decode method_3_code 37 = .ok (.invokestatic 11, 3) := by decide +kernel
theorem d2_40 : decode method_3_code 40 = .ok (.lmul, 1) := by decide +kernel
theorem d2_41 : decode method_3_code 41 = .ok (.lstore_n 2, 1) := by decide +kernel
theorem d2_42 : decode method_3_code 42 = .ok (.lload_n 2, 1) := by decide +kernel
theorem d2_43 : decode method_3_code 43 = .ok (.lload_n 2, 1) := by decide +kernel
theorem d2_44 : decode method_3_code 44 = .ok (.bipush 30, 2) := by decide +kernel
theorem d2_46 : decode method_3_code 46 = .ok (.lushr, 1) := by decide +kernel
theorem d2_47 : decode method_3_code 47 = .ok (.lxor, 1) := by decide +kernel
theorem d2_48 : decode method_3_code 48 = .ok (.lload_n 2, 1) := by decide +kernel
theorem d2_49 : decode method_3_code 49 = .ok (.bipush 60, 2) := by decide +kernel
theorem d2_51 : decode method_3_code 51 = .ok (.lushr, 1) := by decide +kernel
theorem d2_52 : decode method_3_code 52 = .ok (.lxor, 1) := by decide +kernel
theorem d2_53 : decode method_3_code 53 = .ok (.lstore_n 2, 1) := by decide +kernel
theorem d2_54 : decode method_3_code 54 = .ok (.lload_n 2, 1) := by decide +kernel
theorem d2_55 : decode method_3_code 55 = .ok (.lreturn, 1) := by decide +kernel
theorem pn_2 : plainName "com/example/halftally/halftally/HashingMixPinLaw" = true := by first | (simp [plainName, overriddenIn]; done) | decide +kernel
theorem pd_2_0 : parseMethodDescriptor "(J)J" = some ⟨[.long], some .long⟩ := by decide +kernel
theorem ef_2 (m : MethodId) (x0 : Int64) : entryFrame m #[(.long x0)] 4 = mkF m 0 #[.val (.long x0), .second, .unset, .unset] [] := by first | (simp [entryFrame, mkF, argsToLocals, Value.category]; done) | rfl
def f2 (q1 : Int64) : Int64 := (own_x ((own_x ((own_x q1 31 62) * (f3 (-7723592293110705685 : Int64))) 27 54) * (f3 (-4658895280553007687 : Int64))) 30 60)
def Q2 (q1 : Int64) (h0 : Heap) (n0 : Nat) (v : Option Value) (h : Heap) (L : List Loc) : Prop := v = some (.long (f2 q1)) ∧ Fr n0 L ∧ h = h0
set_option maxRecDepth 65536 in
set_option maxHeartbeats 40000000 in
theorem rm2 (l : Launch) (Z : State) (a0 : Array Value) (hw : ∀ d ∈ tables_1, d.before a0 Z = true) (ws : List Jvm.Cond) (q1 : Int64) (h0 : Heap) (n0 : Nat) (Z0 : n0 ≤ h0.size)  :
    MetFree l (⟨"com/example/halftally/halftally/HashingMixPinLaw", "unmix", "(J)J"⟩ : MethodName) (head1 (Jvm.Cond.code (⟨"com/example/halftally/halftally/HashingMixPinLaw", "unmix", "(J)J"⟩ : MethodName) method_3_code 4 (some .long) :: ws) ({ frames := 1, cells := 0, slots := 0, locals := 17 } : Room)) (fun a U => a = #[(.long q1)] ∧ Z.Warmed39 U.vm ∧ U.heap = h0) (fun _ _ _ _ _ => True) (fun _ U o U' => ∃ v L, o = .returned v ∧ Q2 q1 h0 n0 v U'.heap L ∧ FrameEnd U o U' L ({ frames := 1, cells := 0, slots := 0, locals := 17 } : Room).cells ({ frames := 1, cells := 0, slots := 0, locals := 17 } : Room).slots) := by
  refine MetFree.of_bodySF (plainFor_of_name pn_2) hisR ?_
  intro p e s m args below meth c s₁ Bd hml0 hP hK
  obtain ⟨rfl, hZ, hh⟩ := hP
  have hx := Bd.exec
  have hby := Bd.bytes
  have hml : c.maxLocals = 4 := hml0
  have hown : s.vm.findClass "com/example/halftally/halftally/HashingMixPinLaw" = some m.cls := findClass_of_methodNamed Bd.named
  have hnm := (name_of_methodNamed Bd.named Bd.method).1
  have X0 : Stand p l e ({ frames := 1, cells := 0, slots := 0, locals := 17 } : Room) s m #[(.long q1)] below meth c s₁ [] 0 0 := Stand.of_body Bd
  have e0 : s₁.heap = h0 := by rw [← hh, Bd.state]; rfl
  have N0 := Fr.nil n0
  refine own_start (Q := Q2 q1 h0 n0) (C := ({ frames := 1, cells := 0, slots := 0, locals := 17 } : Room).cells) (S := ({ frames := 1, cells := 0, slots := 0, locals := 17 } : Room).slots) ?_
  rw [ef_2 m q1]
  have hq : ∀ v hh L, v = some (.long (f2 q1)) → Fr n0 L → hh = h0 → Q2 q1 h0 n0 v hh L := fun v hh L q1 q2 q3 => ⟨q1, q2, q3⟩
  refine Gen.on (b := s₁.setTop (mkF m 1 #[.val (.long q1), .second, .unset, .unset] [(.long q1)])) ?_ (fun t k => XS.lloadN X0.here hx rfl (hb hby d2_0) rfl k)
  refine Gen.on (b := s₁.setTop (mkF m 2 #[.val (.long q1), .second, .unset, .unset] [(.long q1), (.long q1)])) ?_ (fun t k => XS.lloadN X0.here hx rfl (hb hby d2_1) rfl k)
  refine Gen.on (b := s₁.setTop (mkF m 4 #[.val (.long q1), .second, .unset, .unset] [(.int (31 : Int32)), (.long q1), (.long q1)])) ?_ (fun t k => XS.bipush X0.here hx rfl (hb hby d2_2) k)
  refine Gen.on (b := s₁.setTop (mkF m 5 #[.val (.long q1), .second, .unset, .unset] [(.long ((q1.toUInt64 >>> ((31 : Int32) &&& 0x3f).toInt64.toUInt64).toInt64)), (.long q1)])) ?_ (fun t k => XS.lushr X0.here hx rfl (hb hby d2_4) rfl k)
  refine Gen.on (b := s₁.setTop (mkF m 6 #[.val (.long q1), .second, .unset, .unset] [(.long (q1 ^^^ ((q1.toUInt64 >>> ((31 : Int32) &&& 0x3f).toInt64.toUInt64).toInt64)))])) ?_ (fun t k => XS.lxor X0.here hx rfl (hb hby d2_5) rfl k)
  refine Gen.on (b := s₁.setTop (mkF m 7 #[.val (.long q1), .second, .unset, .unset] [(.long q1), (.long (q1 ^^^ ((q1.toUInt64 >>> ((31 : Int32) &&& 0x3f).toInt64.toUInt64).toInt64)))])) ?_ (fun t k => XS.lloadN X0.here hx rfl (hb hby d2_6) rfl k)
  refine Gen.on (b := s₁.setTop (mkF m 9 #[.val (.long q1), .second, .unset, .unset] [(.int (62 : Int32)), (.long q1), (.long (q1 ^^^ ((q1.toUInt64 >>> ((31 : Int32) &&& 0x3f).toInt64.toUInt64).toInt64)))])) ?_ (fun t k => XS.bipush X0.here hx rfl (hb hby d2_7) k)
  refine Gen.on (b := s₁.setTop (mkF m 10 #[.val (.long q1), .second, .unset, .unset] [(.long ((q1.toUInt64 >>> ((62 : Int32) &&& 0x3f).toInt64.toUInt64).toInt64)), (.long (q1 ^^^ ((q1.toUInt64 >>> ((31 : Int32) &&& 0x3f).toInt64.toUInt64).toInt64)))])) ?_ (fun t k => XS.lushr X0.here hx rfl (hb hby d2_9) rfl k)
  refine Gen.on (b := s₁.setTop (mkF m 11 #[.val (.long q1), .second, .unset, .unset] [(.long ((q1 ^^^ ((q1.toUInt64 >>> ((31 : Int32) &&& 0x3f).toInt64.toUInt64).toInt64)) ^^^ ((q1.toUInt64 >>> ((62 : Int32) &&& 0x3f).toInt64.toUInt64).toInt64)))])) ?_ (fun t k => XS.lxor X0.here hx rfl (hb hby d2_10) rfl k)
  refine Gen.on (b := s₁.setTop (mkF m 12 #[.val (.long q1), .second, .val (.long ((q1 ^^^ ((q1.toUInt64 >>> ((31 : Int32) &&& 0x3f).toInt64.toUInt64).toInt64)) ^^^ ((q1.toUInt64 >>> ((62 : Int32) &&& 0x3f).toInt64.toUInt64).toInt64))), .second] [])) ?_ (fun t k => XS.lstoreN X0.here hx rfl (hb hby d2_11) rfl (l' := #[.val (.long q1), .second, .val (.long ((q1 ^^^ ((q1.toUInt64 >>> ((31 : Int32) &&& 0x3f).toInt64.toUInt64).toInt64)) ^^^ ((q1.toUInt64 >>> ((62 : Int32) &&& 0x3f).toInt64.toUInt64).toInt64))), .second]) rfl k)
  refine Gen.on (b := s₁.setTop (mkF m 13 #[.val (.long q1), .second, .val (.long (own_x q1 31 62)), .second] [(.long (own_x q1 31 62))])) ?_ (fun t k => XS.lloadN X0.here hx rfl (hb hby d2_12) rfl k)
  refine Gen.on (b := s₁.setTop (mkF m 16 #[.val (.long q1), .second, .val (.long (own_x q1 31 62)), .second] [(.long (-7723592293110705685 : Int64)), (.long (own_x q1 31 62))])) ?_ (fun t k => X0.ldc2Long hx hown (mvT hZ (hw _ (List.mem_of_getElem? (i := 10) rfl))) (g := (mkF m 13 #[.val (.long q1), .second, .val (.long (own_x q1 31 62)), .second] [(.long (own_x q1 31 62))])) rfl (hb hby d2_13) t k)
  obtain ⟨_, _, ⟨T1, L1, k1, n1⟩, -, X1, ⟨Lc1, hQ1, l1, y1, z1⟩, st1⟩ := Jvm.LawKit.callS X0 hx (y := (⟨"com/example/halftally/halftally/HashingMixPinLaw", "inverseOdd", "(J)J"⟩ : MethodName)) hown (mvT hZ (hw _ (List.mem_of_getElem? (i := 11) rfl))) (mvT hZ (hw _ (List.mem_of_getElem? (i := 12) rfl))) (mvT hZ (hw _ (List.mem_of_getElem? (i := 8) rfl))) (mvT hZ (hw _ (List.mem_of_getElem? (i := 13) rfl))) (by decide) (backOf (W := 2) (rm3 l Z a0 hw [] (-7723592293110705685 : Int64)  h0 n0 Z0 ) hZ (hw _ (List.mem_of_getElem? (i := 13) rfl)) (hw _ (List.mem_of_getElem? (i := 8) rfl)) (by decide) (by decide)) (g := (mkF m 16 #[.val (.long q1), .second, .val (.long (own_x q1 31 62)), .second] [(.long (-7723592293110705685 : Int64)), (.long (own_x q1 31 62))])) rfl (by rw [hml]; rfl) (argsL := [(.long (-7723592293110705685 : Int64))]) (rest := [(.long (own_x q1 31 62))]) (lenOf pd_2_0 rfl) rfl (by show 2 * 0 + _ ≤ _; exact Nat.le_of_eq rfl) (hb hby d2_16) (fun _ _ => ⟨rfl, e0, (by decide : 0 + 0 ≤ _), (by decide : 0 + 0 ≤ _)⟩)
  dsimp only [Pt.U, Pt.locs, Pt.cells, Pt.slots] at X1 l1 y1 z1 st1 hQ1
  subst l1 y1 z1
  obtain ⟨rfl, N1q, e1⟩ := hQ1
  have N1 := Fr.app N0 N1q
  refine Gen.on (b := T1.setTop (mkF m 19 #[.val (.long q1), .second, .val (.long (own_x q1 31 62)), .second] [(.long (f3 (-7723592293110705685 : Int64))), (.long (own_x q1 31 62))])) ?_ (fun t k => st1 t k)
  refine Gen.on (b := T1.setTop (mkF m 20 #[.val (.long q1), .second, .val (.long (own_x q1 31 62)), .second] [(.long ((own_x q1 31 62) * (f3 (-7723592293110705685 : Int64))))])) ?_ (fun t k => XS.lmul X1.here hx rfl (hb hby d2_19) rfl k)
  refine Gen.on (b := T1.setTop (mkF m 21 #[.val (.long q1), .second, .val (.long ((own_x q1 31 62) * (f3 (-7723592293110705685 : Int64)))), .second] [])) ?_ (fun t k => XS.lstoreN X1.here hx rfl (hb hby d2_20) rfl (l' := #[.val (.long q1), .second, .val (.long ((own_x q1 31 62) * (f3 (-7723592293110705685 : Int64)))), .second]) rfl k)
  refine Gen.on (b := T1.setTop (mkF m 22 #[.val (.long q1), .second, .val (.long ((own_x q1 31 62) * (f3 (-7723592293110705685 : Int64)))), .second] [(.long ((own_x q1 31 62) * (f3 (-7723592293110705685 : Int64))))])) ?_ (fun t k => XS.lloadN X1.here hx rfl (hb hby d2_21) rfl k)
  refine Gen.on (b := T1.setTop (mkF m 23 #[.val (.long q1), .second, .val (.long ((own_x q1 31 62) * (f3 (-7723592293110705685 : Int64)))), .second] [(.long ((own_x q1 31 62) * (f3 (-7723592293110705685 : Int64)))), (.long ((own_x q1 31 62) * (f3 (-7723592293110705685 : Int64))))])) ?_ (fun t k => XS.lloadN X1.here hx rfl (hb hby d2_22) rfl k)
  refine Gen.on (b := T1.setTop (mkF m 25 #[.val (.long q1), .second, .val (.long ((own_x q1 31 62) * (f3 (-7723592293110705685 : Int64)))), .second] [(.int (27 : Int32)), (.long ((own_x q1 31 62) * (f3 (-7723592293110705685 : Int64)))), (.long ((own_x q1 31 62) * (f3 (-7723592293110705685 : Int64))))])) ?_ (fun t k => XS.bipush X1.here hx rfl (hb hby d2_23) k)
  refine Gen.on (b := T1.setTop (mkF m 26 #[.val (.long q1), .second, .val (.long ((own_x q1 31 62) * (f3 (-7723592293110705685 : Int64)))), .second] [(.long ((((own_x q1 31 62) * (f3 (-7723592293110705685 : Int64))).toUInt64 >>> ((27 : Int32) &&& 0x3f).toInt64.toUInt64).toInt64)), (.long ((own_x q1 31 62) * (f3 (-7723592293110705685 : Int64))))])) ?_ (fun t k => XS.lushr X1.here hx rfl (hb hby d2_25) rfl k)
  refine Gen.on (b := T1.setTop (mkF m 27 #[.val (.long q1), .second, .val (.long ((own_x q1 31 62) * (f3 (-7723592293110705685 : Int64)))), .second] [(.long (((own_x q1 31 62) * (f3 (-7723592293110705685 : Int64))) ^^^ ((((own_x q1 31 62) * (f3 (-7723592293110705685 : Int64))).toUInt64 >>> ((27 : Int32) &&& 0x3f).toInt64.toUInt64).toInt64)))])) ?_ (fun t k => XS.lxor X1.here hx rfl (hb hby d2_26) rfl k)
  refine Gen.on (b := T1.setTop (mkF m 28 #[.val (.long q1), .second, .val (.long ((own_x q1 31 62) * (f3 (-7723592293110705685 : Int64)))), .second] [(.long ((own_x q1 31 62) * (f3 (-7723592293110705685 : Int64)))), (.long (((own_x q1 31 62) * (f3 (-7723592293110705685 : Int64))) ^^^ ((((own_x q1 31 62) * (f3 (-7723592293110705685 : Int64))).toUInt64 >>> ((27 : Int32) &&& 0x3f).toInt64.toUInt64).toInt64)))])) ?_ (fun t k => XS.lloadN X1.here hx rfl (hb hby d2_27) rfl k)
  refine Gen.on (b := T1.setTop (mkF m 30 #[.val (.long q1), .second, .val (.long ((own_x q1 31 62) * (f3 (-7723592293110705685 : Int64)))), .second] [(.int (54 : Int32)), (.long ((own_x q1 31 62) * (f3 (-7723592293110705685 : Int64)))), (.long (((own_x q1 31 62) * (f3 (-7723592293110705685 : Int64))) ^^^ ((((own_x q1 31 62) * (f3 (-7723592293110705685 : Int64))).toUInt64 >>> ((27 : Int32) &&& 0x3f).toInt64.toUInt64).toInt64)))])) ?_ (fun t k => XS.bipush X1.here hx rfl (hb hby d2_28) k)
  refine Gen.on (b := T1.setTop (mkF m 31 #[.val (.long q1), .second, .val (.long ((own_x q1 31 62) * (f3 (-7723592293110705685 : Int64)))), .second] [(.long ((((own_x q1 31 62) * (f3 (-7723592293110705685 : Int64))).toUInt64 >>> ((54 : Int32) &&& 0x3f).toInt64.toUInt64).toInt64)), (.long (((own_x q1 31 62) * (f3 (-7723592293110705685 : Int64))) ^^^ ((((own_x q1 31 62) * (f3 (-7723592293110705685 : Int64))).toUInt64 >>> ((27 : Int32) &&& 0x3f).toInt64.toUInt64).toInt64)))])) ?_ (fun t k => XS.lushr X1.here hx rfl (hb hby d2_30) rfl k)
  refine Gen.on (b := T1.setTop (mkF m 32 #[.val (.long q1), .second, .val (.long ((own_x q1 31 62) * (f3 (-7723592293110705685 : Int64)))), .second] [(.long ((((own_x q1 31 62) * (f3 (-7723592293110705685 : Int64))) ^^^ ((((own_x q1 31 62) * (f3 (-7723592293110705685 : Int64))).toUInt64 >>> ((27 : Int32) &&& 0x3f).toInt64.toUInt64).toInt64)) ^^^ ((((own_x q1 31 62) * (f3 (-7723592293110705685 : Int64))).toUInt64 >>> ((54 : Int32) &&& 0x3f).toInt64.toUInt64).toInt64)))])) ?_ (fun t k => XS.lxor X1.here hx rfl (hb hby d2_31) rfl k)
  refine Gen.on (b := T1.setTop (mkF m 33 #[.val (.long q1), .second, .val (.long ((((own_x q1 31 62) * (f3 (-7723592293110705685 : Int64))) ^^^ ((((own_x q1 31 62) * (f3 (-7723592293110705685 : Int64))).toUInt64 >>> ((27 : Int32) &&& 0x3f).toInt64.toUInt64).toInt64)) ^^^ ((((own_x q1 31 62) * (f3 (-7723592293110705685 : Int64))).toUInt64 >>> ((54 : Int32) &&& 0x3f).toInt64.toUInt64).toInt64))), .second] [])) ?_ (fun t k => XS.lstoreN X1.here hx rfl (hb hby d2_32) rfl (l' := #[.val (.long q1), .second, .val (.long ((((own_x q1 31 62) * (f3 (-7723592293110705685 : Int64))) ^^^ ((((own_x q1 31 62) * (f3 (-7723592293110705685 : Int64))).toUInt64 >>> ((27 : Int32) &&& 0x3f).toInt64.toUInt64).toInt64)) ^^^ ((((own_x q1 31 62) * (f3 (-7723592293110705685 : Int64))).toUInt64 >>> ((54 : Int32) &&& 0x3f).toInt64.toUInt64).toInt64))), .second]) rfl k)
  refine Gen.on (b := T1.setTop (mkF m 34 #[.val (.long q1), .second, .val (.long (own_x ((own_x q1 31 62) * (f3 (-7723592293110705685 : Int64))) 27 54)), .second] [(.long (own_x ((own_x q1 31 62) * (f3 (-7723592293110705685 : Int64))) 27 54))])) ?_ (fun t k => XS.lloadN X1.here hx rfl (hb hby d2_33) rfl k)
  refine Gen.on (b := T1.setTop (mkF m 37 #[.val (.long q1), .second, .val (.long (own_x ((own_x q1 31 62) * (f3 (-7723592293110705685 : Int64))) 27 54)), .second] [(.long (-4658895280553007687 : Int64)), (.long (own_x ((own_x q1 31 62) * (f3 (-7723592293110705685 : Int64))) 27 54))])) ?_ (fun t k => X1.ldc2Long hx hown (mvT hZ (hw _ (List.mem_of_getElem? (i := 15) rfl))) (g := (mkF m 34 #[.val (.long q1), .second, .val (.long (own_x ((own_x q1 31 62) * (f3 (-7723592293110705685 : Int64))) 27 54)), .second] [(.long (own_x ((own_x q1 31 62) * (f3 (-7723592293110705685 : Int64))) 27 54))])) rfl (hb hby d2_34) t k)
  obtain ⟨_, _, ⟨T2, L2, k2, n2⟩, -, X2, ⟨Lc2, hQ2, l2, y2, z2⟩, st2⟩ := Jvm.LawKit.callS X1 hx (y := (⟨"com/example/halftally/halftally/HashingMixPinLaw", "inverseOdd", "(J)J"⟩ : MethodName)) hown (mvT hZ (hw _ (List.mem_of_getElem? (i := 11) rfl))) (mvT hZ (hw _ (List.mem_of_getElem? (i := 12) rfl))) (mvT hZ (hw _ (List.mem_of_getElem? (i := 8) rfl))) (mvT hZ (hw _ (List.mem_of_getElem? (i := 13) rfl))) (by decide) (backOf (W := 2) (rm3 l Z a0 hw [] (-4658895280553007687 : Int64)  h0 n0 Z0 ) hZ (hw _ (List.mem_of_getElem? (i := 13) rfl)) (hw _ (List.mem_of_getElem? (i := 8) rfl)) (by decide) (by decide)) (g := (mkF m 37 #[.val (.long q1), .second, .val (.long (own_x ((own_x q1 31 62) * (f3 (-7723592293110705685 : Int64))) 27 54)), .second] [(.long (-4658895280553007687 : Int64)), (.long (own_x ((own_x q1 31 62) * (f3 (-7723592293110705685 : Int64))) 27 54))])) rfl (by rw [hml]; rfl) (argsL := [(.long (-4658895280553007687 : Int64))]) (rest := [(.long (own_x ((own_x q1 31 62) * (f3 (-7723592293110705685 : Int64))) 27 54))]) (lenOf pd_2_0 rfl) rfl (by show 2 * 0 + _ ≤ _; exact Nat.le_of_eq rfl) (hb hby d2_37) (fun _ _ => ⟨rfl, e1, (by decide : 0 + 0 ≤ _), (by decide : 0 + 0 ≤ _)⟩)
  dsimp only [Pt.U, Pt.locs, Pt.cells, Pt.slots] at X2 l2 y2 z2 st2 hQ2
  subst l2 y2 z2
  obtain ⟨rfl, N2q, e2⟩ := hQ2
  have N2 := Fr.app N1 N2q
  refine Gen.on (b := T2.setTop (mkF m 40 #[.val (.long q1), .second, .val (.long (own_x ((own_x q1 31 62) * (f3 (-7723592293110705685 : Int64))) 27 54)), .second] [(.long (f3 (-4658895280553007687 : Int64))), (.long (own_x ((own_x q1 31 62) * (f3 (-7723592293110705685 : Int64))) 27 54))])) ?_ (fun t k => st2 t k)
  refine Gen.on (b := T2.setTop (mkF m 41 #[.val (.long q1), .second, .val (.long (own_x ((own_x q1 31 62) * (f3 (-7723592293110705685 : Int64))) 27 54)), .second] [(.long ((own_x ((own_x q1 31 62) * (f3 (-7723592293110705685 : Int64))) 27 54) * (f3 (-4658895280553007687 : Int64))))])) ?_ (fun t k => XS.lmul X2.here hx rfl (hb hby d2_40) rfl k)
  refine Gen.on (b := T2.setTop (mkF m 42 #[.val (.long q1), .second, .val (.long ((own_x ((own_x q1 31 62) * (f3 (-7723592293110705685 : Int64))) 27 54) * (f3 (-4658895280553007687 : Int64)))), .second] [])) ?_ (fun t k => XS.lstoreN X2.here hx rfl (hb hby d2_41) rfl (l' := #[.val (.long q1), .second, .val (.long ((own_x ((own_x q1 31 62) * (f3 (-7723592293110705685 : Int64))) 27 54) * (f3 (-4658895280553007687 : Int64)))), .second]) rfl k)
  refine Gen.on (b := T2.setTop (mkF m 43 #[.val (.long q1), .second, .val (.long ((own_x ((own_x q1 31 62) * (f3 (-7723592293110705685 : Int64))) 27 54) * (f3 (-4658895280553007687 : Int64)))), .second] [(.long ((own_x ((own_x q1 31 62) * (f3 (-7723592293110705685 : Int64))) 27 54) * (f3 (-4658895280553007687 : Int64))))])) ?_ (fun t k => XS.lloadN X2.here hx rfl (hb hby d2_42) rfl k)
  refine Gen.on (b := T2.setTop (mkF m 44 #[.val (.long q1), .second, .val (.long ((own_x ((own_x q1 31 62) * (f3 (-7723592293110705685 : Int64))) 27 54) * (f3 (-4658895280553007687 : Int64)))), .second] [(.long ((own_x ((own_x q1 31 62) * (f3 (-7723592293110705685 : Int64))) 27 54) * (f3 (-4658895280553007687 : Int64)))), (.long ((own_x ((own_x q1 31 62) * (f3 (-7723592293110705685 : Int64))) 27 54) * (f3 (-4658895280553007687 : Int64))))])) ?_ (fun t k => XS.lloadN X2.here hx rfl (hb hby d2_43) rfl k)
  refine Gen.on (b := T2.setTop (mkF m 46 #[.val (.long q1), .second, .val (.long ((own_x ((own_x q1 31 62) * (f3 (-7723592293110705685 : Int64))) 27 54) * (f3 (-4658895280553007687 : Int64)))), .second] [(.int (30 : Int32)), (.long ((own_x ((own_x q1 31 62) * (f3 (-7723592293110705685 : Int64))) 27 54) * (f3 (-4658895280553007687 : Int64)))), (.long ((own_x ((own_x q1 31 62) * (f3 (-7723592293110705685 : Int64))) 27 54) * (f3 (-4658895280553007687 : Int64))))])) ?_ (fun t k => XS.bipush X2.here hx rfl (hb hby d2_44) k)
  refine Gen.on (b := T2.setTop (mkF m 47 #[.val (.long q1), .second, .val (.long ((own_x ((own_x q1 31 62) * (f3 (-7723592293110705685 : Int64))) 27 54) * (f3 (-4658895280553007687 : Int64)))), .second] [(.long ((((own_x ((own_x q1 31 62) * (f3 (-7723592293110705685 : Int64))) 27 54) * (f3 (-4658895280553007687 : Int64))).toUInt64 >>> ((30 : Int32) &&& 0x3f).toInt64.toUInt64).toInt64)), (.long ((own_x ((own_x q1 31 62) * (f3 (-7723592293110705685 : Int64))) 27 54) * (f3 (-4658895280553007687 : Int64))))])) ?_ (fun t k => XS.lushr X2.here hx rfl (hb hby d2_46) rfl k)
  refine Gen.on (b := T2.setTop (mkF m 48 #[.val (.long q1), .second, .val (.long ((own_x ((own_x q1 31 62) * (f3 (-7723592293110705685 : Int64))) 27 54) * (f3 (-4658895280553007687 : Int64)))), .second] [(.long (((own_x ((own_x q1 31 62) * (f3 (-7723592293110705685 : Int64))) 27 54) * (f3 (-4658895280553007687 : Int64))) ^^^ ((((own_x ((own_x q1 31 62) * (f3 (-7723592293110705685 : Int64))) 27 54) * (f3 (-4658895280553007687 : Int64))).toUInt64 >>> ((30 : Int32) &&& 0x3f).toInt64.toUInt64).toInt64)))])) ?_ (fun t k => XS.lxor X2.here hx rfl (hb hby d2_47) rfl k)
  refine Gen.on (b := T2.setTop (mkF m 49 #[.val (.long q1), .second, .val (.long ((own_x ((own_x q1 31 62) * (f3 (-7723592293110705685 : Int64))) 27 54) * (f3 (-4658895280553007687 : Int64)))), .second] [(.long ((own_x ((own_x q1 31 62) * (f3 (-7723592293110705685 : Int64))) 27 54) * (f3 (-4658895280553007687 : Int64)))), (.long (((own_x ((own_x q1 31 62) * (f3 (-7723592293110705685 : Int64))) 27 54) * (f3 (-4658895280553007687 : Int64))) ^^^ ((((own_x ((own_x q1 31 62) * (f3 (-7723592293110705685 : Int64))) 27 54) * (f3 (-4658895280553007687 : Int64))).toUInt64 >>> ((30 : Int32) &&& 0x3f).toInt64.toUInt64).toInt64)))])) ?_ (fun t k => XS.lloadN X2.here hx rfl (hb hby d2_48) rfl k)
  refine Gen.on (b := T2.setTop (mkF m 51 #[.val (.long q1), .second, .val (.long ((own_x ((own_x q1 31 62) * (f3 (-7723592293110705685 : Int64))) 27 54) * (f3 (-4658895280553007687 : Int64)))), .second] [(.int (60 : Int32)), (.long ((own_x ((own_x q1 31 62) * (f3 (-7723592293110705685 : Int64))) 27 54) * (f3 (-4658895280553007687 : Int64)))), (.long (((own_x ((own_x q1 31 62) * (f3 (-7723592293110705685 : Int64))) 27 54) * (f3 (-4658895280553007687 : Int64))) ^^^ ((((own_x ((own_x q1 31 62) * (f3 (-7723592293110705685 : Int64))) 27 54) * (f3 (-4658895280553007687 : Int64))).toUInt64 >>> ((30 : Int32) &&& 0x3f).toInt64.toUInt64).toInt64)))])) ?_ (fun t k => XS.bipush X2.here hx rfl (hb hby d2_49) k)
  refine Gen.on (b := T2.setTop (mkF m 52 #[.val (.long q1), .second, .val (.long ((own_x ((own_x q1 31 62) * (f3 (-7723592293110705685 : Int64))) 27 54) * (f3 (-4658895280553007687 : Int64)))), .second] [(.long ((((own_x ((own_x q1 31 62) * (f3 (-7723592293110705685 : Int64))) 27 54) * (f3 (-4658895280553007687 : Int64))).toUInt64 >>> ((60 : Int32) &&& 0x3f).toInt64.toUInt64).toInt64)), (.long (((own_x ((own_x q1 31 62) * (f3 (-7723592293110705685 : Int64))) 27 54) * (f3 (-4658895280553007687 : Int64))) ^^^ ((((own_x ((own_x q1 31 62) * (f3 (-7723592293110705685 : Int64))) 27 54) * (f3 (-4658895280553007687 : Int64))).toUInt64 >>> ((30 : Int32) &&& 0x3f).toInt64.toUInt64).toInt64)))])) ?_ (fun t k => XS.lushr X2.here hx rfl (hb hby d2_51) rfl k)
  refine Gen.on (b := T2.setTop (mkF m 53 #[.val (.long q1), .second, .val (.long ((own_x ((own_x q1 31 62) * (f3 (-7723592293110705685 : Int64))) 27 54) * (f3 (-4658895280553007687 : Int64)))), .second] [(.long ((((own_x ((own_x q1 31 62) * (f3 (-7723592293110705685 : Int64))) 27 54) * (f3 (-4658895280553007687 : Int64))) ^^^ ((((own_x ((own_x q1 31 62) * (f3 (-7723592293110705685 : Int64))) 27 54) * (f3 (-4658895280553007687 : Int64))).toUInt64 >>> ((30 : Int32) &&& 0x3f).toInt64.toUInt64).toInt64)) ^^^ ((((own_x ((own_x q1 31 62) * (f3 (-7723592293110705685 : Int64))) 27 54) * (f3 (-4658895280553007687 : Int64))).toUInt64 >>> ((60 : Int32) &&& 0x3f).toInt64.toUInt64).toInt64)))])) ?_ (fun t k => XS.lxor X2.here hx rfl (hb hby d2_52) rfl k)
  refine Gen.on (b := T2.setTop (mkF m 54 #[.val (.long q1), .second, .val (.long ((((own_x ((own_x q1 31 62) * (f3 (-7723592293110705685 : Int64))) 27 54) * (f3 (-4658895280553007687 : Int64))) ^^^ ((((own_x ((own_x q1 31 62) * (f3 (-7723592293110705685 : Int64))) 27 54) * (f3 (-4658895280553007687 : Int64))).toUInt64 >>> ((30 : Int32) &&& 0x3f).toInt64.toUInt64).toInt64)) ^^^ ((((own_x ((own_x q1 31 62) * (f3 (-7723592293110705685 : Int64))) 27 54) * (f3 (-4658895280553007687 : Int64))).toUInt64 >>> ((60 : Int32) &&& 0x3f).toInt64.toUInt64).toInt64))), .second] [])) ?_ (fun t k => XS.lstoreN X2.here hx rfl (hb hby d2_53) rfl (l' := #[.val (.long q1), .second, .val (.long ((((own_x ((own_x q1 31 62) * (f3 (-7723592293110705685 : Int64))) 27 54) * (f3 (-4658895280553007687 : Int64))) ^^^ ((((own_x ((own_x q1 31 62) * (f3 (-7723592293110705685 : Int64))) 27 54) * (f3 (-4658895280553007687 : Int64))).toUInt64 >>> ((30 : Int32) &&& 0x3f).toInt64.toUInt64).toInt64)) ^^^ ((((own_x ((own_x q1 31 62) * (f3 (-7723592293110705685 : Int64))) 27 54) * (f3 (-4658895280553007687 : Int64))).toUInt64 >>> ((60 : Int32) &&& 0x3f).toInt64.toUInt64).toInt64))), .second]) rfl k)
  refine Gen.on (b := T2.setTop (mkF m 55 #[.val (.long q1), .second, .val (.long (own_x ((own_x ((own_x q1 31 62) * (f3 (-7723592293110705685 : Int64))) 27 54) * (f3 (-4658895280553007687 : Int64))) 30 60)), .second] [(.long (own_x ((own_x ((own_x q1 31 62) * (f3 (-7723592293110705685 : Int64))) 27 54) * (f3 (-4658895280553007687 : Int64))) 30 60))])) ?_ (fun t k => XS.lloadN X2.here hx rfl (hb hby d2_54) rfl k)
  refine own_retJ X2 hx Bd.returns (hb hby d2_55) (by decide) (by decide) ?_
  exact hq _ _ _ (by simp only [f2]) N2 e2

theorem own_undo (z : Int64) (k k2 : Int32) (a : Nat) (h1 : (k &&& 0x3f).toInt64.toUInt64.toNat = a) (h2 : (k2 &&& 0x3f).toInt64.toUInt64.toNat = a + a) (h3 : 64 ≤ a + a + a) (h4 : a + a < 64) : own_x (z ^^^ own_sh z k) k k2 = z := by
  apply Int64.toBitVec_inj.mp
  have e : ∀ (w : Int64) (j : Int32) (b : Nat), (j &&& 0x3f).toInt64.toUInt64.toNat = b → b < 64 → (own_sh w j).toBitVec = w.toBitVec >>> b := fun w j b hb hl => by
    simp only [own_sh, UInt64.toBitVec_toInt64, UInt64.toBitVec_shiftRight, Int64.toBitVec_toUInt64]
    rw [BitVec.ushiftRight_eq']
    congr 1
    rw [← hb] at hl ⊢
    simp only [UInt64.toNat] at hl ⊢
    rw [BitVec.toNat_umod]
    exact Nat.mod_eq_of_lt hl
  simp only [own_x, Int64.toBitVec_xor, e _ _ _ h1 (by omega), e _ _ _ h2 h4]
  generalize z.toBitVec = v
  ext i hi
  simp only [BitVec.getElem_xor, BitVec.getElem_ushiftRight, BitVec.getLsbD_xor, BitVec.getLsbD_ushiftRight]
  have g : v.getLsbD (a + (a + a + i)) = false := BitVec.getLsbD_of_ge _ _ (by omega)
  rw [show a + (a + i) = a + a + i by omega, g, ← BitVec.getLsbD_eq_getElem]
  cases v.getLsbD i <;> cases v.getLsbD (a + i) <;> cases v.getLsbD (a + a + i) <;> rfl
theorem own_inv (c z : Int64) (h : c * f3 c = 1) : (z * c) * f3 c = z := by
  rw [Int64.mul_assoc, h, Int64.mul_one]
theorem own_law (z : Int64) : f2 (f1 z) = z := by
  have i1 : (-4658895280553007687 : Int64) * f3 (-4658895280553007687) = 1 := by decide +kernel
  have i2 : (-7723592293110705685 : Int64) * f3 (-7723592293110705685) = 1 := by decide +kernel
  show own_x (own_x (own_x ((own_m (own_m z 30 (-4658895280553007687)) 27 (-7723592293110705685)) ^^^ own_sh (own_m (own_m z 30 (-4658895280553007687)) 27 (-7723592293110705685)) 31) 31 62 * f3 (-7723592293110705685)) 27 54 * f3 (-4658895280553007687)) 30 60 = z
  rw [own_undo _ 31 62 31 (by decide +kernel) (by decide +kernel) (by decide) (by decide)]
  rw [show own_m (own_m z 30 (-4658895280553007687)) 27 (-7723592293110705685) = (own_m z 30 (-4658895280553007687) ^^^ own_sh (own_m z 30 (-4658895280553007687)) 27) * (-7723592293110705685) from rfl, own_inv _ _ i2]
  rw [own_undo _ 27 54 27 (by decide +kernel) (by decide +kernel) (by decide) (by decide)]
  rw [show own_m z 30 (-4658895280553007687) = (z ^^^ own_sh z 30) * (-4658895280553007687) from rfl, own_inv _ _ i1]
  exact own_undo _ 30 60 30 (by decide +kernel) (by decide +kernel) (by decide) (by decide)

theorem pn_0 : plainName "com/example/halftally/halftally/HashingMixPinLaw" = true := by first | (simp [plainName, overriddenIn]; done) | decide +kernel
theorem pd_0_0 : parseMethodDescriptor "(J)J" = some ⟨[.long], some .long⟩ := by decide +kernel
theorem ef_0 (m : MethodId) (x0 : Int64) : entryFrame m #[(.long x0)] maxLocals = mkF m 0 #[.val (.long x0), .second] [] := by first | (simp [entryFrame, mkF, argsToLocals, Value.category, maxLocals]; done) | rfl
def Q0 (n0 : Nat) (v : Option Value) (h : Heap) (L : List Loc) : Prop := v = some (.int 1) ∧ Fr n0 L
set_option maxRecDepth 65536 in
set_option maxHeartbeats 40000000 in
theorem rm0 (l : Launch) (Z : State) (a0 : Array Value) (hw : ∀ d ∈ tables_1, d.before a0 Z = true) (ws : List Jvm.Cond) (q1 : Int64) (h0 : Heap) (n0 : Nat) (Z0 : n0 ≤ h0.size)  :
    MetFree l x (head1 (Jvm.Cond.code x code maxLocals ret :: ws) room_1) (fun a U => a = #[(.long q1)] ∧ Z.Warmed39 U.vm ∧ U.heap = h0) (fun _ _ _ _ _ => True) (fun _ U o U' => ∃ v L, o = .returned v ∧ Q0 n0 v U'.heap L ∧ FrameEnd U o U' L room_1.cells room_1.slots) := by
  refine MetFree.of_bodySF (plainFor_of_name pn_0) hisR ?_
  intro p e s m args below meth c s₁ Bd hml0 hP hK
  obtain ⟨rfl, hZ, hh⟩ := hP
  have hx := Bd.exec
  have hby := Bd.bytes
  have hml : c.maxLocals = 2 := hml0
  have hown : s.vm.findClass "com/example/halftally/halftally/HashingMixPinLaw" = some m.cls := findClass_of_methodNamed Bd.named
  have hnm := (name_of_methodNamed Bd.named Bd.method).1
  have X0 : Stand p l e room_1 s m #[(.long q1)] below meth c s₁ [] 0 0 := Stand.of_body Bd
  have e0 : s₁.heap = h0 := by rw [← hh, Bd.state]; rfl
  have N0 := Fr.nil n0
  refine own_start (Q := Q0 n0) (C := room_1.cells) (S := room_1.slots) ?_
  rw [ef_0 m q1]
  refine Gen.on (b := s₁.setTop (mkF m 1 #[.val (.long q1), .second] [(.long q1)])) ?_ (fun t k => XS.lloadN X0.here hx rfl (hb hby at_0) rfl k)
  obtain ⟨_, _, ⟨T1, L1, k1, n1⟩, -, X1, ⟨Lc1, hQ1, l1, y1, z1⟩, st1⟩ := Jvm.LawKit.callS X0 hx (y := (⟨"com/example/halftally/halftally/Hashing", "mix", "(J)J"⟩ : MethodName)) hown (mvT hZ (hw _ (List.mem_of_getElem? (i := 0) rfl))) (mvT hZ (hw _ (List.mem_of_getElem? (i := 1) rfl))) (mvT hZ (hw _ (List.mem_of_getElem? (i := 2) rfl))) (mvT hZ (hw _ (List.mem_of_getElem? (i := 3) rfl))) (by decide) (backOf (W := 0) (rm1 l Z a0 hw [] q1  h0 n0 Z0 ) hZ (hw _ (List.mem_of_getElem? (i := 3) rfl)) (hw _ (List.mem_of_getElem? (i := 2) rfl)) (by decide) (by decide)) (g := (mkF m 1 #[.val (.long q1), .second] [(.long q1)])) rfl (by rw [hml]; rfl) (argsL := [(.long q1)]) (rest := []) (lenOf pd_0_0 rfl) rfl (by show 2 * 0 + _ ≤ _; exact Nat.le_of_eq rfl) (hb hby at_1) (fun _ _ => ⟨rfl, e0, (by decide : 0 + 0 ≤ _), (by decide : 0 + 0 ≤ _)⟩)
  dsimp only [Pt.U, Pt.locs, Pt.cells, Pt.slots] at X1 l1 y1 z1 st1 hQ1
  subst l1 y1 z1
  obtain ⟨rfl, N1q, e1⟩ := hQ1
  have N1 := Fr.app N0 N1q
  refine Gen.on (b := T1.setTop (mkF m 4 #[.val (.long q1), .second] [(.long (f1 q1))])) ?_ (fun t k => st1 t k)
  obtain ⟨_, _, ⟨T2, L2, k2, n2⟩, -, X2, ⟨Lc2, hQ2, l2, y2, z2⟩, st2⟩ := Jvm.LawKit.callS X1 hx (y := (⟨"com/example/halftally/halftally/HashingMixPinLaw", "unmix", "(J)J"⟩ : MethodName)) hown (mvT hZ (hw _ (List.mem_of_getElem? (i := 6) rfl))) (mvT hZ (hw _ (List.mem_of_getElem? (i := 7) rfl))) (mvT hZ (hw _ (List.mem_of_getElem? (i := 8) rfl))) (mvT hZ (hw _ (List.mem_of_getElem? (i := 9) rfl))) (by decide) (backOf (W := 0) (rm2 l Z a0 hw [] (f1 q1)  h0 n0 Z0 ) hZ (hw _ (List.mem_of_getElem? (i := 9) rfl)) (hw _ (List.mem_of_getElem? (i := 8) rfl)) (by decide) (by decide)) (g := (mkF m 4 #[.val (.long q1), .second] [(.long (f1 q1))])) rfl (by rw [hml]; rfl) (argsL := [(.long (f1 q1))]) (rest := []) (lenOf pd_0_0 rfl) rfl (by show 2 * 0 + _ ≤ _; exact Nat.le_of_eq rfl) (hb hby at_4) (fun _ _ => ⟨rfl, e1, (by decide : 0 + 0 ≤ _), (by decide : 0 + 0 ≤ _)⟩)
  dsimp only [Pt.U, Pt.locs, Pt.cells, Pt.slots] at X2 l2 y2 z2 st2 hQ2
  subst l2 y2 z2
  obtain ⟨rfl, N2q, e2⟩ := hQ2
  have N2 := Fr.app N1 N2q
  refine Gen.on (b := T2.setTop (mkF m 7 #[.val (.long q1), .second] [(.long (f2 (f1 q1)))])) ?_ (fun t k => st2 t k)
  refine Gen.on (b := T2.setTop (mkF m 8 #[.val (.long q1), .second] [(.long q1), (.long (f2 (f1 q1)))])) ?_ (fun t k => XS.lloadN X2.here hx rfl (hb hby at_7) rfl k)
  refine Gen.on (b := T2.setTop (mkF m 9 #[.val (.long q1), .second] [(.int (lcmpW (f2 (f1 q1)) q1))])) ?_ (fun t k => XS.lcmp X2.here hx rfl (hb hby at_8) rfl k)
  refine Gen.on (b := T2.setTop (mkF m 12 #[.val (.long q1), .second] [])) ?_ (fun t k => XS.ifNo X2.here hx rfl (hb hby at_9) rfl (own_eq1 (own_law q1)).2 k)
  refine Gen.on (b := T2.setTop (mkF m 13 #[.val (.long q1), .second] [(.int (1 : Int32))])) ?_ (fun t k => XS.iconst X2.here hx rfl (hb hby at_12) k)
  refine Gen.on (b := T2.setTop (mkF m 17 #[.val (.long q1), .second] [(.int (1 : Int32))])) ?_ (fun t k => XS.goto X2.here hx rfl (pc0 := 13) (pc' := 17) rfl (hb hby at_13) (by decide) (by decide) k)
  refine own_retN (t := .boolean) X2 hx Bd.returns (by simp) (by decide) (hb hby at_17) (by decide) (by decide) ?_
  exact ⟨rfl, N2⟩
set_option maxRecDepth 65536 in
set_option maxHeartbeats 40000000 in
theorem comes_1 {Post : Tables → Env → Array Value → State → Outcome → State → Prop} (hpost : ∀ tb e args s v u, (limb_1_1.after args s (.returned v) u = true ∧ limb_1_2.after args s (.returned v) u = true ∧ True) → FrameEnd s (.returned v) u (Jvm.fieldLocs frame_1_writes args s ++ Jvm.arrayLocs frame_1_arrays args s ++ Jvm.staticLocs frame_1_statics s) 0 0 → Post tb e args s (.returned v) u) :
    ArmFor flags0 classFile x code maxLocals ret World_1 tables_1 room_1 Calls_1 rest_1 Pre_1 Post := by
  intro l hfl _ _ p e ha hc hk s m args below hf hA hF happ hP
  obtain ⟨hcalls, hrest, hpre⟩ := hP
  obtain ⟨-, -, -, hnamed, -, -, -, hat⟩ := (Spec.applies_iff hf).mp happ
  obtain ⟨hg, hn⟩ := and_e (Cond.before_iff.mp (show (Jvm.Cond.and given_1 narrow_1).before args s = true from hpre))
  obtain ⟨hcount, hr1⟩ := and_e hg
  obtain ⟨w0, rfl⟩ : ∃ w0 : Value, args = #[w0] := by
    have hs : args.size = 1 := by simpa [Cond.value, given_1] using hcount
    obtain ⟨L⟩ := args
    match L, hs with
    | [w0], _ => exact ⟨w0, rfl⟩
  have hw := fun d (hd : d ∈ tables_1) => atoms_spec (ws := Jvm.Cond.code x code maxLocals ret :: tables_1) hat d (List.mem_cons_of_mem _ hd)
  have hfit : Fit s := fun {y c} hc i hi => by
    obtain ⟨ha, rfl⟩ := Array.getElem?_eq_some_iff.mp hc
    have q := List.all_eq_true.mp ((Array.all_eq_true_iff_forall_mem.mp hF) _ (Array.getElem_mem ha)) i (List.mem_range.mpr hi)
    simpa [Array.getElem?_eq_getElem hi] using q
  obtain ⟨i0, ei0⟩ := isL_v hr1
  obtain rfl : w0 = (.long i0) := Option.some.inj ei0
  obtain ⟨n, o, h1, h2, h3, _, L, rfl, ⟨rfl, N⟩, hq⟩ := rm0 l s _ hw tables_1 i0 s.heap s.heap.size (Nat.le_refl _)  p e ha hc hk s m _ below hf ((Spec.applies_iff_loose hf).mp happ).1 ⟨rfl, State.Warmed39.refl s, rfl⟩ trivial
  refine ⟨n, _, h1, h2, h3, hpost _ _ _ _ _ _ ⟨Cond.after_iff.mpr rfl, Cond.after_iff.mpr (eq_i res_at (Term.int_eval (1)) rfl), trivial⟩ ⟨hq.1, hq.2.1, (hq.2.2.sift fun y hy => Or.inr (N y hy)).mono (by decide) (by decide)⟩⟩
theorem main_1_1 : Claimed_1_1 := comes_1 fun _ _ _ _ _ _ h hF => ⟨h.1, hF⟩
theorem main_1_2 : Claimed_1_2 := comes_1 fun _ _ _ _ _ _ h hF => ⟨h.2.1, hF⟩
end Jvm.Pilot.@@N@@
namespace Jvm.Pilot.@@N@@
open Jvm Jvm.ClassFile Sem Op Lib Jvm.Free Jvm.Stand Jvm.Pilot.@@N@@.Jvm.D
/-! MADE BY PROGRAM (witnessworld.py) out of the Statement's table words and the real class files: 9 classes; the members and pool entries that the words name. The judged class is class 1, her method 3. -/
namespace start1
open Jvm.ClassFile
def u (s : String) : CpInfo := .utf8 (stringToUtf16 s)
/-- a pool by its gaps: so many unusable entries, then the entry; so many at the end -/
def gap : Nat → List CpInfo → List CpInfo
  | 0, r => r
  | n + 1, r => .unusable :: gap n r
def poolList (es : List (Nat × CpInfo)) (last : Nat) : List CpInfo := es.foldr (fun e r => gap e.1 (e.2 :: r)) (gap last [])
def pool (es : List (Nat × CpInfo)) (last : Nat) : Array CpInfo := ⟨poolList es last⟩
def fileOf (pool : Array CpInfo) (this : Nat) (attrs : Array Attribute := #[]) (ms : Array MethodInfo := #[]) (fl : Nat := 33) (sup : Nat := 0) (ifs : Array Nat := #[]) (fds : Array FieldInfo := #[]) : ClassFile where
  minorVersion := 0
  majorVersion := 65
  constantPool := pool
  accessFlags := fl
  thisClass := this
  superClass := sup
  interfaces := ifs
  fields := fds
  methods := ms
  attributes := attrs
def plain (name : String) (sup : Option ClassId) : Class where
  name := name
  kind := .ordinary
  loader := none
  accessFlags := 33
  super := sup
  interfaces := #[]
  cf := none
  fields := #[]
  methods := #[]
  instanceTypes := #[]
  staticTypes := #[]
  resolved := #[]
  callSites := []
  init := .initialized
  statics := none
  mirror := none

def pool0 : Array CpInfo := pool [(5, u "<init>"), (0, u "()V"), (1, .class_ 10), (1, u "java/lang/Object")] 113

def k0m0 : Method := { name := "<init>", desc := "()V", sig := { parameters := [], returnType := none }, accessFlags := 1, code := none }
/-- java/lang/Object -/
def k0 : Class := { plain "java/lang/Object" none with
  accessFlags := 33
  interfaces := #[]
  cf := some (fileOf pool0 8 #[] #[{ accessFlags := 1, nameIndex := 5, descriptorIndex := 6, attributes := #[] }] 33 0 #[] #[])
  fields := #[]
  methods := #[k0m0]
  instanceTypes := #[]
  staticTypes := #[]
  resolved := Array.replicate 124 none
  statics := none }

def pool1 : Array CpInfo := pool [(2, .class_ 4), (1, u "java/lang/Object"), (0, u "<init>"), (0, u "()V"), (0, .long 2), (1, .long 10723151780598845931), (1, .methodref 12 13), (0, .class_ 14), (0, .nameAndType 15 16), (0, u "com/example/halftally/halftally/HashingMixPinLaw"), (0, u "inverseOdd"), (0, u "(J)J"), (0, .long 13787848793156543929), (1, .methodref 20 21), (0, .class_ 22), (0, .nameAndType 23 16), (0, u "com/example/halftally/halftally/Hashing"), (0, u "mix"), (0, .methodref 12 25), (0, .nameAndType 26 16), (0, u "unmix"), (2, u "law"), (0, u "(J)Z")] 3

def k1m0 : Method := { name := "<init>", desc := "()V", sig := { parameters := [], returnType := none }, accessFlags := 2, code := none }
def k1c1 : Code := { maxStack := 8, maxLocals := 4, code := method_2_code, exceptionTable := #[], attributes := #[] }
def k1m1 : Method := { name := "inverseOdd", desc := "(J)J", sig := { parameters := [.long], returnType := some .long }, accessFlags := 10, code := some k1c1 }
def k1c2 : Code := { maxStack := 5, maxLocals := 4, code := method_3_code, exceptionTable := #[], attributes := #[] }
def k1m2 : Method := { name := "unmix", desc := "(J)J", sig := { parameters := [.long], returnType := some .long }, accessFlags := 10, code := some k1c2 }
def k1c3 : Code := { maxStack := 4, maxLocals := 2, code := code, exceptionTable := #[], attributes := #[] }
def k1m3 : Method := { name := "law", desc := "(J)Z", sig := { parameters := [.long], returnType := some .boolean }, accessFlags := 9, code := some k1c3 }
/-- com/example/halftally/halftally/HashingMixPinLaw -/
def k1 : Class := { plain "com/example/halftally/halftally/HashingMixPinLaw" (some 0) with
  accessFlags := 49
  interfaces := #[]
  cf := some (fileOf pool1 12 #[] #[{ accessFlags := 2, nameIndex := 5, descriptorIndex := 6, attributes := #[] }, { accessFlags := 10, nameIndex := 15, descriptorIndex := 16, attributes := #[] }, { accessFlags := 10, nameIndex := 26, descriptorIndex := 16, attributes := #[] }, { accessFlags := 9, nameIndex := 29, descriptorIndex := 30, attributes := #[] }] 49 2 #[] #[])
  fields := #[]
  methods := #[k1m0, k1m1, k1m2, k1m3]
  instanceTypes := #[]
  staticTypes := #[]
  resolved := Array.replicate 34 none
  statics := none }

def pool2 : Array CpInfo := pool [(2, .class_ 4), (1, u "java/lang/Object"), (0, u "<init>"), (0, u "()V"), (0, .long 13787848793156543929), (1, .long 10723151780598845931), (1, .class_ 12), (0, u "com/example/halftally/halftally/Hashing"), (9, u "MAXIMUM_TABLE_LENGTH"), (0, u "I"), (3, u "mix"), (0, u "(J)J")] 5

def k2m0 : Method := { name := "<init>", desc := "()V", sig := { parameters := [], returnType := none }, accessFlags := 2, code := none }
def k2c1 : Code := { maxStack := 5, maxLocals := 2, code := prog_24_method_2_code, exceptionTable := #[], attributes := #[] }
def k2m1 : Method := { name := "mix", desc := "(J)J", sig := { parameters := [.long], returnType := some .long }, accessFlags := 8, code := some k2c1 }
/-- com/example/halftally/halftally/Hashing -/
def k2 : Class := { plain "com/example/halftally/halftally/Hashing" (some 0) with
  accessFlags := 48
  interfaces := #[]
  cf := some (fileOf pool2 11 #[] #[{ accessFlags := 2, nameIndex := 5, descriptorIndex := 6, attributes := #[] }, { accessFlags := 8, nameIndex := 27, descriptorIndex := 28, attributes := #[] }] 48 2 #[] #[{ accessFlags := 26, nameIndex := 22, descriptorIndex := 23, attributes := #[] }])
  fields := #[{ name := "MAXIMUM_TABLE_LENGTH", type := .int, accessFlags := 26, slot := 0, constantValue := 0 }]
  methods := #[k2m0, k2m1]
  instanceTypes := #[]
  staticTypes := #[.int]
  resolved := Array.replicate 34 none
  statics := none }

def pool3 : Array CpInfo := pool [(1, u "java/lang/Cloneable"), (0, .class_ 1), (0, u "java/lang/Object"), (0, .class_ 3)] 3

/-- java/lang/Cloneable -/
def k3 : Class := { plain "java/lang/Cloneable" (some 0) with
  accessFlags := 1537
  interfaces := #[]
  cf := some (fileOf pool3 2 #[] #[] 1537 4 #[] #[])
  fields := #[]
  methods := #[]
  instanceTypes := #[]
  staticTypes := #[]
  resolved := Array.replicate 8 none
  statics := none }

def pool4 : Array CpInfo := pool [(1, u "java/io/Serializable"), (0, .class_ 1), (0, u "java/lang/Object"), (0, .class_ 3)] 3

/-- java/io/Serializable -/
def k4 : Class := { plain "java/io/Serializable" (some 0) with
  accessFlags := 1537
  interfaces := #[]
  cf := some (fileOf pool4 2 #[] #[] 1537 4 #[] #[])
  fields := #[]
  methods := #[]
  instanceTypes := #[]
  staticTypes := #[]
  resolved := Array.replicate 8 none
  statics := none }

/-- the primitive byte -/
def k5 : Class := { plain "byte" none with kind := .primitive 'B', accessFlags := 0x411 }
/-- [B -/
def k6 : Class := { plain "[B" (some 0) with kind := .array 5 .byte, interfaces := #[3, 4], accessFlags := 1041 }

/-- the primitive int -/
def k7 : Class := { plain "int" none with kind := .primitive 'I', accessFlags := 0x411 }
/-- [I -/
def k8 : Class := { plain "[I" (some 0) with kind := .array 7 .int, interfaces := #[3, 4], accessFlags := 1041 }

def heap : Heap := #[]
def classes : Array Class := #[k0, k1, k2, k3, k4, k5, k6, k7, k8]
def interned : List (Array UInt16 × Addr) := []
def slotsUsed : Nat := 0
def theMethod : MethodId := ⟨1, 3⟩
def args0 : Array Value := #[.long 5]
def aboutOver (below : List Frame) : State where
  vm := { classes := classes, interned := interned.toArray }
  heap := heap
  slotsUsed := slotsUsed
  threads := #[{ frames := .invoking theMethod args0 :: below }]
def below0 : List Frame := [.native { method := ⟨0, 0⟩, args := #[] }]
def about1 : State := aboutOver below0
def p0 : Program := .bare "" "" ""
def e0 : Env := launch0.env 0 0 0
theorem w_frames : about1.frames = Frame.invoking theMethod args0 :: below0 := rfl
set_option maxRecDepth 65536 in
theorem w_args : argsFit about1.vm theMethod args0 = true := by decide +kernel
set_option maxRecDepth 65536 in
theorem w_heap : heapFits about1 = true := by decide +kernel
set_option maxRecDepth 65536 in
theorem w_runnable : about1.curStatus? = some .runnable := by decide +kernel
set_option maxRecDepth 65536 in
theorem w_alone : about1.alone = true := by decide +kernel
set_option maxRecDepth 65536 in
theorem w_named : about1.methodNamed? x = some theMethod := by decide +kernel
set_option maxRecDepth 65536 in
theorem w_hears : about1.hears theMethod below0 = true := by decide +kernel
set_option maxRecDepth 65536 in
theorem w_ripe : about1.ripe theMethod args0 below0 = true := by decide +kernel
theorem w_running : about1.status = .running := rfl
set_option maxRecDepth 65536 in
theorem w_room : about1.hasRoom e0.platform room_1 = true :=
  launch0.hasRoom_least _ room_1 (by decide +kernel) (by decide +kernel) (by decide +kernel) (by decide +kernel) (by decide +kernel) (by decide +kernel)
theorem allAtoms_all (ts : List Jvm.Cond) (a : Array Jvm.Value) (st : Jvm.State) : (allAtoms ts).before a st = ts.all (fun c => c.before a st) := by
  induction ts with
  | nil => rfl
  | cons c t ih =>
    show (Jvm.Cond.and c (allAtoms t)).before a st = _
    rw [Jvm.Cond.before_and, ih, List.all_cons]
def words1 : List Jvm.Cond := Jvm.Cond.code x code maxLocals ret :: tables_1
/-- a 'code' word, met by the world's own term for the bytes: nothing is compared byte by byte -/
theorem code_word {y : MethodName} {bytes : ByteArray} {mx : Nat} {rt : Option FieldType} {a : Array Value} {s : State} {m : MethodId} {meth : Method} {c : Code} (h1 : s.methodNamed? y = some m) (h2 : s.vm.method? m = some meth) (h3 : meth.code = some c) (h4 : c.code = bytes)
    (h5 : (c.maxLocals == mx && c.exceptionTable.isEmpty && decide (c.maxStack ≤ mostOperands) && decide (meth.sig.returnType = rt) && !meth.locks && decide (parseMethodDescriptor y.desc = some meth.sig)) = true) : (Jvm.Cond.code y bytes mx rt).before a s = true := by
  simp only [Bool.and_eq_true, beq_iff_eq, Bool.not_eq_true', decide_eq_true_eq] at h5
  obtain ⟨⟨⟨⟨⟨g1, g2⟩, g3⟩, g4⟩, g5⟩, g6⟩ := h5
  simp [Cond.before, Cond.holds, Cond.value, h1, h2, h3, h4, g1, g2, g3, g4, g5, g6]
def isCode : Jvm.Cond → Bool
  | .code _ _ _ _ => true
  | _ => false
theorem all_split {L : List Jvm.Cond} {P : Jvm.Cond → Bool} (h1 : L.all (fun c => isCode c || P c) = true) (h2 : ∀ c ∈ L.filter isCode, P c = true) : L.all P = true := by
  refine List.all_eq_true.mpr fun c hc => ?_
  have h := List.all_eq_true.mp h1 c hc
  rcases Bool.eq_false_or_eq_true (isCode c) with hi | hi
  · exact h2 c (List.mem_filter.mpr ⟨hc, hi⟩)
  · simpa [hi] using h
set_option maxRecDepth 65536 in
theorem w_c0 : (Jvm.Cond.code x code maxLocals ret).before args0 about1 = true := code_word (m := ⟨1, 3⟩) (meth := k1m3) (c := k1c3) (by decide +kernel) rfl rfl rfl (by decide +kernel)
set_option maxRecDepth 65536 in
theorem w_c1 : (Jvm.Cond.code ({ cls := "com/example/halftally/halftally/Hashing", name := "mix", desc := "(J)J" } : Jvm.MethodName) prog_24_method_2_code (2 : Nat) (Option.some Jvm.ClassFile.FieldType.long)).before args0 about1 = true := code_word (m := ⟨2, 1⟩) (meth := k2m1) (c := k2c1) (by decide +kernel) rfl rfl rfl (by decide +kernel)
set_option maxRecDepth 65536 in
theorem w_c2 : (Jvm.Cond.code ({ cls := "com/example/halftally/halftally/HashingMixPinLaw", name := "unmix", desc := "(J)J" } : Jvm.MethodName) method_3_code (4 : Nat) (Option.some Jvm.ClassFile.FieldType.long)).before args0 about1 = true := code_word (m := ⟨1, 2⟩) (meth := k1m2) (c := k1c2) (by decide +kernel) rfl rfl rfl (by decide +kernel)
set_option maxRecDepth 65536 in
theorem w_c3 : (Jvm.Cond.code ({ cls := "com/example/halftally/halftally/HashingMixPinLaw", name := "inverseOdd", desc := "(J)J" } : Jvm.MethodName) method_2_code (4 : Nat) (Option.some Jvm.ClassFile.FieldType.long)).before args0 about1 = true := code_word (m := ⟨1, 1⟩) (meth := k1m1) (c := k1c1) (by decide +kernel) rfl rfl rfl (by decide +kernel)
def codes1 : List Jvm.Cond := [Jvm.Cond.code x code maxLocals ret, Jvm.Cond.code ({ cls := "com/example/halftally/halftally/Hashing", name := "mix", desc := "(J)J" } : Jvm.MethodName) prog_24_method_2_code (2 : Nat) (Option.some Jvm.ClassFile.FieldType.long), Jvm.Cond.code ({ cls := "com/example/halftally/halftally/HashingMixPinLaw", name := "unmix", desc := "(J)J" } : Jvm.MethodName) method_3_code (4 : Nat) (Option.some Jvm.ClassFile.FieldType.long), Jvm.Cond.code ({ cls := "com/example/halftally/halftally/HashingMixPinLaw", name := "inverseOdd", desc := "(J)J" } : Jvm.MethodName) method_2_code (4 : Nat) (Option.some Jvm.ClassFile.FieldType.long)]
set_option maxRecDepth 65536 in
theorem codes_eq : words1.filter isCode = codes1 := rfl
theorem w_codes : ∀ c ∈ words1.filter isCode, c.before args0 about1 = true := by
  rw [codes_eq]
  intro c hc
  simp only [codes1, List.mem_cons, List.not_mem_nil, or_false] at hc
  rcases hc with rfl | rfl | rfl | rfl
  · exact w_c0
  · exact w_c1
  · exact w_c2
  · exact w_c3
set_option maxRecDepth 65536 in
theorem w_t1 : words1.all (fun c => isCode c || c.before args0 about1) = true := by decide +kernel
theorem w_tables : (allAtoms (Jvm.Cond.code x code maxLocals ret :: tables_1)).before args0 about1 = true := by
  rw [allAtoms_all]
  show words1.all (fun c => c.before args0 about1) = true
  refine all_split ?_ w_codes
  rw [w_t1]
set_option maxRecDepth 65536 in
theorem w_case : (Jvm.Cond.and given_1 narrow_1).before args0 about1 = true := by decide +kernel
theorem w_applies : (headSpec (Jvm.Cond.code x code maxLocals ret :: tables_1) room_1).applies x e0.platform about1 = true :=
  (Spec.applies_iff w_frames).mpr ⟨w_running, w_runnable, w_alone, w_named, w_hears, w_ripe, w_room, w_tables⟩
theorem atStart : AtStart classFile x code maxLocals ret World_1 tables_1 room_1 Calls_1 rest_1 Pre_1 launch0 p0 e0 about1 theMethod args0 below0 :=
  ⟨lists_1, trivial, launch0.admits_env _ _ _, launch0.least_env, fairChoices_fair.cas, fairChoices_fair.clock, w_frames, w_args, w_heap, w_applies, trivial, trivial, w_case⟩
end start1
theorem witness_1 : WitnessClaimed_1 := ⟨start1.p0, start1.e0, start1.about1, start1.theMethod, start1.args0, start1.below0, start1.atStart⟩
end Jvm.Pilot.@@N@@
