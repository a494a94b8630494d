import JvmDerived
import JvmDerived.Pilot.@@N@@Statement
import JvmDerived.Pilot.@@N@@Code
set_option linter.unusedVariables false
set_option linter.unusedSimpArgs false
@@BLOCK:NumsL.lean.txt@@
namespace Jvm.Pilot.@@N@@
open Jvm Jvm.ClassFile Sem Op Lib Jvm.Free Jvm.Stand Jvm.LawKit Jvm.RoadKit Bundle Jvm.Pilot.@@N@@.Jvm.D
section OwnKit
variable {p : Program} {l : Launch} {e : Env} {R : Room} {s : State} {m : MethodId} {args : Array Value} {below : List Frame} {meth : Method} {c : Code} {T : State} {locs : List Loc} {cells slots : Nat}
/-- from the state a the run comes to a state of which P holds -/
def Gen (p : Program) (e : Env) (below : List Frame) (P : State → Prop) (a : State) : Prop := ∃ s₂, Steps p.tables e below a s₂ ∧ P s₂
theorem Gen.on {P : State → Prop} {a b : State} (k : Gen p e below P b) (h : ∀ t, Steps p.tables e below b t → Steps p.tables e below a t) : Gen p e below P a := by
  obtain ⟨s2, h1, h2⟩ := k
  exact ⟨s2, h _ h1, h2⟩
/-- the body has returned, and Q holds of what it returns, leaves and has written -/
def OwnP (below : List Frame) (s : State) (Q : Option Value → Heap → List Loc → Prop) (C S : Nat) (s₂ : State) : Prop := ∃ o, s₂.status = .running ∧ Ended s₂ below o ∧ ∃ v L, o = .returned v ∧ Q v s₂.heap L ∧ FrameEnd s o s₂ L C S
def Own (p : Program) (e : Env) (below : List Frame) (s : State) (Q : Option Value → Heap → List Loc → Prop) (C S : Nat) (a : State) : Prop := Gen p e below (OwnP below s Q C S) a
variable {Q : Option Value → Heap → List Loc → Prop} {C S : Nat}
theorem own_start {a : State} (k : Own p e below s Q C S a) : ∃ s₂ o, Steps p.tables e below a s₂ ∧ s₂.status = .running ∧ Ended s₂ below o ∧ ∃ v L, o = .returned v ∧ Q v s₂.heap L ∧ FrameEnd s o s₂ L C S := by
  obtain ⟨s2, h1, o, h2⟩ := k
  exact ⟨s2, o, h1, h2⟩
/-- the walk stands in a frame F, the heap being H, with what X had written -/
def own_at (X : Stand p l e R s m args below meth c T locs cells slots) (H : Heap) (F : JFrame) (s₂ : State) : Prop := ∃ T', Stand p l e R s m args below meth c T' locs cells slots ∧ T'.heap = H ∧ s₂ = T'.setTop F
theorem own_ret (X : Stand p l e R s m args below meth c T locs cells slots) {g : JFrame} {v : Option Value} (hv : meth.sig.returnType = none → v = none) (hlocks : meth.locks = false) (hc : cells ≤ C) (hs : slots ≤ S) (hq : Q v T.heap locs)
    (st : ∀ fs, (∀ (f : JFrame) (acts : List Action), f.method = m → f.locked = none → f.entered = [] → (doReturn e (T.setTop f) acts v).1 = T.setFrames fs) → Steps p.tables e below (T.setTop g) (T.setFrames fs)) : Own p e below s Q C S (T.setTop g) := by
  obtain ⟨fs, hr, hrun, hended, hW, hsame⟩ := X.leave (v := v) hv hlocks
  exact ⟨_, st fs hr, _, hrun, hended, _, _, rfl, hq, ⟨_, rfl⟩, hW, hsame.mono hc hs⟩
theorem own_retI (X : Stand p l e R s m args below meth c T locs cells slots) (hx : p.tables.exec = Jvm.exec) {pc : Nat} {Ls : Array Slot} {z : Int32} {rest : List Value} (hret : meth.sig.returnType = some .int) (hd : decode c.code pc = .ok (.ireturn, 1)) (hc : cells ≤ C) (hs : slots ≤ S) (hq : Q (some (.int z)) T.heap locs) (hlocks : meth.locks = false := by first | assumption | exact BodyLoose.notSynchronized (by assumption)) : Own p e below s Q C S (T.setTop (mkF m pc Ls (.int z :: rest))) :=
  own_ret X (fun h => by rw [hret] at h; cases h) hlocks hc hs hq fun fs hr => retOut X hx hret rfl (Or.inl ⟨rfl, Or.inl rfl, z, rfl⟩) hd hr
theorem own_retN (X : Stand p l e R s m args below meth c T locs cells slots) (hx : p.tables.exec = Jvm.exec) {pc : Nat} {Ls : Array Slot} {z : Int32} {t : FieldType} {rest : List Value} (hret : meth.sig.returnType = some t) (ht : t = .boolean ∨ t = .byte ∨ t = .char ∨ t = .short) (hz : nar t z = z) (hd : decode c.code pc = .ok (.ireturn, 1)) (hc : cells ≤ C) (hs : slots ≤ S) (hq : Q (some (.int z)) T.heap locs) (hlocks : meth.locks = false := by first | assumption | exact BodyLoose.notSynchronized (by assumption)) : Own p e below s Q C S (T.setTop (mkF m pc Ls (.int z :: rest))) :=
  own_ret X (fun h => by rw [hret] at h; cases h) hlocks hc hs hq fun fs hr => retN X hx hret ht hd (by rw [hz]; exact hr)
theorem own_retJ (X : Stand p l e R s m args below meth c T locs cells slots) (hx : p.tables.exec = Jvm.exec) {pc : Nat} {Ls : Array Slot} {z : Int64} {rest : List Value} (hret : meth.sig.returnType = some .long) (hd : decode c.code pc = .ok (.lreturn, 1)) (hc : cells ≤ C) (hs : slots ≤ S) (hq : Q (some (.long z)) T.heap locs) (hlocks : meth.locks = false := by first | assumption | exact BodyLoose.notSynchronized (by assumption)) : Own p e below s Q C S (T.setTop (mkF m pc Ls (.long z :: rest))) :=
  own_ret X (fun h => by rw [hret] at h; cases h) hlocks hc hs hq fun fs hr => retOut X hx hret rfl (Or.inr (Or.inl ⟨rfl, rfl, z, rfl⟩)) hd hr
theorem own_retA (X : Stand p l e R s m args below meth c T locs cells slots) (hx : p.tables.exec = Jvm.exec) {pc : Nat} {Ls : Array Slot} {w : Value} {t : FieldType} {rest : List Value} (hret : meth.sig.returnType = some t) (ht : t.isReference = true) (hw : w.isRef = true) (hd : decode c.code pc = .ok (.areturn, 1)) (hc : cells ≤ C) (hs : slots ≤ S) (hq : Q (some w) T.heap locs) (hlocks : meth.locks = false := by first | assumption | exact BodyLoose.notSynchronized (by assumption)) : Own p e below s Q C S (T.setTop (mkF m pc Ls (w :: rest))) :=
  own_ret X (fun h => by rw [hret] at h; cases h) hlocks hc hs hq fun fs hr => retOut X hx hret (by cases t <;> cases w <;> simp [FieldType.isReference, Value.isRef] at ht hw <;> rfl) (Or.inr (Or.inr (Or.inr (Or.inr ⟨rfl, ht, hw⟩)))) hd hr
theorem own_ret0 (X : Stand p l e R s m args below meth c T locs cells slots) (hx : p.tables.exec = Jvm.exec) {pc : Nat} {Ls : Array Slot} (hret : meth.sig.returnType = none) (hd : decode c.code pc = .ok (.return_, 1)) (hc : cells ≤ C) (hs : slots ≤ S) (hq : Q none T.heap locs) (hlocks : meth.locks = false := by first | assumption | exact BodyLoose.notSynchronized (by assumption)) : Own p e below s Q C S (T.setTop (mkF m pc Ls [])) :=
  own_ret X (fun _ => rfl) hlocks hc hs hq fun fs hr => X.returnOut hx hret hd hr
theorem own_lt1 {a b : Int64} (h : a < b) : ifCond.holds .lt (lcmpW a b) = true ∧ ifCond.holds .ge (lcmpW a b) = false := by
  have h1 : ¬ a > b := fun q => by rw [gt_iff_lt, Int64.lt_iff_toInt_lt] at q; rw [Int64.lt_iff_toInt_lt] at h; omega
  have h2 : ¬ a = b := fun q => by subst q; exact h1 h
  rw [lcmpW, if_neg h1, if_neg h2]; exact ⟨rfl, rfl⟩
theorem own_lt0 {a b : Int64} (h : ¬ a < b) : ifCond.holds .lt (lcmpW a b) = false ∧ ifCond.holds .ge (lcmpW a b) = true := by
  rw [lcmpW]
  by_cases h1 : a > b
  · rw [if_pos h1]; exact ⟨rfl, rfl⟩
  · have h2 : a = b := by rw [gt_iff_lt, Int64.lt_iff_toInt_lt] at h1; rw [Int64.lt_iff_toInt_lt] at h; exact Int64.toInt_inj.mp (by omega)
    rw [if_neg h1, if_pos h2]; exact ⟨rfl, rfl⟩
theorem own_gt1 {a b : Int64} (h : b < a) : ifCond.holds .gt (lcmpW a b) = true ∧ ifCond.holds .le (lcmpW a b) = false := by
  rw [lcmpW, if_pos h]; exact ⟨rfl, rfl⟩
theorem own_gt0 {a b : Int64} (h : ¬ b < a) : ifCond.holds .gt (lcmpW a b) = false ∧ ifCond.holds .le (lcmpW a b) = true := by
  rw [lcmpW, if_neg h]
  by_cases h1 : a = b
  · rw [if_pos h1]; exact ⟨rfl, rfl⟩
  · rw [if_neg h1]; exact ⟨rfl, rfl⟩
theorem own_eq1 {a b : Int64} (h : a = b) : ifCond.holds .eq (lcmpW a b) = true ∧ ifCond.holds .ne (lcmpW a b) = false := by
  have h1 : ¬ a > b := fun q => by subst h; rw [gt_iff_lt, Int64.lt_iff_toInt_lt] at q; omega
  rw [lcmpW, if_neg h1, if_pos h]; exact ⟨rfl, rfl⟩
theorem own_eq0 {a b : Int64} (h : ¬ a = b) : ifCond.holds .eq (lcmpW a b) = false ∧ ifCond.holds .ne (lcmpW a b) = true := by
  rw [lcmpW]
  by_cases h1 : a > b
  · rw [if_pos h1]; exact ⟨rfl, rfl⟩
  · rw [if_neg h1, if_neg h]; exact ⟨rfl, rfl⟩
theorem own_sta_keep {Z : State} {h h' : Heap} {C n d : String} {w : Value} (F : Sta Z h C n d w) (K : Keep h h' []) : Sta Z h' C n d w := by
  obtain ⟨cf, i, k, f, st, cell, h1, h2, h3, h4, h5, h6⟩ := F
  exact ⟨cf, i, k, f, st, cell, h1, h2, h3, h4, K.2.1 st cell h5 nin0, h6⟩
theorem own_arr_keep {Z : State} {h h' : Heap} {a : Addr} {cl : Cell} {ty : FieldType} {ws : List Addr} (A : Arr Z h a cl ty) (K : Keep h h' ws) (q : a ∉ ws) : Arr Z h' a cl ty := ⟨K.2.1 a cl A.1 q, A.2⟩
end OwnKit


/-- an array of small ints by a function of its places -/
def Afn (Z : State) (h : Heap) (a : Addr) (ty : FieldType) (z : Int32) (y : Int32 → Int32) : Prop := ∃ cl : Cell, Arr Z h a cl ty ∧ cl.slots.size = z.toNatClampNeg ∧ ¬ z < 0 ∧ ∀ j : Int32, ¬ (j < 0 ∨ cl.slots.size ≤ j.toNatClampNeg) → cl.slots[j.toNatClampNeg]? = some (.int (y j))
def own_upd (y : Int32 → Int32) (i x : Int32) : Int32 → Int32 := fun j => if j = i then x else y j
section AfnKit
variable {Z : State} {h h' : Heap} {a b : Addr} {ty : FieldType} {z : Int32} {y y' : Int32 → Int32} {sl : Nat} {v : Value} {ws : List Addr}
theorem Afn.lt (F : Afn Z h a ty z y) : a < h.size := by obtain ⟨c, A, -⟩ := F; exact A.lt
theorem Afn.nn (F : Afn Z h a ty z y) : ¬ z < 0 := by obtain ⟨c, -, -, q, -⟩ := F; exact q
theorem Afn.ext (F : Afn Z h a ty z y) (E : Ext h h') : Afn Z h' a ty z y := by obtain ⟨c, A, r⟩ := F; exact ⟨c, A.ext E, r⟩
theorem Afn.other (F : Afn Z h b ty z y) (W : Wr h h' a sl v) (q : b ≠ a) : Afn Z h' b ty z y := by obtain ⟨c, A, r⟩ := F; exact ⟨c, A.other W q, r⟩
theorem Afn.keep (F : Afn Z h a ty z y) (K : Keep h h' ws) (q : a ∉ ws) : Afn Z h' a ty z y := by obtain ⟨c, A, r⟩ := F; exact ⟨c, ⟨K.2.1 a c A.1 q, A.2⟩, r⟩
theorem own_inr {j : Int32} {n : Nat} (S : n = z.toNatClampNeg) (M : ¬ z < 0) (q : ¬ (j < 0 ∨ n ≤ j.toNatClampNeg)) : ¬ j < 0 ∧ j < z := by
  have h1 : ¬ j < 0 := fun x => q (Or.inl x)
  have h2 : ¬ n ≤ j.toNatClampNeg := fun x => q (Or.inr x)
  refine ⟨h1, ?_⟩
  rw [Int32.lt_iff_toInt_lt] at *
  have e0 : (0 : Int32).toInt = 0 := by decide +kernel
  unfold Int32.toNatClampNeg at *
  omega
theorem Afn.congr (F : Afn Z h a ty z y) (q : ∀ j, ¬ j < 0 → j < z → y j = y' j) : Afn Z h a ty z y' := by
  obtain ⟨c, A, S, M, H⟩ := F
  exact ⟨c, A, S, M, fun j hj => by rw [H j hj, q j (own_inr S M hj).1 (own_inr S M hj).2]⟩
theorem Afn.new {k : ClassId} (A : Arr Z h a (newA k ty z) ty) (q : ¬ z < 0) (hd : defaultValue ty = .int 0) : Afn Z h a ty z (fun _ => 0) := ⟨_, A, sz_new _ _ _, q, fun j hj => by
  rw [sz_new] at hj; rw [get_new hj, hd]⟩
theorem Afn.put {cl : Cell} {i x : Int32} (A : Arr Z h a cl ty) (S : cl.slots.size = z.toNatClampNeg) (M : ¬ z < 0) (H : ∀ j : Int32, ¬ (j < 0 ∨ cl.slots.size ≤ j.toNatClampNeg) → cl.slots[j.toNatClampNeg]? = some (.int (y j))) (W : Wr h h' a i.toNatClampNeg (.int x)) (hi : ¬ i < 0) : Afn Z h' a ty z (own_upd y i x) := by
  refine ⟨_, Arr.same W A, by simp [Cell.setSlot, S], M, fun j hj => ?_⟩
  have hj' : ¬ (j < 0 ∨ cl.slots.size ≤ j.toNatClampNeg) := by simpa [Cell.setSlot] using hj
  unfold own_upd
  by_cases e : j = i
  · subst e
    rw [if_pos rfl]
    have : j.toNatClampNeg < cl.slots.size := Nat.lt_of_not_le fun q => hj' (Or.inr q)
    simp [Cell.setSlot, this]
  · rw [if_neg e]
    have ne : i.toNatClampNeg ≠ j.toNatClampNeg := fun q => e (by
      have h1 : ¬ j < 0 := fun x => hj' (Or.inl x)
      rw [Int32.lt_iff_toInt_lt] at h1 hi
      have e0 : (0 : Int32).toInt = 0 := by decide +kernel
      unfold Int32.toNatClampNeg at q
      exact Int32.toInt_inj.mp (by omega))
    show (cl.slots.setIfInBounds i.toNatClampNeg (.int x))[j.toNatClampNeg]? = _
    rw [Array.getElem?_setIfInBounds_ne ne]
    exact H j hj'
end AfnKit
/-- the statics that the String code reads -/
def Sts (Z : State) (w0 : Int32) (f0 : Value) : Prop := Sta Z Z.heap "java/lang/String" "COMPACT_STRINGS" "Z" (.int w0) ∧ ¬ w0 = (0 : Int32) ∧ Sta Z Z.heap "jdk/internal/util/Preconditions" "SIOOBE_FORMATTER" "Ljava/util/function/BiFunction;" f0 ∧ f0.isRef = true ∧ Sta Z Z.heap "java/lang/StringUTF16" "$assertionsDisabled" "Z" (.int (1 : Int32)) ∧ Sta Z Z.heap "java/lang/StringUTF16" "HI_BYTE_SHIFT" "I" (.int (0 : Int32)) ∧ Sta Z Z.heap "java/lang/StringUTF16" "LO_BYTE_SHIFT" "I" (.int (8 : Int32))
abbrev own_i2c (x : Int32) : Int32 := x.toUInt32.toUInt16.toUInt32.toInt32
/-- a char as a byte, and back -/
def own_b (c : Int32) : Int32 := nar .byte c.toInt8.toInt32
def own_lc (b : Int32) : Int32 := own_i2c (b &&& (255 : Int32))
def own_lo (c : Int32) : Int32 := nar .byte (c >>> ((0 : Int32) &&& 31)).toInt8.toInt32
def own_hi (c : Int32) : Int32 := nar .byte (c >>> ((8 : Int32) &&& 31)).toInt8.toInt32
def own_gc (a b : Int32) : Int32 := own_i2c (((a &&& (255 : Int32)) <<< ((0 : Int32) &&& 31)) ||| ((b &&& (255 : Int32)) <<< ((8 : Int32) &&& 31)))
theorem own_nar_i2c (x : Int32) : nar .char (own_i2c x) = own_i2c x := by
  show own_i2c (own_i2c x) = own_i2c x
  have q : ∀ a : UInt32, a % 65536 % 65536 = a % 65536 := fun a => by apply UInt32.toNat_inj.mp; simp [UInt32.toNat_mod]
  simp [own_i2c, q]

theorem d1_0 : decode method_2_code 0 = .ok (.iload_n 0, 1) := by decide +kernel
theorem d1_1 : decode method_2_code 1 = .ok (.istore_n 1, 1) := by decide +kernel
theorem d1_2 : decode method_2_code 2 = .ok (.iload_n 1, 1) := by decide +kernel
theorem d1_3 : decode method_2_code 3 = .ok (.bipush 48, 2) := by decide +kernel
theorem d1_5 : decode method_2_code 5 = .ok (.if_icmp .lt 9, 3) := by decide +kernel
theorem d1_8 : decode method_2_code 8 = .ok (.iload_n 1, 1) := by decide +kernel
theorem d1_9 : decode method_2_code 9 = .ok (.bipush 58, 2) := by decide +kernel
theorem d1_11 : decode method_2_code 11 = .ok (.if_icmp .lt 15, 3) := by decide +kernel
theorem d1_14 : decode method_2_code 14 = .ok (.iload_n 1, 1) := by decide +kernel
theorem d1_15 : decode method_2_code 15 = .ok (.bipush 97, 2) := by decide +kernel
theorem d1_17 : decode method_2_code 17 = .ok (.if_icmp .lt 13, 3) := by decide +kernel
theorem d1_20 : decode method_2_code 20 = .ok (.iload_n 1, 1) := by decide +kernel
theorem d1_21 : decode method_2_code 21 = .ok (.bipush 103, 2) := by decide +kernel
theorem d1_23 : decode method_2_code 23 = .ok (.if_icmp .ge 7, 3) := by decide +kernel
theorem d1_26 : decode method_2_code 26 = .ok (.iconst 1, 1) := by decide +kernel
theorem d1_27 : decode method_2_code 27 = .ok (.goto 4, 3) := by decide +kernel
theorem d1_30 : decode method_2_code 30 = .ok (.iconst 0, 1) := by decide +kernel
theorem d1_31 : decode method_2_code 31 = .ok (.ireturn, 1) := by decide +kernel
theorem pn_1 : plainName "com/example/bandwarden/bandwarden/protocol/Sha1IsHexPinLaw" = true := by first | (simp [plainName, overriddenIn]; done) | decide +kernel
theorem ef_1 (m : MethodId) (x0 : Int32) : entryFrame m #[(.int x0)] 2 = mkF m 0 #[.val (.int x0), .unset] [] := by first | (simp [entryFrame, mkF, argsToLocals, Value.category]; done) | rfl
def f1 (p1 : Int32) : Int32 := (if p1 < (48 : Int32) then (if p1 < (97 : Int32) then (0 : Int32) else (if p1 < (103 : Int32) then (1 : Int32) else (0 : Int32))) else (if p1 < (58 : Int32) then (1 : Int32) else (if p1 < (97 : Int32) then (0 : Int32) else (if p1 < (103 : Int32) then (1 : Int32) else (0 : Int32)))))
def Q1 (p1 : Int32) (h0 : Heap) (n0 : Nat) (v : Option Value) (h : Heap) (L : List Loc) : Prop := v = some (.int (f1 p1)) ∧ Fr n0 L ∧ h = h0
set_option maxRecDepth 65536 in
set_option maxHeartbeats 40000000 in
theorem rm1 (l : Launch) (Z : State) (a0 : Array Value) (hw : ∀ d ∈ tables_1, d.before a0 Z = true) (wds : List Jvm.Cond) (p1 : Int32) (h0 : Heap) (n0 : Nat) (Z0 : n0 ≤ h0.size)  :
    MetFree l (⟨"com/example/bandwarden/bandwarden/protocol/Sha1IsHexPinLaw", "ok", "(C)Z"⟩ : MethodName) (head1 (Jvm.Cond.code (⟨"com/example/bandwarden/bandwarden/protocol/Sha1IsHexPinLaw", "ok", "(C)Z"⟩ : MethodName) method_2_code 2 (some .boolean) :: wds) ({ frames := 0, cells := 0, slots := 0, locals := 0 } : Room)) (fun a U => a = #[(.int p1)] ∧ Z.Warmed39 U.vm ∧ U.heap = h0) (fun _ _ _ _ _ => True) (fun _ U o U' => ∃ v L, o = .returned v ∧ Q1 p1 h0 n0 v U'.heap L ∧ FrameEnd U o U' L ({ frames := 0, cells := 0, slots := 0, locals := 0 } : Room).cells ({ frames := 0, cells := 0, slots := 0, locals := 0 } : Room).slots) := by
  refine MetFree.of_bodySF (plainFor_of_name pn_1) hisR ?_
  intro p e s m args below meth c s₁ Bd hml0 hP hK
  obtain ⟨rfl, hZ, hh⟩ := hP
  have hx := Bd.exec
  have hby := Bd.bytes
  have hml : c.maxLocals = 2 := hml0
  have hown : s.vm.findClass "com/example/bandwarden/bandwarden/protocol/Sha1IsHexPinLaw" = some m.cls := findClass_of_methodNamed Bd.named
  have hnm := (name_of_methodNamed Bd.named Bd.method).1
  have X0 : Stand p l e ({ frames := 0, cells := 0, slots := 0, locals := 0 } : Room) s m #[(.int p1)] below meth c s₁ [] 0 0 := Stand.of_body Bd
  have e0 : s₁.heap = h0 := by rw [← hh, Bd.state]; rfl
  have N0 := Fr.nil n0
  refine own_start (Q := Q1 p1 h0 n0) (C := ({ frames := 0, cells := 0, slots := 0, locals := 0 } : Room).cells) (S := ({ frames := 0, cells := 0, slots := 0, locals := 0 } : Room).slots) ?_
  rw [ef_1 m p1]
  have hq : ∀ v hh L, v = some (.int (f1 p1)) → Fr n0 L → hh = h0 → Q1 p1 h0 n0 v hh L := fun v hh L q1 q2 q3 => ⟨q1, q2, q3⟩
  refine Gen.on (b := s₁.setTop (mkF m 1 #[.val (.int p1), .unset] [(.int p1)])) ?_ (fun t k => XS.iloadN X0.here hx rfl (hb hby d1_0) rfl k)
  refine Gen.on (b := s₁.setTop (mkF m 2 #[.val (.int p1), .val (.int p1)] [])) ?_ (fun t k => XS.istoreN X0.here hx rfl (hb hby d1_1) rfl (l' := #[.val (.int p1), .val (.int p1)]) rfl k)
  refine Gen.on (b := s₁.setTop (mkF m 3 #[.val (.int p1), .val (.int p1)] [(.int p1)])) ?_ (fun t k => XS.iloadN X0.here hx rfl (hb hby d1_2) rfl k)
  refine Gen.on (b := s₁.setTop (mkF m 5 #[.val (.int p1), .val (.int p1)] [(.int (48 : Int32)), (.int p1)])) ?_ (fun t k => XS.bipush X0.here hx rfl (hb hby d1_3) k)
  by_cases c5_1 : p1 < (48 : Int32)
  · refine Gen.on (b := s₁.setTop (mkF m 14 #[.val (.int p1), .val (.int p1)] [])) ?_ (fun t k => XS.icmpYes X0.here hx rfl (pc0 := 5) (pc' := 14) rfl (hb hby d1_5) rfl (tlt c5_1).1 (by decide) (by decide) k)
    refine Gen.on (b := s₁.setTop (mkF m 15 #[.val (.int p1), .val (.int p1)] [(.int p1)])) ?_ (fun t k => XS.iloadN X0.here hx rfl (hb hby d1_14) rfl k)
    refine Gen.on (b := s₁.setTop (mkF m 17 #[.val (.int p1), .val (.int p1)] [(.int (97 : Int32)), (.int p1)])) ?_ (fun t k => XS.bipush X0.here hx rfl (hb hby d1_15) k)
    by_cases c17_2 : p1 < (97 : Int32)
    · refine Gen.on (b := s₁.setTop (mkF m 30 #[.val (.int p1), .val (.int p1)] [])) ?_ (fun t k => XS.icmpYes X0.here hx rfl (pc0 := 17) (pc' := 30) rfl (hb hby d1_17) rfl (tlt c17_2).1 (by decide) (by decide) k)
      refine Gen.on (b := s₁.setTop (mkF m 31 #[.val (.int p1), .val (.int p1)] [(.int (0 : Int32))])) ?_ (fun t k => XS.iconst X0.here hx rfl (hb hby d1_30) k)
      refine own_retN (t := .boolean) X0 hx Bd.returns (by simp) (by decide) (hb hby d1_31) (by decide) (by decide) ?_
      exact hq _ _ _ (by simp only [f1, if_pos c5_1, if_pos c17_2]) N0 e0
    · refine Gen.on (b := s₁.setTop (mkF m 20 #[.val (.int p1), .val (.int p1)] [])) ?_ (fun t k => XS.icmpNo X0.here hx rfl (hb hby d1_17) rfl (flt c17_2).1 k)
      refine Gen.on (b := s₁.setTop (mkF m 21 #[.val (.int p1), .val (.int p1)] [(.int p1)])) ?_ (fun t k => XS.iloadN X0.here hx rfl (hb hby d1_20) rfl k)
      refine Gen.on (b := s₁.setTop (mkF m 23 #[.val (.int p1), .val (.int p1)] [(.int (103 : Int32)), (.int p1)])) ?_ (fun t k => XS.bipush X0.here hx rfl (hb hby d1_21) k)
      by_cases c23_3 : p1 < (103 : Int32)
      · refine Gen.on (b := s₁.setTop (mkF m 26 #[.val (.int p1), .val (.int p1)] [])) ?_ (fun t k => XS.icmpNo X0.here hx rfl (hb hby d1_23) rfl (tlt c23_3).2.1 k)
        refine Gen.on (b := s₁.setTop (mkF m 27 #[.val (.int p1), .val (.int p1)] [(.int (1 : Int32))])) ?_ (fun t k => XS.iconst X0.here hx rfl (hb hby d1_26) k)
        refine Gen.on (b := s₁.setTop (mkF m 31 #[.val (.int p1), .val (.int p1)] [(.int (1 : Int32))])) ?_ (fun t k => XS.goto X0.here hx rfl (pc0 := 27) (pc' := 31) rfl (hb hby d1_27) (by decide) (by decide) k)
        refine own_retN (t := .boolean) X0 hx Bd.returns (by simp) (by decide) (hb hby d1_31) (by decide) (by decide) ?_
        exact hq _ _ _ (by simp only [f1, if_pos c5_1, if_neg c17_2, if_pos c23_3]) N0 e0
      · refine Gen.on (b := s₁.setTop (mkF m 30 #[.val (.int p1), .val (.int p1)] [])) ?_ (fun t k => XS.icmpYes X0.here hx rfl (pc0 := 23) (pc' := 30) rfl (hb hby d1_23) rfl (flt c23_3).2.1 (by decide) (by decide) k)
        refine Gen.on (b := s₁.setTop (mkF m 31 #[.val (.int p1), .val (.int p1)] [(.int (0 : Int32))])) ?_ (fun t k => XS.iconst X0.here hx rfl (hb hby d1_30) k)
        refine own_retN (t := .boolean) X0 hx Bd.returns (by simp) (by decide) (hb hby d1_31) (by decide) (by decide) ?_
        exact hq _ _ _ (by simp only [f1, if_pos c5_1, if_neg c17_2, if_neg c23_3]) N0 e0
  · refine Gen.on (b := s₁.setTop (mkF m 8 #[.val (.int p1), .val (.int p1)] [])) ?_ (fun t k => XS.icmpNo X0.here hx rfl (hb hby d1_5) rfl (flt c5_1).1 k)
    refine Gen.on (b := s₁.setTop (mkF m 9 #[.val (.int p1), .val (.int p1)] [(.int p1)])) ?_ (fun t k => XS.iloadN X0.here hx rfl (hb hby d1_8) rfl k)
    refine Gen.on (b := s₁.setTop (mkF m 11 #[.val (.int p1), .val (.int p1)] [(.int (58 : Int32)), (.int p1)])) ?_ (fun t k => XS.bipush X0.here hx rfl (hb hby d1_9) k)
    by_cases c11_4 : p1 < (58 : Int32)
    · refine Gen.on (b := s₁.setTop (mkF m 26 #[.val (.int p1), .val (.int p1)] [])) ?_ (fun t k => XS.icmpYes X0.here hx rfl (pc0 := 11) (pc' := 26) rfl (hb hby d1_11) rfl (tlt c11_4).1 (by decide) (by decide) k)
      refine Gen.on (b := s₁.setTop (mkF m 27 #[.val (.int p1), .val (.int p1)] [(.int (1 : Int32))])) ?_ (fun t k => XS.iconst X0.here hx rfl (hb hby d1_26) k)
      refine Gen.on (b := s₁.setTop (mkF m 31 #[.val (.int p1), .val (.int p1)] [(.int (1 : Int32))])) ?_ (fun t k => XS.goto X0.here hx rfl (pc0 := 27) (pc' := 31) rfl (hb hby d1_27) (by decide) (by decide) k)
      refine own_retN (t := .boolean) X0 hx Bd.returns (by simp) (by decide) (hb hby d1_31) (by decide) (by decide) ?_
      exact hq _ _ _ (by simp only [f1, if_neg c5_1, if_pos c11_4]) N0 e0
    · refine Gen.on (b := s₁.setTop (mkF m 14 #[.val (.int p1), .val (.int p1)] [])) ?_ (fun t k => XS.icmpNo X0.here hx rfl (hb hby d1_11) rfl (flt c11_4).1 k)
      refine Gen.on (b := s₁.setTop (mkF m 15 #[.val (.int p1), .val (.int p1)] [(.int p1)])) ?_ (fun t k => XS.iloadN X0.here hx rfl (hb hby d1_14) rfl k)
      refine Gen.on (b := s₁.setTop (mkF m 17 #[.val (.int p1), .val (.int p1)] [(.int (97 : Int32)), (.int p1)])) ?_ (fun t k => XS.bipush X0.here hx rfl (hb hby d1_15) k)
      by_cases c17_5 : p1 < (97 : Int32)
      · refine Gen.on (b := s₁.setTop (mkF m 30 #[.val (.int p1), .val (.int p1)] [])) ?_ (fun t k => XS.icmpYes X0.here hx rfl (pc0 := 17) (pc' := 30) rfl (hb hby d1_17) rfl (tlt c17_5).1 (by decide) (by decide) k)
        refine Gen.on (b := s₁.setTop (mkF m 31 #[.val (.int p1), .val (.int p1)] [(.int (0 : Int32))])) ?_ (fun t k => XS.iconst X0.here hx rfl (hb hby d1_30) k)
        refine own_retN (t := .boolean) X0 hx Bd.returns (by simp) (by decide) (hb hby d1_31) (by decide) (by decide) ?_
        exact hq _ _ _ (by simp only [f1, if_neg c5_1, if_neg c11_4, if_pos c17_5]) N0 e0
      · refine Gen.on (b := s₁.setTop (mkF m 20 #[.val (.int p1), .val (.int p1)] [])) ?_ (fun t k => XS.icmpNo X0.here hx rfl (hb hby d1_17) rfl (flt c17_5).1 k)
        refine Gen.on (b := s₁.setTop (mkF m 21 #[.val (.int p1), .val (.int p1)] [(.int p1)])) ?_ (fun t k => XS.iloadN X0.here hx rfl (hb hby d1_20) rfl k)
        refine Gen.on (b := s₁.setTop (mkF m 23 #[.val (.int p1), .val (.int p1)] [(.int (103 : Int32)), (.int p1)])) ?_ (fun t k => XS.bipush X0.here hx rfl (hb hby d1_21) k)
        by_cases c23_6 : p1 < (103 : Int32)
        · refine Gen.on (b := s₁.setTop (mkF m 26 #[.val (.int p1), .val (.int p1)] [])) ?_ (fun t k => XS.icmpNo X0.here hx rfl (hb hby d1_23) rfl (tlt c23_6).2.1 k)
          refine Gen.on (b := s₁.setTop (mkF m 27 #[.val (.int p1), .val (.int p1)] [(.int (1 : Int32))])) ?_ (fun t k => XS.iconst X0.here hx rfl (hb hby d1_26) k)
          refine Gen.on (b := s₁.setTop (mkF m 31 #[.val (.int p1), .val (.int p1)] [(.int (1 : Int32))])) ?_ (fun t k => XS.goto X0.here hx rfl (pc0 := 27) (pc' := 31) rfl (hb hby d1_27) (by decide) (by decide) k)
          refine own_retN (t := .boolean) X0 hx Bd.returns (by simp) (by decide) (hb hby d1_31) (by decide) (by decide) ?_
          exact hq _ _ _ (by simp only [f1, if_neg c5_1, if_neg c11_4, if_neg c17_5, if_pos c23_6]) N0 e0
        · refine Gen.on (b := s₁.setTop (mkF m 30 #[.val (.int p1), .val (.int p1)] [])) ?_ (fun t k => XS.icmpYes X0.here hx rfl (pc0 := 23) (pc' := 30) rfl (hb hby d1_23) rfl (flt c23_6).2.1 (by decide) (by decide) k)
          refine Gen.on (b := s₁.setTop (mkF m 31 #[.val (.int p1), .val (.int p1)] [(.int (0 : Int32))])) ?_ (fun t k => XS.iconst X0.here hx rfl (hb hby d1_30) k)
          refine own_retN (t := .boolean) X0 hx Bd.returns (by simp) (by decide) (hb hby d1_31) (by decide) (by decide) ?_
          exact hq _ _ _ (by simp only [f1, if_neg c5_1, if_neg c11_4, if_neg c17_5, if_neg c23_6]) N0 e0
theorem d18_0 : decode jdk_52_method_3_code 0 = .ok (.iload_n 0, 1) := by decide +kernel
theorem d18_1 : decode jdk_52_method_3_code 1 = .ok (.ifCond .ge 11, 3) := by decide +kernel
theorem d18_12 : decode jdk_52_method_3_code 12 = .ok (.iload_n 0, 1) := by decide +kernel
theorem d18_13 : decode jdk_52_method_3_code 13 = .ok (.ldc 20, 2) := by decide +kernel
theorem d18_15 : decode jdk_52_method_3_code 15 = .ok (.if_icmp .lt 40, 3) := by decide +kernel
theorem d18_55 : decode jdk_52_method_3_code 55 = .ok (.iload_n 0, 1) := by decide +kernel
theorem d18_56 : decode jdk_52_method_3_code 56 = .ok (.iconst 1, 1) := by decide +kernel
theorem d18_57 : decode jdk_52_method_3_code 57 = .ok (.ishl, 1) := by decide +kernel
theorem d18_58 : decode jdk_52_method_3_code 58 = .ok (.ireturn, 1) := by decide +kernel
theorem pn_18 : plainName "java/lang/StringUTF16" = true := by first | (simp [plainName, overriddenIn]; done) | decide +kernel
theorem ef_18 (m : MethodId) (x0 : Int32) : entryFrame m #[(.int x0)] 1 = mkF m 0 #[.val (.int x0)] [] := by first | (simp [entryFrame, mkF, argsToLocals, Value.category]; done) | rfl
def f18 (p1 : Int32) : Int32 := (p1 <<< ((1 : Int32) &&& 31))
def Q18 (p1 : Int32) (h0 : Heap) (n0 : Nat) (v : Option Value) (h : Heap) (L : List Loc) : Prop := v = some (.int (f18 p1)) ∧ Fr n0 L ∧ h = h0
set_option maxRecDepth 65536 in
set_option maxHeartbeats 40000000 in
theorem rm18 (l : Launch) (Z : State) (a0 : Array Value) (hw : ∀ d ∈ tables_1, d.before a0 Z = true) (wds : List Jvm.Cond) (p1 : Int32) (h0 : Heap) (n0 : Nat) (Z0 : n0 ≤ h0.size) (hc0 : ¬ p1 < (0 : Int32)) (hc1 : p1 < (1073741823 : Int32)) :
    MetFree l (⟨"java/lang/StringUTF16", "newBytesLength", "(I)I"⟩ : MethodName) (head1 (Jvm.Cond.code (⟨"java/lang/StringUTF16", "newBytesLength", "(I)I"⟩ : MethodName) jdk_52_method_3_code 1 (some .int) :: wds) ({ frames := 0, cells := 0, slots := 0, locals := 0 } : Room)) (fun a U => a = #[(.int p1)] ∧ Z.Warmed39 U.vm ∧ U.heap = h0) (fun _ _ _ _ _ => True) (fun _ U o U' => ∃ v L, o = .returned v ∧ Q18 p1 h0 n0 v U'.heap L ∧ FrameEnd U o U' L ({ frames := 0, cells := 0, slots := 0, locals := 0 } : Room).cells ({ frames := 0, cells := 0, slots := 0, locals := 0 } : Room).slots) := by
  refine MetFree.of_bodySF (plainFor_of_name pn_18) hisR ?_
  intro p e s m args below meth c s₁ Bd hml0 hP hK
  obtain ⟨rfl, hZ, hh⟩ := hP
  have hx := Bd.exec
  have hby := Bd.bytes
  have hml : c.maxLocals = 1 := hml0
  have hown : s.vm.findClass "java/lang/StringUTF16" = some m.cls := findClass_of_methodNamed Bd.named
  have hnm := (name_of_methodNamed Bd.named Bd.method).1
  have X0 : Stand p l e ({ frames := 0, cells := 0, slots := 0, locals := 0 } : Room) s m #[(.int p1)] below meth c s₁ [] 0 0 := Stand.of_body Bd
  have e0 : s₁.heap = h0 := by rw [← hh, Bd.state]; rfl
  have N0 := Fr.nil n0
  refine own_start (Q := Q18 p1 h0 n0) (C := ({ frames := 0, cells := 0, slots := 0, locals := 0 } : Room).cells) (S := ({ frames := 0, cells := 0, slots := 0, locals := 0 } : Room).slots) ?_
  rw [ef_18 m p1]
  have hq : ∀ v hh L, v = some (.int (f18 p1)) → Fr n0 L → hh = h0 → Q18 p1 h0 n0 v hh L := fun v hh L q1 q2 q3 => ⟨q1, q2, q3⟩
  refine Gen.on (b := s₁.setTop (mkF m 1 #[.val (.int p1)] [(.int p1)])) ?_ (fun t k => XS.iloadN X0.here hx rfl (hb hby d18_0) rfl k)
  refine Gen.on (b := s₁.setTop (mkF m 12 #[.val (.int p1)] [])) ?_ (fun t k => XS.ifYes X0.here hx rfl (pc0 := 1) (pc' := 12) rfl (hb hby d18_1) rfl ((if0 _ _).trans (flt hc0).2.1) (by decide) (by decide) k)
  refine Gen.on (b := s₁.setTop (mkF m 13 #[.val (.int p1)] [(.int p1)])) ?_ (fun t k => XS.iloadN X0.here hx rfl (hb hby d18_12) rfl k)
  refine Gen.on (b := s₁.setTop (mkF m 15 #[.val (.int p1)] [(.int (1073741823 : Int32)), (.int p1)])) ?_ (fun t k => X0.ldcInt hx hown (mvT hZ (hw _ (List.mem_of_getElem? (i := 80) rfl))) (g := (mkF m 13 #[.val (.int p1)] [(.int p1)])) rfl (hb hby d18_13) t k)
  refine Gen.on (b := s₁.setTop (mkF m 55 #[.val (.int p1)] [])) ?_ (fun t k => XS.icmpYes X0.here hx rfl (pc0 := 15) (pc' := 55) rfl (hb hby d18_15) rfl (tlt hc1).1 (by decide) (by decide) k)
  refine Gen.on (b := s₁.setTop (mkF m 56 #[.val (.int p1)] [(.int p1)])) ?_ (fun t k => XS.iloadN X0.here hx rfl (hb hby d18_55) rfl k)
  refine Gen.on (b := s₁.setTop (mkF m 57 #[.val (.int p1)] [(.int (1 : Int32)), (.int p1)])) ?_ (fun t k => XS.iconst X0.here hx rfl (hb hby d18_56) k)
  refine Gen.on (b := s₁.setTop (mkF m 58 #[.val (.int p1)] [(.int (p1 <<< ((1 : Int32) &&& 31)))])) ?_ (fun t k => XS.ishl X0.here hx rfl (hb hby d18_57) rfl k)
  refine own_retI X0 hx Bd.returns (hb hby d18_58) (by decide) (by decide) ?_
  exact hq _ _ _ (by simp only [f18]) N0 e0

theorem d17_0 : decode jdk_52_method_2_code 0 = .ok (.iload_n 0, 1) := by decide +kernel
theorem d17_1 : decode jdk_52_method_2_code 1 = .ok (.invokestatic 11, 3) := by decide +kernel
theorem d17_4 : decode jdk_52_method_2_code 4 = .ok (.newarray .byte, 2) := by decide +kernel
theorem d17_6 : decode jdk_52_method_2_code 6 = .ok (.areturn, 1) := by decide +kernel
theorem pn_17 : plainName "java/lang/StringUTF16" = true := by first | (simp [plainName, overriddenIn]; done) | decide +kernel
theorem pd_17_0 : parseMethodDescriptor "(I)I" = some ⟨[.int], some .int⟩ := by decide +kernel
theorem ef_17 (m : MethodId) (x0 : Int32) : entryFrame m #[(.int x0)] 1 = mkF m 0 #[.val (.int x0)] [] := by first | (simp [entryFrame, mkF, argsToLocals, Value.category]; done) | rfl
def Q17 (Z : State) (p1 : Int32) (z2 : Int32) (h0 : Heap) (n0 : Nat) (v : Option Value) (h : Heap) (L : List Loc) : Prop := ∃ xr : Addr, v = some (.ref xr) ∧ Fr n0 L ∧ Keep h0 h [] ∧ Afn Z h xr .byte z2 (fun _ => 0) ∧ h0.size ≤ xr
set_option maxRecDepth 65536 in
set_option maxHeartbeats 40000000 in
theorem rm17 (l : Launch) (Z : State) (a0 : Array Value) (hw : ∀ d ∈ tables_1, d.before a0 Z = true) (wds : List Jvm.Cond) (p1 : Int32) (z2 : Int32) (h0 : Heap) (n0 : Nat) (Z0 : n0 ≤ h0.size) (hc0 : ¬ p1 < (0 : Int32)) (hc1 : p1 < (1073741823 : Int32)) (hz : f18 p1 = z2) (hn : ¬ z2 < 0) (hcap : z2.toNatClampNeg ≤ 82) :
    MetFree l (⟨"java/lang/StringUTF16", "newBytesFor", "(I)[B"⟩ : MethodName) (head1 (Jvm.Cond.code (⟨"java/lang/StringUTF16", "newBytesFor", "(I)[B"⟩ : MethodName) jdk_52_method_2_code 1 (some (.array .byte)) :: wds) ({ frames := 1, cells := 1, slots := 82, locals := 12 } : Room)) (fun a U => a = #[(.int p1)] ∧ Z.Warmed39 U.vm ∧ U.heap = h0) (fun _ _ _ _ _ => True) (fun _ U o U' => ∃ v L, o = .returned v ∧ Q17 Z p1 z2 h0 n0 v U'.heap L ∧ FrameEnd U o U' L ({ frames := 1, cells := 1, slots := 82, locals := 12 } : Room).cells ({ frames := 1, cells := 1, slots := 82, locals := 12 } : Room).slots) := by
  refine MetFree.of_bodySF (plainFor_of_name pn_17) hisR ?_
  intro p e s m args below meth c s₁ Bd hml0 hP hK
  obtain ⟨rfl, hZ, hh⟩ := hP
  have hx := Bd.exec
  have hby := Bd.bytes
  have hml : c.maxLocals = 1 := hml0
  have hown : s.vm.findClass "java/lang/StringUTF16" = some m.cls := findClass_of_methodNamed Bd.named
  have hnm := (name_of_methodNamed Bd.named Bd.method).1
  have X0 : Stand p l e ({ frames := 1, cells := 1, slots := 82, locals := 12 } : Room) s m #[(.int p1)] below meth c s₁ [] 0 0 := Stand.of_body Bd
  have e0 : s₁.heap = h0 := by rw [← hh, Bd.state]; rfl
  have N0 := Fr.nil n0
  refine own_start (Q := Q17 Z p1 z2 h0 n0) (C := ({ frames := 1, cells := 1, slots := 82, locals := 12 } : Room).cells) (S := ({ frames := 1, cells := 1, slots := 82, locals := 12 } : Room).slots) ?_
  rw [ef_17 m p1]
  have K0 : Keep h0 h0 [] := Keep.refl h0 []
  refine Gen.on (b := s₁.setTop (mkF m 1 #[.val (.int p1)] [(.int p1)])) ?_ (fun t k => XS.iloadN X0.here hx rfl (hb hby d17_0) rfl k)
  obtain ⟨_, _, ⟨T1, L1, k1, n1⟩, -, X1, ⟨Lc1, hQ1, l1, y1, z1⟩, st1⟩ := Jvm.LawKit.callS X0 hx (y := (⟨"java/lang/StringUTF16", "newBytesLength", "(I)I"⟩ : MethodName)) hown (mvT hZ (hw _ (List.mem_of_getElem? (i := 77) rfl))) (mvT hZ (hw _ (List.mem_of_getElem? (i := 78) rfl))) (mvT hZ (hw _ (List.mem_of_getElem? (i := 22) rfl))) (mvT hZ (hw _ (List.mem_of_getElem? (i := 79) rfl))) (by decide) (backOf (W := 0) (rm18 l Z a0 hw [] p1  h0 n0 Z0 hc0 hc1) hZ (hw _ (List.mem_of_getElem? (i := 79) rfl)) (hw _ (List.mem_of_getElem? (i := 22) rfl)) (by decide) (by decide)) (g := (mkF m 1 #[.val (.int p1)] [(.int p1)])) rfl (by rw [hml]; rfl) (argsL := [(.int p1)]) (rest := []) (lenOf pd_17_0 rfl) rfl (by show 2 * 0 + _ ≤ _; exact Nat.le_of_eq rfl) (hb hby d17_1) (fun _ _ => ⟨rfl, e0, (by decide : 0 + 0 ≤ _), (by decide : 0 + 0 ≤ _)⟩)
  dsimp only [Pt.U, Pt.locs, Pt.cells, Pt.slots] at X1 l1 y1 z1 st1 hQ1
  subst l1 y1 z1
  obtain ⟨rfl, N1q, e1⟩ := hQ1
  have N1 := Fr.app N0 N1q
  refine Gen.on (b := T1.setTop (mkF m 4 #[.val (.int p1)] [(.int (f18 p1))])) ?_ (fun t k => st1 t k)
  rw [hz]
  obtain ⟨b2, g2⟩ : ∃ z, z = h0.size := ⟨_, rfl⟩
  have g_b2 : n0 ≤ b2 := Nat.le_trans Z0 (Nat.le_of_eq g2.symm)
  have sz_b2 : h0.size ≤ b2 := Nat.le_trans K0.1 (Nat.le_of_eq g2.symm)
  obtain ⟨T2, h2, k2, X2, e2, E2, A2, st2⟩ := newP X1 hx hZ (hw _ (List.mem_of_getElem? (i := 24) rfl)) e1 (g := (mkF m 4 #[.val (.int p1)] [(.int z2)])) rfl (hb hby d17_4) rfl hn (cap := 82) hcap (by decide) (by decide) (by decide)
  rw [← g2] at A2 st2
  have Z2 : n0 ≤ h2.size := Nat.le_trans Z0 E2.1
  have K2 : Keep h0 h2 [] := K0.ext E2
  have V2 : Afn Z h2 b2 .byte z2 (fun _ => 0) := Afn.new A2 hn rfl
  refine Gen.on (b := T2.setTop (mkF m 6 #[.val (.int p1)] [(.ref b2)])) ?_ (fun t k => st2 t k)
  refine own_retA X2 hx Bd.returns rfl rfl (hb hby d17_6) (by decide) (by decide) ?_
  show Q17 Z p1 z2 h0 n0 _ T2.heap _
  rw [e2]
  exact ⟨_, rfl, N1, K2, V2, sz_b2⟩

theorem d23_0 : decode jdk_52_method_6_code 0 = .ok (.aload_n 0, 1) := by decide +kernel
theorem d23_1 : decode jdk_52_method_6_code 1 = .ok (.arraylength, 1) := by decide +kernel
theorem d23_2 : decode jdk_52_method_6_code 2 = .ok (.iconst 1, 1) := by decide +kernel
theorem d23_3 : decode jdk_52_method_6_code 3 = .ok (.ishr, 1) := by decide +kernel
theorem d23_4 : decode jdk_52_method_6_code 4 = .ok (.ireturn, 1) := by decide +kernel
theorem pn_23 : plainName "java/lang/StringUTF16" = true := by first | (simp [plainName, overriddenIn]; done) | decide +kernel
theorem ef_23 (m : MethodId) (x0 : Addr) : entryFrame m #[(.ref x0)] 1 = mkF m 0 #[.val (.ref x0)] [] := by first | (simp [entryFrame, mkF, argsToLocals, Value.category]; done) | rfl
def Q23 (Z : State) (a1 : Addr) (zb : Int32) (yb : Int32 → Int32) (h0 : Heap) (n0 : Nat) (v : Option Value) (h : Heap) (L : List Loc) : Prop := v = some (.int (zb >>> ((1 : Int32) &&& 31))) ∧ Fr n0 L ∧ h = h0
set_option maxRecDepth 65536 in
set_option maxHeartbeats 40000000 in
theorem rm23 (l : Launch) (Z : State) (a0 : Array Value) (hw : ∀ d ∈ tables_1, d.before a0 Z = true) (wds : List Jvm.Cond) (a1 : Addr) (zb : Int32) (yb : Int32 → Int32) (h0 : Heap) (n0 : Nat) (Z0 : n0 ≤ h0.size) (P0 : Afn Z h0 a1 .byte zb yb) :
    MetFree l (⟨"java/lang/StringUTF16", "length", "([B)I"⟩ : MethodName) (head1 (Jvm.Cond.code (⟨"java/lang/StringUTF16", "length", "([B)I"⟩ : MethodName) jdk_52_method_6_code 1 (some .int) :: wds) ({ frames := 0, cells := 0, slots := 0, locals := 0 } : Room)) (fun a U => a = #[(.ref a1)] ∧ Z.Warmed39 U.vm ∧ U.heap = h0) (fun _ _ _ _ _ => True) (fun _ U o U' => ∃ v L, o = .returned v ∧ Q23 Z a1 zb yb h0 n0 v U'.heap L ∧ FrameEnd U o U' L ({ frames := 0, cells := 0, slots := 0, locals := 0 } : Room).cells ({ frames := 0, cells := 0, slots := 0, locals := 0 } : Room).slots) := by
  refine MetFree.of_bodySF (plainFor_of_name pn_23) hisR ?_
  intro p e s m args below meth c s₁ Bd hml0 hP hK
  obtain ⟨rfl, hZ, hh⟩ := hP
  have hx := Bd.exec
  have hby := Bd.bytes
  have hml : c.maxLocals = 1 := hml0
  have hown : s.vm.findClass "java/lang/StringUTF16" = some m.cls := findClass_of_methodNamed Bd.named
  have hnm := (name_of_methodNamed Bd.named Bd.method).1
  have X0 : Stand p l e ({ frames := 0, cells := 0, slots := 0, locals := 0 } : Room) s m #[(.ref a1)] below meth c s₁ [] 0 0 := Stand.of_body Bd
  have e0 : s₁.heap = h0 := by rw [← hh, Bd.state]; rfl
  have N0 := Fr.nil n0
  refine own_start (Q := Q23 Z a1 zb yb h0 n0) (C := ({ frames := 0, cells := 0, slots := 0, locals := 0 } : Room).cells) (S := ({ frames := 0, cells := 0, slots := 0, locals := 0 } : Room).slots) ?_
  rw [ef_23 m a1]
  refine Gen.on (b := s₁.setTop (mkF m 1 #[.val (.ref a1)] [(.ref a1)])) ?_ (fun t k => XS.aloadN X0.here hx rfl (hb hby d23_0) rfl rfl k)
  obtain ⟨cl1, Ar1, SA1, NA1, HA1⟩ := id P0
  refine Gen.on (b := s₁.setTop (mkF m 2 #[.val (.ref a1)] [(.int zb)])) ?_ (fun t k => X0.arraylength hx (by rw [e0]; exact Ar1.1) (State.isArrayOf_alike hZ.alike Ar1.2.1) (g := (mkF m 1 #[.val (.ref a1)] [(.ref a1)])) rfl rfl (hb hby d23_1) t (by rw [len_of SA1 NA1]; exact k))
  refine Gen.on (b := s₁.setTop (mkF m 3 #[.val (.ref a1)] [(.int (1 : Int32)), (.int zb)])) ?_ (fun t k => XS.iconst X0.here hx rfl (hb hby d23_2) k)
  refine Gen.on (b := s₁.setTop (mkF m 4 #[.val (.ref a1)] [(.int (zb >>> ((1 : Int32) &&& 31)))])) ?_ (fun t k => XS.ishr X0.here hx rfl (hb hby d23_3) rfl k)
  refine own_retI X0 hx Bd.returns (hb hby d23_4) (by decide) (by decide) ?_
  exact ⟨rfl, N0, e0⟩

theorem d19_0 : decode jdk_52_method_4_code 0 = .ok (.getstatic 44, 3) := by decide +kernel
theorem d19_3 : decode jdk_52_method_4_code 3 = .ok (.ifCond .ne 25, 3) := by decide +kernel
theorem d19_28 : decode jdk_52_method_4_code 28 = .ok (.iload_n 1, 1) := by decide +kernel
theorem d19_29 : decode jdk_52_method_4_code 29 = .ok (.iconst 1, 1) := by decide +kernel
theorem d19_30 : decode jdk_52_method_4_code 30 = .ok (.ishl, 1) := by decide +kernel
theorem d19_31 : decode jdk_52_method_4_code 31 = .ok (.istore_n 1, 1) := by decide +kernel
theorem d19_32 : decode jdk_52_method_4_code 32 = .ok (.aload_n 0, 1) := by decide +kernel
theorem d19_33 : decode jdk_52_method_4_code 33 = .ok (.iload_n 1, 1) := by decide +kernel
theorem d19_34 : decode jdk_52_method_4_code 34 = .ok (.iinc 1 1, 3) := by decide +kernel
theorem d19_37 : decode jdk_52_method_4_code 37 = .ok (.iload_n 2, 1) := by decide +kernel
theorem d19_38 : decode jdk_52_method_4_code 38 = .ok (.getstatic 59, 3) := by decide +kernel
theorem d19_41 : decode jdk_52_method_4_code 41 = .ok (.ishr, 1) := by decide +kernel
theorem d19_42 : decode jdk_52_method_4_code 42 = .ok (.i2b, 1) := by decide +kernel
theorem d19_43 : decode jdk_52_method_4_code 43 = .ok (.bastore, 1) := by decide +kernel
theorem d19_44 : decode jdk_52_method_4_code 44 = .ok (.aload_n 0, 1) := by decide +kernel
theorem d19_45 : decode jdk_52_method_4_code 45 = .ok (.iload_n 1, 1) := by decide +kernel
theorem d19_46 : decode jdk_52_method_4_code 46 = .ok (.iload_n 2, 1) := by decide +kernel
theorem d19_47 : decode jdk_52_method_4_code 47 = .ok (.getstatic 63, 3) := by decide +kernel
theorem d19_50 : decode jdk_52_method_4_code 50 = .ok (.ishr, 1) := by decide +kernel
theorem d19_51 : decode jdk_52_method_4_code 51 = .ok (.i2b, 1) := by decide +kernel
theorem d19_52 : decode jdk_52_method_4_code 52 = .ok (.bastore, 1) := by decide +kernel
theorem d19_53 : decode jdk_52_method_4_code 53 = .ok (.return_, 1) := by decide +kernel
theorem pn_19 : plainName "java/lang/StringUTF16" = true := by first | (simp [plainName, overriddenIn]; done) | decide +kernel
theorem ef_19 (m : MethodId) (x0 : Addr) (x1 : Int32) (x2 : Int32) : entryFrame m #[(.ref x0), (.int x1), (.int x2)] 3 = mkF m 0 #[.val (.ref x0), .val (.int x1), .val (.int x2)] [] := by first | (simp [entryFrame, mkF, argsToLocals, Value.category]; done) | rfl
def Q19 (Z : State) (a1 : Addr) (p2 : Int32) (p3 : Int32) (zb : Int32) (yb : Int32 → Int32) (i2 : Int32) (w0 : Int32) (f0 : Value) (h0 : Heap) (n0 : Nat) (v : Option Value) (h : Heap) (L : List Loc) : Prop := v = none ∧ Fr n0 L ∧ Keep h0 h [a1] ∧ Afn Z h a1 .byte zb (own_upd (own_upd yb i2 (own_lo p3)) (i2 + (1 : Int32)) (own_hi p3))
set_option maxRecDepth 65536 in
set_option maxHeartbeats 40000000 in
theorem rm19 (l : Launch) (Z : State) (a0 : Array Value) (hw : ∀ d ∈ tables_1, d.before a0 Z = true) (wds : List Jvm.Cond) (a1 : Addr) (p2 : Int32) (p3 : Int32) (zb : Int32) (yb : Int32 → Int32) (i2 : Int32) (w0 : Int32) (f0 : Value) (h0 : Heap) (n0 : Nat) (Z0 : n0 ≤ h0.size) (P0 : Afn Z h0 a1 .byte zb yb) (P1 : Old Z n0 h0) (g_a1 : n0 ≤ a1) (sts : Sts Z w0 f0) (hi2 : (p2 <<< ((1 : Int32) &&& 31)) = i2) (hn0 : ¬ i2 < 0) (hlt : i2 < zb) (hn1 : ¬ (i2 + (1 : Int32)) < 0) (hlt1 : (i2 + (1 : Int32)) < zb) :
    MetFree l (⟨"java/lang/StringUTF16", "putChar", "([BII)V"⟩ : MethodName) (head1 (Jvm.Cond.code (⟨"java/lang/StringUTF16", "putChar", "([BII)V"⟩ : MethodName) jdk_52_method_4_code 3 none :: wds) ({ frames := 0, cells := 0, slots := 0, locals := 0 } : Room)) (fun a U => a = #[(.ref a1), (.int p2), (.int p3)] ∧ Z.Warmed39 U.vm ∧ U.heap = h0) (fun _ _ _ _ _ => True) (fun _ U o U' => ∃ v L, o = .returned v ∧ Q19 Z a1 p2 p3 zb yb i2 w0 f0 h0 n0 v U'.heap L ∧ FrameEnd U o U' L ({ frames := 0, cells := 0, slots := 0, locals := 0 } : Room).cells ({ frames := 0, cells := 0, slots := 0, locals := 0 } : Room).slots) := by
  refine MetFree.of_bodySF (plainFor_of_name pn_19) hisR ?_
  intro p e s m args below meth c s₁ Bd hml0 hP hK
  obtain ⟨rfl, hZ, hh⟩ := hP
  have hx := Bd.exec
  have hby := Bd.bytes
  have hml : c.maxLocals = 3 := hml0
  have hown : s.vm.findClass "java/lang/StringUTF16" = some m.cls := findClass_of_methodNamed Bd.named
  have hnm := (name_of_methodNamed Bd.named Bd.method).1
  have X0 : Stand p l e ({ frames := 0, cells := 0, slots := 0, locals := 0 } : Room) s m #[(.ref a1), (.int p2), (.int p3)] below meth c s₁ [] 0 0 := Stand.of_body Bd
  have e0 : s₁.heap = h0 := by rw [← hh, Bd.state]; rfl
  have N0 := Fr.nil n0
  refine own_start (Q := Q19 Z a1 p2 p3 zb yb i2 w0 f0 h0 n0) (C := ({ frames := 0, cells := 0, slots := 0, locals := 0 } : Room).cells) (S := ({ frames := 0, cells := 0, slots := 0, locals := 0 } : Room).slots) ?_
  rw [ef_19 m a1 p2 p3]
  have K0 : Keep h0 h0 [a1] := Keep.refl h0 [a1]
  obtain ⟨SC, hw0, SF, hf0, SA, SH, SL⟩ := id sts
  have fa2 := Sta.ext P1.2 SA
  obtain ⟨T1, X1, e1, st1⟩ := getS2 X0 hx hZ hown (host := "") (Or.inl (hw _ (List.mem_of_getElem? (i := 84) rfl))) Via.refl e0 fa2 (g := (mkF m 0 #[.val (.ref a1), .val (.int p2), .val (.int p3)] [])) rfl (hb hby d19_0)
  refine Gen.on (b := T1.setTop (mkF m 3 #[.val (.ref a1), .val (.int p2), .val (.int p3)] [(.int (1 : Int32))])) ?_ (fun t k => st1 t k)
  refine Gen.on (b := T1.setTop (mkF m 28 #[.val (.ref a1), .val (.int p2), .val (.int p3)] [])) ?_ (fun t k => XS.ifYes X1.here hx rfl (pc0 := 3) (pc' := 28) rfl (hb hby d19_3) rfl ((if0 _ _).trans (feq (by decide : ¬ ((1 : Int32) = (0 : Int32)))).2) (by decide) (by decide) k)
  refine Gen.on (b := T1.setTop (mkF m 29 #[.val (.ref a1), .val (.int p2), .val (.int p3)] [(.int p2)])) ?_ (fun t k => XS.iloadN X1.here hx rfl (hb hby d19_28) rfl k)
  refine Gen.on (b := T1.setTop (mkF m 30 #[.val (.ref a1), .val (.int p2), .val (.int p3)] [(.int (1 : Int32)), (.int p2)])) ?_ (fun t k => XS.iconst X1.here hx rfl (hb hby d19_29) k)
  refine Gen.on (b := T1.setTop (mkF m 31 #[.val (.ref a1), .val (.int p2), .val (.int p3)] [(.int (p2 <<< ((1 : Int32) &&& 31)))])) ?_ (fun t k => XS.ishl X1.here hx rfl (hb hby d19_30) rfl k)
  refine Gen.on (b := T1.setTop (mkF m 32 #[.val (.ref a1), .val (.int (p2 <<< ((1 : Int32) &&& 31))), .val (.int p3)] [])) ?_ (fun t k => XS.istoreN X1.here hx rfl (hb hby d19_31) rfl (l' := #[.val (.ref a1), .val (.int (p2 <<< ((1 : Int32) &&& 31))), .val (.int p3)]) rfl k)
  rw [hi2]
  refine Gen.on (b := T1.setTop (mkF m 33 #[.val (.ref a1), .val (.int i2), .val (.int p3)] [(.ref a1)])) ?_ (fun t k => XS.aloadN X1.here hx rfl (hb hby d19_32) rfl rfl k)
  refine Gen.on (b := T1.setTop (mkF m 34 #[.val (.ref a1), .val (.int i2), .val (.int p3)] [(.int i2), (.ref a1)])) ?_ (fun t k => XS.iloadN X1.here hx rfl (hb hby d19_33) rfl k)
  refine Gen.on (b := T1.setTop (mkF m 37 #[.val (.ref a1), .val (.int (i2 + (1 : Int32))), .val (.int p3)] [(.int i2), (.ref a1)])) ?_ (fun t k => XS.iinc X1.here hx rfl (hb hby d19_34) rfl (l' := #[.val (.ref a1), .val (.int (i2 + (1 : Int32))), .val (.int p3)]) rfl k)
  refine Gen.on (b := T1.setTop (mkF m 38 #[.val (.ref a1), .val (.int (i2 + (1 : Int32))), .val (.int p3)] [(.int p3), (.int i2), (.ref a1)])) ?_ (fun t k => XS.iloadN X1.here hx rfl (hb hby d19_37) rfl k)
  have fa4 := Sta.ext P1.2 SH
  obtain ⟨T3, X3, e3, st3⟩ := getS2 X1 hx hZ hown (host := "") (Or.inl (hw _ (List.mem_of_getElem? (i := 85) rfl))) Via.refl e1 fa4 (g := (mkF m 38 #[.val (.ref a1), .val (.int (i2 + (1 : Int32))), .val (.int p3)] [(.int p3), (.int i2), (.ref a1)])) rfl (hb hby d19_38)
  refine Gen.on (b := T3.setTop (mkF m 41 #[.val (.ref a1), .val (.int (i2 + (1 : Int32))), .val (.int p3)] [(.int (0 : Int32)), (.int p3), (.int i2), (.ref a1)])) ?_ (fun t k => st3 t k)
  refine Gen.on (b := T3.setTop (mkF m 42 #[.val (.ref a1), .val (.int (i2 + (1 : Int32))), .val (.int p3)] [(.int (p3 >>> ((0 : Int32) &&& 31))), (.int i2), (.ref a1)])) ?_ (fun t k => XS.ishr X3.here hx rfl (hb hby d19_41) rfl k)
  refine Gen.on (b := T3.setTop (mkF m 43 #[.val (.ref a1), .val (.int (i2 + (1 : Int32))), .val (.int p3)] [(.int (p3 >>> ((0 : Int32) &&& 31)).toInt8.toInt32), (.int i2), (.ref a1)])) ?_ (fun t k => XS.i2b X3.here hx rfl (hb hby d19_42) rfl k)
  obtain ⟨cl5, Ar5, SA5, NA5, HA5⟩ := id P0
  have hin5 : ¬ (i2 < 0 ∨ cl5.slots.size ≤ (i2).toNatClampNeg) := inb_of SA5 ⟨hn0, hlt⟩
  obtain ⟨T5, h5, X5, e5, W5, st5⟩ := stB X3 hx hZ e3 Ar5 (j := i2) hin5 (g := (mkF m 43 #[.val (.ref a1), .val (.int (i2 + (1 : Int32))), .val (.int p3)] [(.int (p3 >>> ((0 : Int32) &&& 31)).toInt8.toInt32), (.int i2), (.ref a1)])) rfl rfl (hb hby d19_43)
  have Y5 := Afn.put Ar5 SA5 NA5 HA5 W5 hn0
  have Z5 : n0 ≤ h5.size := Nat.le_trans Z0 (Keep.of_wr W5).1
  have K5 : Keep h0 h5 [a1] := K0.wr W5 (Or.inl (List.mem_of_getElem? (i := 0) rfl))
  have N5 := Fr.snoc X5 N0 g_a1
  refine Gen.on (b := T5.setTop (mkF m 44 #[.val (.ref a1), .val (.int (i2 + (1 : Int32))), .val (.int p3)] [])) ?_ (fun t k => st5 t k)
  refine Gen.on (b := T5.setTop (mkF m 45 #[.val (.ref a1), .val (.int (i2 + (1 : Int32))), .val (.int p3)] [(.ref a1)])) ?_ (fun t k => XS.aloadN X5.here hx rfl (hb hby d19_44) rfl rfl k)
  refine Gen.on (b := T5.setTop (mkF m 46 #[.val (.ref a1), .val (.int (i2 + (1 : Int32))), .val (.int p3)] [(.int (i2 + (1 : Int32))), (.ref a1)])) ?_ (fun t k => XS.iloadN X5.here hx rfl (hb hby d19_45) rfl k)
  refine Gen.on (b := T5.setTop (mkF m 47 #[.val (.ref a1), .val (.int (i2 + (1 : Int32))), .val (.int p3)] [(.int p3), (.int (i2 + (1 : Int32))), (.ref a1)])) ?_ (fun t k => XS.iloadN X5.here hx rfl (hb hby d19_46) rfl k)
  have fa7 := (P1.wr W5 g_a1)
  have fa8 := Sta.ext fa7.2 SL
  obtain ⟨T6, X6, e6, st6⟩ := getS2 X5 hx hZ hown (host := "") (Or.inl (hw _ (List.mem_of_getElem? (i := 86) rfl))) Via.refl e5 fa8 (g := (mkF m 47 #[.val (.ref a1), .val (.int (i2 + (1 : Int32))), .val (.int p3)] [(.int p3), (.int (i2 + (1 : Int32))), (.ref a1)])) rfl (hb hby d19_47)
  refine Gen.on (b := T6.setTop (mkF m 50 #[.val (.ref a1), .val (.int (i2 + (1 : Int32))), .val (.int p3)] [(.int (8 : Int32)), (.int p3), (.int (i2 + (1 : Int32))), (.ref a1)])) ?_ (fun t k => st6 t k)
  refine Gen.on (b := T6.setTop (mkF m 51 #[.val (.ref a1), .val (.int (i2 + (1 : Int32))), .val (.int p3)] [(.int (p3 >>> ((8 : Int32) &&& 31))), (.int (i2 + (1 : Int32))), (.ref a1)])) ?_ (fun t k => XS.ishr X6.here hx rfl (hb hby d19_50) rfl k)
  refine Gen.on (b := T6.setTop (mkF m 52 #[.val (.ref a1), .val (.int (i2 + (1 : Int32))), .val (.int p3)] [(.int (p3 >>> ((8 : Int32) &&& 31)).toInt8.toInt32), (.int (i2 + (1 : Int32))), (.ref a1)])) ?_ (fun t k => XS.i2b X6.here hx rfl (hb hby d19_51) rfl k)
  obtain ⟨cl9, Ar9, SA9, NA9, HA9⟩ := id Y5
  have hin9 : ¬ ((i2 + (1 : Int32)) < 0 ∨ cl9.slots.size ≤ ((i2 + (1 : Int32))).toNatClampNeg) := inb_of SA9 ⟨hn1, hlt1⟩
  obtain ⟨T9, h9, X9, e9, W9, st9⟩ := stB X6 hx hZ e6 Ar9 (j := (i2 + (1 : Int32))) hin9 (g := (mkF m 52 #[.val (.ref a1), .val (.int (i2 + (1 : Int32))), .val (.int p3)] [(.int (p3 >>> ((8 : Int32) &&& 31)).toInt8.toInt32), (.int (i2 + (1 : Int32))), (.ref a1)])) rfl rfl (hb hby d19_52)
  have Y9 := Afn.put Ar9 SA9 NA9 HA9 W9 hn1
  have Z9 : n0 ≤ h9.size := Nat.le_trans Z5 (Keep.of_wr W9).1
  have K9 : Keep h0 h9 [a1] := K5.wr W9 (Or.inl (List.mem_of_getElem? (i := 0) rfl))
  have N9 := Fr.snoc X9 N5 g_a1
  refine Gen.on (b := T9.setTop (mkF m 53 #[.val (.ref a1), .val (.int (i2 + (1 : Int32))), .val (.int p3)] [])) ?_ (fun t k => st9 t k)
  refine own_ret0 X9 hx Bd.returns (hb hby d19_53) (by decide) (by decide) ?_
  show Q19 Z a1 p2 p3 zb yb i2 w0 f0 h0 n0 _ T9.heap _
  rw [e9]
  exact ⟨rfl, N9, K9, Y9⟩

theorem d20_0 : decode jdk_52_method_5_code 0 = .ok (.getstatic 44, 3) := by decide +kernel
theorem d20_3 : decode jdk_52_method_5_code 3 = .ok (.ifCond .ne 25, 3) := by decide +kernel
theorem d20_28 : decode jdk_52_method_5_code 28 = .ok (.iload_n 1, 1) := by decide +kernel
theorem d20_29 : decode jdk_52_method_5_code 29 = .ok (.iconst 1, 1) := by decide +kernel
theorem d20_30 : decode jdk_52_method_5_code 30 = .ok (.ishl, 1) := by decide +kernel
theorem d20_31 : decode jdk_52_method_5_code 31 = .ok (.istore_n 1, 1) := by decide +kernel
theorem d20_32 : decode jdk_52_method_5_code 32 = .ok (.aload_n 0, 1) := by decide +kernel
theorem d20_33 : decode jdk_52_method_5_code 33 = .ok (.iload_n 1, 1) := by decide +kernel
theorem d20_34 : decode jdk_52_method_5_code 34 = .ok (.iinc 1 1, 3) := by decide +kernel
theorem d20_37 : decode jdk_52_method_5_code 37 = .ok (.baload, 1) := by decide +kernel
theorem d20_38 : decode jdk_52_method_5_code 38 = .ok (.sipush 255, 3) := by decide +kernel
theorem d20_41 : decode jdk_52_method_5_code 41 = .ok (.iand, 1) := by decide +kernel
theorem d20_42 : decode jdk_52_method_5_code 42 = .ok (.getstatic 59, 3) := by decide +kernel
theorem d20_45 : decode jdk_52_method_5_code 45 = .ok (.ishl, 1) := by decide +kernel
theorem d20_46 : decode jdk_52_method_5_code 46 = .ok (.aload_n 0, 1) := by decide +kernel
theorem d20_47 : decode jdk_52_method_5_code 47 = .ok (.iload_n 1, 1) := by decide +kernel
theorem d20_48 : decode jdk_52_method_5_code 48 = .ok (.baload, 1) := by decide +kernel
theorem d20_49 : decode jdk_52_method_5_code 49 = .ok (.sipush 255, 3) := by decide +kernel
theorem d20_52 : decode jdk_52_method_5_code 52 = .ok (.iand, 1) := by decide +kernel
theorem d20_53 : decode jdk_52_method_5_code 53 = .ok (.getstatic 63, 3) := by decide +kernel
theorem d20_56 : decode jdk_52_method_5_code 56 = .ok (.ishl, 1) := by decide +kernel
theorem d20_57 : decode jdk_52_method_5_code 57 = .ok (.ior, 1) := by decide +kernel
theorem d20_58 : decode jdk_52_method_5_code 58 = .ok (.i2c, 1) := by decide +kernel
theorem d20_59 : decode jdk_52_method_5_code 59 = .ok (.ireturn, 1) := by decide +kernel
theorem pn_20 : plainName "java/lang/StringUTF16" = true := by first | (simp [plainName, overriddenIn]; done) | decide +kernel
theorem ef_20 (m : MethodId) (x0 : Addr) (x1 : Int32) : entryFrame m #[(.ref x0), (.int x1)] 2 = mkF m 0 #[.val (.ref x0), .val (.int x1)] [] := by first | (simp [entryFrame, mkF, argsToLocals, Value.category]; done) | rfl
def Q20 (Z : State) (a1 : Addr) (p2 : Int32) (zb : Int32) (yb : Int32 → Int32) (i2 : Int32) (w0 : Int32) (f0 : Value) (h0 : Heap) (n0 : Nat) (v : Option Value) (h : Heap) (L : List Loc) : Prop := v = some (.int (own_gc (yb i2) (yb (i2 + (1 : Int32))))) ∧ Fr n0 L ∧ h = h0
set_option maxRecDepth 65536 in
set_option maxHeartbeats 40000000 in
theorem rm20 (l : Launch) (Z : State) (a0 : Array Value) (hw : ∀ d ∈ tables_1, d.before a0 Z = true) (wds : List Jvm.Cond) (a1 : Addr) (p2 : Int32) (zb : Int32) (yb : Int32 → Int32) (i2 : Int32) (w0 : Int32) (f0 : Value) (h0 : Heap) (n0 : Nat) (Z0 : n0 ≤ h0.size) (P0 : Afn Z h0 a1 .byte zb yb) (P1 : Old Z n0 h0) (sts : Sts Z w0 f0) (hi2 : (p2 <<< ((1 : Int32) &&& 31)) = i2) (hn0 : ¬ i2 < 0) (hlt : i2 < zb) (hn1 : ¬ (i2 + (1 : Int32)) < 0) (hlt1 : (i2 + (1 : Int32)) < zb) :
    MetFree l (⟨"java/lang/StringUTF16", "getChar", "([BI)C"⟩ : MethodName) (head1 (Jvm.Cond.code (⟨"java/lang/StringUTF16", "getChar", "([BI)C"⟩ : MethodName) jdk_52_method_5_code 2 (some .char) :: wds) ({ frames := 0, cells := 0, slots := 0, locals := 0 } : Room)) (fun a U => a = #[(.ref a1), (.int p2)] ∧ Z.Warmed39 U.vm ∧ U.heap = h0) (fun _ _ _ _ _ => True) (fun _ U o U' => ∃ v L, o = .returned v ∧ Q20 Z a1 p2 zb yb i2 w0 f0 h0 n0 v U'.heap L ∧ FrameEnd U o U' L ({ frames := 0, cells := 0, slots := 0, locals := 0 } : Room).cells ({ frames := 0, cells := 0, slots := 0, locals := 0 } : Room).slots) := by
  refine MetFree.of_bodySF (plainFor_of_name pn_20) hisR ?_
  intro p e s m args below meth c s₁ Bd hml0 hP hK
  obtain ⟨rfl, hZ, hh⟩ := hP
  have hx := Bd.exec
  have hby := Bd.bytes
  have hml : c.maxLocals = 2 := hml0
  have hown : s.vm.findClass "java/lang/StringUTF16" = some m.cls := findClass_of_methodNamed Bd.named
  have hnm := (name_of_methodNamed Bd.named Bd.method).1
  have X0 : Stand p l e ({ frames := 0, cells := 0, slots := 0, locals := 0 } : Room) s m #[(.ref a1), (.int p2)] below meth c s₁ [] 0 0 := Stand.of_body Bd
  have e0 : s₁.heap = h0 := by rw [← hh, Bd.state]; rfl
  have N0 := Fr.nil n0
  refine own_start (Q := Q20 Z a1 p2 zb yb i2 w0 f0 h0 n0) (C := ({ frames := 0, cells := 0, slots := 0, locals := 0 } : Room).cells) (S := ({ frames := 0, cells := 0, slots := 0, locals := 0 } : Room).slots) ?_
  rw [ef_20 m a1 p2]
  obtain ⟨SC, hw0, SF, hf0, SA, SH, SL⟩ := id sts
  have fa2 := Sta.ext P1.2 SA
  obtain ⟨T1, X1, e1, st1⟩ := getS2 X0 hx hZ hown (host := "") (Or.inl (hw _ (List.mem_of_getElem? (i := 84) rfl))) Via.refl e0 fa2 (g := (mkF m 0 #[.val (.ref a1), .val (.int p2)] [])) rfl (hb hby d20_0)
  refine Gen.on (b := T1.setTop (mkF m 3 #[.val (.ref a1), .val (.int p2)] [(.int (1 : Int32))])) ?_ (fun t k => st1 t k)
  refine Gen.on (b := T1.setTop (mkF m 28 #[.val (.ref a1), .val (.int p2)] [])) ?_ (fun t k => XS.ifYes X1.here hx rfl (pc0 := 3) (pc' := 28) rfl (hb hby d20_3) rfl ((if0 _ _).trans (feq (by decide : ¬ ((1 : Int32) = (0 : Int32)))).2) (by decide) (by decide) k)
  refine Gen.on (b := T1.setTop (mkF m 29 #[.val (.ref a1), .val (.int p2)] [(.int p2)])) ?_ (fun t k => XS.iloadN X1.here hx rfl (hb hby d20_28) rfl k)
  refine Gen.on (b := T1.setTop (mkF m 30 #[.val (.ref a1), .val (.int p2)] [(.int (1 : Int32)), (.int p2)])) ?_ (fun t k => XS.iconst X1.here hx rfl (hb hby d20_29) k)
  refine Gen.on (b := T1.setTop (mkF m 31 #[.val (.ref a1), .val (.int p2)] [(.int (p2 <<< ((1 : Int32) &&& 31)))])) ?_ (fun t k => XS.ishl X1.here hx rfl (hb hby d20_30) rfl k)
  refine Gen.on (b := T1.setTop (mkF m 32 #[.val (.ref a1), .val (.int (p2 <<< ((1 : Int32) &&& 31)))] [])) ?_ (fun t k => XS.istoreN X1.here hx rfl (hb hby d20_31) rfl (l' := #[.val (.ref a1), .val (.int (p2 <<< ((1 : Int32) &&& 31)))]) rfl k)
  rw [hi2]
  refine Gen.on (b := T1.setTop (mkF m 33 #[.val (.ref a1), .val (.int i2)] [(.ref a1)])) ?_ (fun t k => XS.aloadN X1.here hx rfl (hb hby d20_32) rfl rfl k)
  refine Gen.on (b := T1.setTop (mkF m 34 #[.val (.ref a1), .val (.int i2)] [(.int i2), (.ref a1)])) ?_ (fun t k => XS.iloadN X1.here hx rfl (hb hby d20_33) rfl k)
  refine Gen.on (b := T1.setTop (mkF m 37 #[.val (.ref a1), .val (.int (i2 + (1 : Int32)))] [(.int i2), (.ref a1)])) ?_ (fun t k => XS.iinc X1.here hx rfl (hb hby d20_34) rfl (l' := #[.val (.ref a1), .val (.int (i2 + (1 : Int32)))]) rfl k)
  obtain ⟨cl3, Ar3, SA3, NA3, HA3⟩ := id P0
  have hin3 : ¬ (i2 < 0 ∨ cl3.slots.size ≤ (i2).toNatClampNeg) := inb_of SA3 ⟨hn0, hlt⟩
  refine Gen.on (b := T1.setTop (mkF m 38 #[.val (.ref a1), .val (.int (i2 + (1 : Int32)))] [(.int (yb i2))])) ?_ (fun t k => X1.baloadBytes hx (j := i2) (v := (.int (yb i2))) (by rw [e1]; exact Ar3.1) (State.isArrayOf_alike hZ.alike Ar3.2.1) Ar3.2.2 hin3 (HA3 _ hin3) (g := (mkF m 37 #[.val (.ref a1), .val (.int (i2 + (1 : Int32)))] [(.int i2), (.ref a1)])) rfl rfl (hb hby d20_37) t k)
  refine Gen.on (b := T1.setTop (mkF m 41 #[.val (.ref a1), .val (.int (i2 + (1 : Int32)))] [(.int (255 : Int32)), (.int (yb i2))])) ?_ (fun t k => XS.sipush X1.here hx rfl (hb hby d20_38) k)
  refine Gen.on (b := T1.setTop (mkF m 42 #[.val (.ref a1), .val (.int (i2 + (1 : Int32)))] [(.int ((yb i2) &&& (255 : Int32)))])) ?_ (fun t k => XS.iand X1.here hx rfl (hb hby d20_41) rfl k)
  have fa5 := Sta.ext P1.2 SH
  obtain ⟨T4, X4, e4, st4⟩ := getS2 X1 hx hZ hown (host := "") (Or.inl (hw _ (List.mem_of_getElem? (i := 85) rfl))) Via.refl e1 fa5 (g := (mkF m 42 #[.val (.ref a1), .val (.int (i2 + (1 : Int32)))] [(.int ((yb i2) &&& (255 : Int32)))])) rfl (hb hby d20_42)
  refine Gen.on (b := T4.setTop (mkF m 45 #[.val (.ref a1), .val (.int (i2 + (1 : Int32)))] [(.int (0 : Int32)), (.int ((yb i2) &&& (255 : Int32)))])) ?_ (fun t k => st4 t k)
  refine Gen.on (b := T4.setTop (mkF m 46 #[.val (.ref a1), .val (.int (i2 + (1 : Int32)))] [(.int (((yb i2) &&& (255 : Int32)) <<< ((0 : Int32) &&& 31)))])) ?_ (fun t k => XS.ishl X4.here hx rfl (hb hby d20_45) rfl k)
  refine Gen.on (b := T4.setTop (mkF m 47 #[.val (.ref a1), .val (.int (i2 + (1 : Int32)))] [(.ref a1), (.int (((yb i2) &&& (255 : Int32)) <<< ((0 : Int32) &&& 31)))])) ?_ (fun t k => XS.aloadN X4.here hx rfl (hb hby d20_46) rfl rfl k)
  refine Gen.on (b := T4.setTop (mkF m 48 #[.val (.ref a1), .val (.int (i2 + (1 : Int32)))] [(.int (i2 + (1 : Int32))), (.ref a1), (.int (((yb i2) &&& (255 : Int32)) <<< ((0 : Int32) &&& 31)))])) ?_ (fun t k => XS.iloadN X4.here hx rfl (hb hby d20_47) rfl k)
  obtain ⟨cl6, Ar6, SA6, NA6, HA6⟩ := id P0
  have hin6 : ¬ ((i2 + (1 : Int32)) < 0 ∨ cl6.slots.size ≤ ((i2 + (1 : Int32))).toNatClampNeg) := inb_of SA6 ⟨hn1, hlt1⟩
  refine Gen.on (b := T4.setTop (mkF m 49 #[.val (.ref a1), .val (.int (i2 + (1 : Int32)))] [(.int (yb (i2 + (1 : Int32)))), (.int (((yb i2) &&& (255 : Int32)) <<< ((0 : Int32) &&& 31)))])) ?_ (fun t k => X4.baloadBytes hx (j := (i2 + (1 : Int32))) (v := (.int (yb (i2 + (1 : Int32))))) (by rw [e4]; exact Ar6.1) (State.isArrayOf_alike hZ.alike Ar6.2.1) Ar6.2.2 hin6 (HA6 _ hin6) (g := (mkF m 48 #[.val (.ref a1), .val (.int (i2 + (1 : Int32)))] [(.int (i2 + (1 : Int32))), (.ref a1), (.int (((yb i2) &&& (255 : Int32)) <<< ((0 : Int32) &&& 31)))])) rfl rfl (hb hby d20_48) t k)
  refine Gen.on (b := T4.setTop (mkF m 52 #[.val (.ref a1), .val (.int (i2 + (1 : Int32)))] [(.int (255 : Int32)), (.int (yb (i2 + (1 : Int32)))), (.int (((yb i2) &&& (255 : Int32)) <<< ((0 : Int32) &&& 31)))])) ?_ (fun t k => XS.sipush X4.here hx rfl (hb hby d20_49) k)
  refine Gen.on (b := T4.setTop (mkF m 53 #[.val (.ref a1), .val (.int (i2 + (1 : Int32)))] [(.int ((yb (i2 + (1 : Int32))) &&& (255 : Int32))), (.int (((yb i2) &&& (255 : Int32)) <<< ((0 : Int32) &&& 31)))])) ?_ (fun t k => XS.iand X4.here hx rfl (hb hby d20_52) rfl k)
  have fa8 := Sta.ext P1.2 SL
  obtain ⟨T7, X7, e7, st7⟩ := getS2 X4 hx hZ hown (host := "") (Or.inl (hw _ (List.mem_of_getElem? (i := 86) rfl))) Via.refl e4 fa8 (g := (mkF m 53 #[.val (.ref a1), .val (.int (i2 + (1 : Int32)))] [(.int ((yb (i2 + (1 : Int32))) &&& (255 : Int32))), (.int (((yb i2) &&& (255 : Int32)) <<< ((0 : Int32) &&& 31)))])) rfl (hb hby d20_53)
  refine Gen.on (b := T7.setTop (mkF m 56 #[.val (.ref a1), .val (.int (i2 + (1 : Int32)))] [(.int (8 : Int32)), (.int ((yb (i2 + (1 : Int32))) &&& (255 : Int32))), (.int (((yb i2) &&& (255 : Int32)) <<< ((0 : Int32) &&& 31)))])) ?_ (fun t k => st7 t k)
  refine Gen.on (b := T7.setTop (mkF m 57 #[.val (.ref a1), .val (.int (i2 + (1 : Int32)))] [(.int (((yb (i2 + (1 : Int32))) &&& (255 : Int32)) <<< ((8 : Int32) &&& 31))), (.int (((yb i2) &&& (255 : Int32)) <<< ((0 : Int32) &&& 31)))])) ?_ (fun t k => XS.ishl X7.here hx rfl (hb hby d20_56) rfl k)
  refine Gen.on (b := T7.setTop (mkF m 58 #[.val (.ref a1), .val (.int (i2 + (1 : Int32)))] [(.int ((((yb i2) &&& (255 : Int32)) <<< ((0 : Int32) &&& 31)) ||| (((yb (i2 + (1 : Int32))) &&& (255 : Int32)) <<< ((8 : Int32) &&& 31))))])) ?_ (fun t k => XS.ior X7.here hx rfl (hb hby d20_57) rfl k)
  refine Gen.on (b := T7.setTop (mkF m 59 #[.val (.ref a1), .val (.int (i2 + (1 : Int32)))] [(.int ((((yb i2) &&& (255 : Int32)) <<< ((0 : Int32) &&& 31)) ||| (((yb (i2 + (1 : Int32))) &&& (255 : Int32)) <<< ((8 : Int32) &&& 31))).toUInt32.toUInt16.toUInt32.toInt32)])) ?_ (fun t k => XS.i2c X7.here hx rfl (hb hby d20_58) rfl k)
  refine own_retN (t := .char) X7 hx Bd.returns (by simp) (own_nar_i2c _) (hb hby d20_59) (by decide) (by decide) ?_
  exact ⟨rfl, N0, e7⟩

theorem d15_0 : decode jdk_41_method_11_code 0 = .ok (.iload_n 0, 1) := by decide +kernel
theorem d15_1 : decode jdk_41_method_11_code 1 = .ok (.ifCond .lt 8, 3) := by decide +kernel
theorem d15_4 : decode jdk_41_method_11_code 4 = .ok (.iload_n 0, 1) := by decide +kernel
theorem d15_5 : decode jdk_41_method_11_code 5 = .ok (.iload_n 1, 1) := by decide +kernel
theorem d15_6 : decode jdk_41_method_11_code 6 = .ok (.if_icmp .lt 10, 3) := by decide +kernel
theorem d15_16 : decode jdk_41_method_11_code 16 = .ok (.iload_n 0, 1) := by decide +kernel
theorem d15_17 : decode jdk_41_method_11_code 17 = .ok (.ireturn, 1) := by decide +kernel
theorem pn_15 : plainName "jdk/internal/util/Preconditions" = true := by first | (simp [plainName, overriddenIn]; done) | decide +kernel
theorem ef_15 (m : MethodId) (x0 : Int32) (x1 : Int32) (x2 : Value) (hx2 : x2.isRef = true) : entryFrame m #[(.int x0), (.int x1), x2] 3 = mkF m 0 #[.val (.int x0), .val (.int x1), .val x2] [] := by rcases ref_cases hx2 with rfl | ⟨_, rfl⟩ <;> first | (simp [entryFrame, mkF, argsToLocals, Value.category]; done) | rfl
def Q15 (Z : State) (p1 : Int32) (p2 : Int32) (f0 : Value) (h0 : Heap) (n0 : Nat) (v : Option Value) (h : Heap) (L : List Loc) : Prop := v = some (.int p1) ∧ Fr n0 L ∧ h = h0
set_option maxRecDepth 65536 in
set_option maxHeartbeats 40000000 in
theorem rm15 (l : Launch) (Z : State) (a0 : Array Value) (hw : ∀ d ∈ tables_1, d.before a0 Z = true) (wds : List Jvm.Cond) (p1 : Int32) (p2 : Int32) (f0 : Value) (h0 : Heap) (n0 : Nat) (Z0 : n0 ≤ h0.size) (hc0 : ¬ (p1 < (0 : Int32))) (hc1 : p1 < p2) (hf0 : f0.isRef = true) :
    MetFree l (⟨"jdk/internal/util/Preconditions", "checkIndex", "(IILjava/util/function/BiFunction;)I"⟩ : MethodName) (head1 (Jvm.Cond.code (⟨"jdk/internal/util/Preconditions", "checkIndex", "(IILjava/util/function/BiFunction;)I"⟩ : MethodName) jdk_41_method_11_code 3 (some .int) :: wds) ({ frames := 0, cells := 0, slots := 0, locals := 0 } : Room)) (fun a U => a = #[(.int p1), (.int p2), f0] ∧ Z.Warmed39 U.vm ∧ U.heap = h0) (fun _ _ _ _ _ => True) (fun _ U o U' => ∃ v L, o = .returned v ∧ Q15 Z p1 p2 f0 h0 n0 v U'.heap L ∧ FrameEnd U o U' L ({ frames := 0, cells := 0, slots := 0, locals := 0 } : Room).cells ({ frames := 0, cells := 0, slots := 0, locals := 0 } : Room).slots) := by
  refine MetFree.of_bodySF (plainFor_of_name pn_15) hisR ?_
  intro p e s m args below meth c s₁ Bd hml0 hP hK
  obtain ⟨rfl, hZ, hh⟩ := hP
  have hx := Bd.exec
  have hby := Bd.bytes
  have hml : c.maxLocals = 3 := hml0
  have hown : s.vm.findClass "jdk/internal/util/Preconditions" = some m.cls := findClass_of_methodNamed Bd.named
  have hnm := (name_of_methodNamed Bd.named Bd.method).1
  have X0 : Stand p l e ({ frames := 0, cells := 0, slots := 0, locals := 0 } : Room) s m #[(.int p1), (.int p2), f0] below meth c s₁ [] 0 0 := Stand.of_body Bd
  have e0 : s₁.heap = h0 := by rw [← hh, Bd.state]; rfl
  have N0 := Fr.nil n0
  refine own_start (Q := Q15 Z p1 p2 f0 h0 n0) (C := ({ frames := 0, cells := 0, slots := 0, locals := 0 } : Room).cells) (S := ({ frames := 0, cells := 0, slots := 0, locals := 0 } : Room).slots) ?_
  rw [ef_15 m p1 p2 f0 hf0]
  refine Gen.on (b := s₁.setTop (mkF m 1 #[.val (.int p1), .val (.int p2), .val f0] [(.int p1)])) ?_ (fun t k => XS.iloadN X0.here hx rfl (hb hby d15_0) rfl k)
  refine Gen.on (b := s₁.setTop (mkF m 4 #[.val (.int p1), .val (.int p2), .val f0] [])) ?_ (fun t k => XS.ifNo X0.here hx rfl (hb hby d15_1) rfl ((if0 _ _).trans (flt hc0).1) k)
  refine Gen.on (b := s₁.setTop (mkF m 5 #[.val (.int p1), .val (.int p2), .val f0] [(.int p1)])) ?_ (fun t k => XS.iloadN X0.here hx rfl (hb hby d15_4) rfl k)
  refine Gen.on (b := s₁.setTop (mkF m 6 #[.val (.int p1), .val (.int p2), .val f0] [(.int p2), (.int p1)])) ?_ (fun t k => XS.iloadN X0.here hx rfl (hb hby d15_5) rfl k)
  refine Gen.on (b := s₁.setTop (mkF m 16 #[.val (.int p1), .val (.int p2), .val f0] [])) ?_ (fun t k => XS.icmpYes X0.here hx rfl (pc0 := 6) (pc' := 16) rfl (hb hby d15_6) rfl (tlt hc1).1 (by decide) (by decide) k)
  refine Gen.on (b := s₁.setTop (mkF m 17 #[.val (.int p1), .val (.int p2), .val f0] [(.int p1)])) ?_ (fun t k => XS.iloadN X0.here hx rfl (hb hby d15_16) rfl k)
  refine own_retI X0 hx Bd.returns (hb hby d15_17) (by decide) (by decide) ?_
  exact ⟨rfl, N0, e0⟩

theorem d14_0 : decode jdk_42_method_155_code 0 = .ok (.iload_n 0, 1) := by decide +kernel
theorem d14_1 : decode jdk_42_method_155_code 1 = .ok (.iload_n 1, 1) := by decide +kernel
theorem d14_2 : decode jdk_42_method_155_code 2 = .ok (.getstatic 1053, 3) := by decide +kernel
theorem d14_5 : decode jdk_42_method_155_code 5 = .ok (.invokestatic 1059, 3) := by decide +kernel
theorem d14_8 : decode jdk_42_method_155_code 8 = .ok (.pop, 1) := by decide +kernel
theorem d14_9 : decode jdk_42_method_155_code 9 = .ok (.return_, 1) := by decide +kernel
theorem pn_14 : plainName "java/lang/String" = true := by first | (simp [plainName, overriddenIn]; done) | decide +kernel
theorem pd_14_0 : parseMethodDescriptor "(IILjava/util/function/BiFunction;)I" = some ⟨[.int, .int, (.object "java/util/function/BiFunction")], some .int⟩ := by decide +kernel
theorem ef_14 (m : MethodId) (x0 : Int32) (x1 : Int32) : entryFrame m #[(.int x0), (.int x1)] 2 = mkF m 0 #[.val (.int x0), .val (.int x1)] [] := by first | (simp [entryFrame, mkF, argsToLocals, Value.category]; done) | rfl
def Q14 (Z : State) (p1 : Int32) (p2 : Int32) (w0 : Int32) (f0 : Value) (h0 : Heap) (n0 : Nat) (v : Option Value) (h : Heap) (L : List Loc) : Prop := v = none ∧ Fr n0 L ∧ h = h0
set_option maxRecDepth 65536 in
set_option maxHeartbeats 40000000 in
theorem rm14 (l : Launch) (Z : State) (a0 : Array Value) (hw : ∀ d ∈ tables_1, d.before a0 Z = true) (wds : List Jvm.Cond) (p1 : Int32) (p2 : Int32) (w0 : Int32) (f0 : Value) (h0 : Heap) (n0 : Nat) (Z0 : n0 ≤ h0.size) (P0 : Old Z n0 h0) (hc0 : ¬ (p1 < (0 : Int32))) (hc1 : p1 < p2) (sts : Sts Z w0 f0) :
    MetFree l (⟨"java/lang/String", "checkIndex", "(II)V"⟩ : MethodName) (head1 (Jvm.Cond.code (⟨"java/lang/String", "checkIndex", "(II)V"⟩ : MethodName) jdk_42_method_155_code 2 none :: wds) ({ frames := 1, cells := 0, slots := 0, locals := 14 } : Room)) (fun a U => a = #[(.int p1), (.int p2)] ∧ Z.Warmed39 U.vm ∧ U.heap = h0) (fun _ _ _ _ _ => True) (fun _ U o U' => ∃ v L, o = .returned v ∧ Q14 Z p1 p2 w0 f0 h0 n0 v U'.heap L ∧ FrameEnd U o U' L ({ frames := 1, cells := 0, slots := 0, locals := 14 } : Room).cells ({ frames := 1, cells := 0, slots := 0, locals := 14 } : Room).slots) := by
  refine MetFree.of_bodySF (plainFor_of_name pn_14) hisR ?_
  intro p e s m args below meth c s₁ Bd hml0 hP hK
  obtain ⟨rfl, hZ, hh⟩ := hP
  have hx := Bd.exec
  have hby := Bd.bytes
  have hml : c.maxLocals = 2 := hml0
  have hown : s.vm.findClass "java/lang/String" = some m.cls := findClass_of_methodNamed Bd.named
  have hnm := (name_of_methodNamed Bd.named Bd.method).1
  have X0 : Stand p l e ({ frames := 1, cells := 0, slots := 0, locals := 14 } : Room) s m #[(.int p1), (.int p2)] below meth c s₁ [] 0 0 := Stand.of_body Bd
  have e0 : s₁.heap = h0 := by rw [← hh, Bd.state]; rfl
  have N0 := Fr.nil n0
  refine own_start (Q := Q14 Z p1 p2 w0 f0 h0 n0) (C := ({ frames := 1, cells := 0, slots := 0, locals := 14 } : Room).cells) (S := ({ frames := 1, cells := 0, slots := 0, locals := 14 } : Room).slots) ?_
  rw [ef_14 m p1 p2]
  obtain ⟨SC, hw0, SF, hf0, SA, SH, SL⟩ := id sts
  refine Gen.on (b := s₁.setTop (mkF m 1 #[.val (.int p1), .val (.int p2)] [(.int p1)])) ?_ (fun t k => XS.iloadN X0.here hx rfl (hb hby d14_0) rfl k)
  refine Gen.on (b := s₁.setTop (mkF m 2 #[.val (.int p1), .val (.int p2)] [(.int p2), (.int p1)])) ?_ (fun t k => XS.iloadN X0.here hx rfl (hb hby d14_1) rfl k)
  have fa2 := Sta.ext P0.2 SF
  obtain ⟨T1, X1, e1, st1⟩ := getS2 X0 hx hZ hown (host := "") (Or.inl (hw _ (List.mem_of_getElem? (i := 66) rfl))) Via.refl e0 fa2 (g := (mkF m 2 #[.val (.int p1), .val (.int p2)] [(.int p2), (.int p1)])) rfl (hb hby d14_2)
  refine Gen.on (b := T1.setTop (mkF m 5 #[.val (.int p1), .val (.int p2)] [f0, (.int p2), (.int p1)])) ?_ (fun t k => st1 t k)
  obtain ⟨_, _, ⟨T3, L3, k3, n3⟩, -, X3, ⟨Lc3, hQ3, l3, y3, z3⟩, st3⟩ := Jvm.LawKit.callS X1 hx (y := (⟨"jdk/internal/util/Preconditions", "checkIndex", "(IILjava/util/function/BiFunction;)I"⟩ : MethodName)) hown (mvT hZ (hw _ (List.mem_of_getElem? (i := 68) rfl))) (mvT hZ (hw _ (List.mem_of_getElem? (i := 69) rfl))) (mvT hZ (hw _ (List.mem_of_getElem? (i := 67) rfl))) (mvT hZ (hw _ (List.mem_of_getElem? (i := 70) rfl))) (by decide) (backOf (W := 0) (rm15 l Z a0 hw [] p1 p2 f0  h0 n0 Z0 hc0 hc1 (hf0)) hZ (hw _ (List.mem_of_getElem? (i := 70) rfl)) (hw _ (List.mem_of_getElem? (i := 67) rfl)) (by decide) (by decide)) (g := (mkF m 5 #[.val (.int p1), .val (.int p2)] [f0, (.int p2), (.int p1)])) rfl (by rw [hml]; rfl) (argsL := [(.int p1), (.int p2), f0]) (rest := []) (lenOf pd_14_0 rfl) rfl (by show 2 * 0 + _ ≤ _; exact Nat.le_of_eq rfl) (hb hby d14_5) (fun _ _ => ⟨rfl, e1, (by decide : 0 + 0 ≤ _), (by decide : 0 + 0 ≤ _)⟩)
  dsimp only [Pt.U, Pt.locs, Pt.cells, Pt.slots] at X3 l3 y3 z3 st3 hQ3
  subst l3 y3 z3
  obtain ⟨rfl, N3q, e3⟩ := hQ3
  have N3 := Fr.app N0 N3q
  refine Gen.on (b := T3.setTop (mkF m 8 #[.val (.int p1), .val (.int p2)] [(.int p1)])) ?_ (fun t k => st3 t k)
  refine Gen.on (b := T3.setTop (mkF m 9 #[.val (.int p1), .val (.int p2)] [])) ?_ (fun t k => XS.pop X3.here hx rfl (hb hby d14_8) rfl rfl k)
  refine own_ret0 X3 hx Bd.returns (hb hby d14_9) (by decide) (by decide) ?_
  exact ⟨rfl, N3, e3⟩

theorem d22_0 : decode jdk_52_method_91_code 0 = .ok (.iload_n 0, 1) := by decide +kernel
theorem d22_1 : decode jdk_52_method_91_code 1 = .ok (.aload_n 1, 1) := by decide +kernel
theorem d22_2 : decode jdk_52_method_91_code 2 = .ok (.invokestatic 48, 3) := by decide +kernel
theorem d22_5 : decode jdk_52_method_91_code 5 = .ok (.invokestatic 414, 3) := by decide +kernel
theorem d22_8 : decode jdk_52_method_91_code 8 = .ok (.return_, 1) := by decide +kernel
theorem pn_22 : plainName "java/lang/StringUTF16" = true := by first | (simp [plainName, overriddenIn]; done) | decide +kernel
theorem pd_22_0 : parseMethodDescriptor "([B)I" = some ⟨[(.array .byte)], some .int⟩ := by decide +kernel
theorem pd_22_1 : parseMethodDescriptor "(II)V" = some ⟨[.int, .int], none⟩ := by decide +kernel
theorem ef_22 (m : MethodId) (x0 : Int32) (x1 : Addr) : entryFrame m #[(.int x0), (.ref x1)] 2 = mkF m 0 #[.val (.int x0), .val (.ref x1)] [] := by first | (simp [entryFrame, mkF, argsToLocals, Value.category]; done) | rfl
def Q22 (Z : State) (p1 : Int32) (a2 : Addr) (zb : Int32) (yb : Int32 → Int32) (w0 : Int32) (f0 : Value) (h0 : Heap) (n0 : Nat) (v : Option Value) (h : Heap) (L : List Loc) : Prop := v = none ∧ Fr n0 L ∧ h = h0
set_option maxRecDepth 65536 in
set_option maxHeartbeats 40000000 in
theorem rm22 (l : Launch) (Z : State) (a0 : Array Value) (hw : ∀ d ∈ tables_1, d.before a0 Z = true) (wds : List Jvm.Cond) (p1 : Int32) (a2 : Addr) (zb : Int32) (yb : Int32 → Int32) (w0 : Int32) (f0 : Value) (h0 : Heap) (n0 : Nat) (Z0 : n0 ≤ h0.size) (P0 : Afn Z h0 a2 .byte zb yb) (P1 : Old Z n0 h0) (hc0 : ¬ (p1 < (0 : Int32))) (hc1 : p1 < (zb >>> ((1 : Int32) &&& 31))) (sts : Sts Z w0 f0) :
    MetFree l (⟨"java/lang/StringUTF16", "checkIndex", "(I[B)V"⟩ : MethodName) (head1 (Jvm.Cond.code (⟨"java/lang/StringUTF16", "checkIndex", "(I[B)V"⟩ : MethodName) jdk_52_method_91_code 2 none :: wds) ({ frames := 2, cells := 0, slots := 0, locals := 27 } : Room)) (fun a U => a = #[(.int p1), (.ref a2)] ∧ Z.Warmed39 U.vm ∧ U.heap = h0) (fun _ _ _ _ _ => True) (fun _ U o U' => ∃ v L, o = .returned v ∧ Q22 Z p1 a2 zb yb w0 f0 h0 n0 v U'.heap L ∧ FrameEnd U o U' L ({ frames := 2, cells := 0, slots := 0, locals := 27 } : Room).cells ({ frames := 2, cells := 0, slots := 0, locals := 27 } : Room).slots) := by
  refine MetFree.of_bodySF (plainFor_of_name pn_22) hisR ?_
  intro p e s m args below meth c s₁ Bd hml0 hP hK
  obtain ⟨rfl, hZ, hh⟩ := hP
  have hx := Bd.exec
  have hby := Bd.bytes
  have hml : c.maxLocals = 2 := hml0
  have hown : s.vm.findClass "java/lang/StringUTF16" = some m.cls := findClass_of_methodNamed Bd.named
  have hnm := (name_of_methodNamed Bd.named Bd.method).1
  have X0 : Stand p l e ({ frames := 2, cells := 0, slots := 0, locals := 27 } : Room) s m #[(.int p1), (.ref a2)] below meth c s₁ [] 0 0 := Stand.of_body Bd
  have e0 : s₁.heap = h0 := by rw [← hh, Bd.state]; rfl
  have N0 := Fr.nil n0
  refine own_start (Q := Q22 Z p1 a2 zb yb w0 f0 h0 n0) (C := ({ frames := 2, cells := 0, slots := 0, locals := 27 } : Room).cells) (S := ({ frames := 2, cells := 0, slots := 0, locals := 27 } : Room).slots) ?_
  rw [ef_22 m p1 a2]
  obtain ⟨SC, hw0, SF, hf0, SA, SH, SL⟩ := id sts
  refine Gen.on (b := s₁.setTop (mkF m 1 #[.val (.int p1), .val (.ref a2)] [(.int p1)])) ?_ (fun t k => XS.iloadN X0.here hx rfl (hb hby d22_0) rfl k)
  refine Gen.on (b := s₁.setTop (mkF m 2 #[.val (.int p1), .val (.ref a2)] [(.ref a2), (.int p1)])) ?_ (fun t k => XS.aloadN X0.here hx rfl (hb hby d22_1) rfl rfl k)
  obtain ⟨_, _, ⟨T1, L1, k1, n1⟩, -, X1, ⟨Lc1, hQ1, l1, y1, z1⟩, st1⟩ := Jvm.LawKit.callS X0 hx (y := (⟨"java/lang/StringUTF16", "length", "([B)I"⟩ : MethodName)) hown (mvT hZ (hw _ (List.mem_of_getElem? (i := 96) rfl))) (mvT hZ (hw _ (List.mem_of_getElem? (i := 97) rfl))) (mvT hZ (hw _ (List.mem_of_getElem? (i := 22) rfl))) (mvT hZ (hw _ (List.mem_of_getElem? (i := 98) rfl))) (by decide) (backOf (W := 1) (rm23 l Z a0 hw [] a2 zb yb h0 n0 Z0 P0) hZ (hw _ (List.mem_of_getElem? (i := 98) rfl)) (hw _ (List.mem_of_getElem? (i := 22) rfl)) (by decide) (by decide)) (g := (mkF m 2 #[.val (.int p1), .val (.ref a2)] [(.ref a2), (.int p1)])) rfl (by rw [hml]; rfl) (argsL := [(.ref a2)]) (rest := [(.int p1)]) (lenOf pd_22_0 rfl) rfl (by show 2 * 0 + _ ≤ _; exact Nat.le_of_eq rfl) (hb hby d22_2) (fun _ _ => ⟨rfl, e0, (by decide : 0 + 0 ≤ _), (by decide : 0 + 0 ≤ _)⟩)
  dsimp only [Pt.U, Pt.locs, Pt.cells, Pt.slots] at X1 l1 y1 z1 st1 hQ1
  subst l1 y1 z1
  obtain ⟨rfl, N1q, e1⟩ := hQ1
  have N1 := Fr.app N0 N1q
  refine Gen.on (b := T1.setTop (mkF m 5 #[.val (.int p1), .val (.ref a2)] [(.int (zb >>> ((1 : Int32) &&& 31))), (.int p1)])) ?_ (fun t k => st1 t k)
  obtain ⟨_, _, ⟨T2, L2, k2, n2⟩, -, X2, ⟨Lc2, hQ2, l2, y2, z2⟩, st2⟩ := Jvm.LawKit.callS X1 hx (y := (⟨"java/lang/String", "checkIndex", "(II)V"⟩ : MethodName)) hown (mvT hZ (hw _ (List.mem_of_getElem? (i := 99) rfl))) (mvT hZ (hw _ (List.mem_of_getElem? (i := 64) rfl))) (mvT hZ (hw _ (List.mem_of_getElem? (i := 8) rfl))) (mvT hZ (hw _ (List.mem_of_getElem? (i := 65) rfl))) (by decide) (backOf (W := 0) (rm14 l Z a0 hw [] p1 (zb >>> ((1 : Int32) &&& 31)) w0 f0 h0 n0 Z0 P1 hc0 hc1 (sts)) hZ (hw _ (List.mem_of_getElem? (i := 65) rfl)) (hw _ (List.mem_of_getElem? (i := 8) rfl)) (by decide) (by decide)) (g := (mkF m 5 #[.val (.int p1), .val (.ref a2)] [(.int (zb >>> ((1 : Int32) &&& 31))), (.int p1)])) rfl (by rw [hml]; rfl) (argsL := [(.int p1), (.int (zb >>> ((1 : Int32) &&& 31)))]) (rest := []) (lenOf pd_22_1 rfl) rfl (by show 2 * 0 + _ ≤ _; exact Nat.le_of_eq rfl) (hb hby d22_5) (fun _ _ => ⟨rfl, e1, (by decide : 0 + 0 ≤ _), (by decide : 0 + 0 ≤ _)⟩)
  dsimp only [Pt.U, Pt.locs, Pt.cells, Pt.slots] at X2 l2 y2 z2 st2 hQ2
  subst l2 y2 z2
  obtain ⟨rfl, N2q, e2⟩ := hQ2
  have N2 := Fr.app N1 N2q
  refine Gen.on (b := T2.setTop (mkF m 8 #[.val (.int p1), .val (.ref a2)] [])) ?_ (fun t k => st2 t k)
  refine own_ret0 X2 hx Bd.returns (hb hby d22_8) (by decide) (by decide) ?_
  exact ⟨rfl, N2, e2⟩

theorem d21_0 : decode jdk_52_method_83_code 0 = .ok (.iload_n 1, 1) := by decide +kernel
theorem d21_1 : decode jdk_52_method_83_code 1 = .ok (.aload_n 0, 1) := by decide +kernel
theorem d21_2 : decode jdk_52_method_83_code 2 = .ok (.invokestatic 67, 3) := by decide +kernel
theorem d21_5 : decode jdk_52_method_83_code 5 = .ok (.aload_n 0, 1) := by decide +kernel
theorem d21_6 : decode jdk_52_method_83_code 6 = .ok (.iload_n 1, 1) := by decide +kernel
theorem d21_7 : decode jdk_52_method_83_code 7 = .ok (.invokestatic 71, 3) := by decide +kernel
theorem d21_10 : decode jdk_52_method_83_code 10 = .ok (.ireturn, 1) := by decide +kernel
theorem pn_21 : plainName "java/lang/StringUTF16" = true := by first | (simp [plainName, overriddenIn]; done) | decide +kernel
theorem pd_21_0 : parseMethodDescriptor "(I[B)V" = some ⟨[.int, (.array .byte)], none⟩ := by decide +kernel
theorem pd_21_1 : parseMethodDescriptor "([BI)C" = some ⟨[(.array .byte), .int], some .char⟩ := by decide +kernel
theorem ef_21 (m : MethodId) (x0 : Addr) (x1 : Int32) : entryFrame m #[(.ref x0), (.int x1)] 2 = mkF m 0 #[.val (.ref x0), .val (.int x1)] [] := by first | (simp [entryFrame, mkF, argsToLocals, Value.category]; done) | rfl
def Q21 (Z : State) (a1 : Addr) (p2 : Int32) (zb : Int32) (yb : Int32 → Int32) (i2 : Int32) (w0 : Int32) (f0 : Value) (h0 : Heap) (n0 : Nat) (v : Option Value) (h : Heap) (L : List Loc) : Prop := v = some (.int (own_gc (yb i2) (yb (i2 + (1 : Int32))))) ∧ Fr n0 L ∧ h = h0
set_option maxRecDepth 65536 in
set_option maxHeartbeats 40000000 in
theorem rm21 (l : Launch) (Z : State) (a0 : Array Value) (hw : ∀ d ∈ tables_1, d.before a0 Z = true) (wds : List Jvm.Cond) (a1 : Addr) (p2 : Int32) (zb : Int32) (yb : Int32 → Int32) (i2 : Int32) (w0 : Int32) (f0 : Value) (h0 : Heap) (n0 : Nat) (Z0 : n0 ≤ h0.size) (P0 : Afn Z h0 a1 .byte zb yb) (P1 : Old Z n0 h0) (hc0 : ¬ (p2 < (0 : Int32))) (hc1 : p2 < (zb >>> ((1 : Int32) &&& 31))) (sts : Sts Z w0 f0) (hi2 : (p2 <<< ((1 : Int32) &&& 31)) = i2) (hn0 : ¬ i2 < 0) (hlt : i2 < zb) (hn1 : ¬ (i2 + (1 : Int32)) < 0) (hlt1 : (i2 + (1 : Int32)) < zb) :
    MetFree l (⟨"java/lang/StringUTF16", "charAt", "([BI)C"⟩ : MethodName) (head1 (Jvm.Cond.code (⟨"java/lang/StringUTF16", "charAt", "([BI)C"⟩ : MethodName) jdk_52_method_83_code 2 (some .char) :: wds) ({ frames := 3, cells := 0, slots := 0, locals := 40 } : Room)) (fun a U => a = #[(.ref a1), (.int p2)] ∧ Z.Warmed39 U.vm ∧ U.heap = h0) (fun _ _ _ _ _ => True) (fun _ U o U' => ∃ v L, o = .returned v ∧ Q21 Z a1 p2 zb yb i2 w0 f0 h0 n0 v U'.heap L ∧ FrameEnd U o U' L ({ frames := 3, cells := 0, slots := 0, locals := 40 } : Room).cells ({ frames := 3, cells := 0, slots := 0, locals := 40 } : Room).slots) := by
  refine MetFree.of_bodySF (plainFor_of_name pn_21) hisR ?_
  intro p e s m args below meth c s₁ Bd hml0 hP hK
  obtain ⟨rfl, hZ, hh⟩ := hP
  have hx := Bd.exec
  have hby := Bd.bytes
  have hml : c.maxLocals = 2 := hml0
  have hown : s.vm.findClass "java/lang/StringUTF16" = some m.cls := findClass_of_methodNamed Bd.named
  have hnm := (name_of_methodNamed Bd.named Bd.method).1
  have X0 : Stand p l e ({ frames := 3, cells := 0, slots := 0, locals := 40 } : Room) s m #[(.ref a1), (.int p2)] below meth c s₁ [] 0 0 := Stand.of_body Bd
  have e0 : s₁.heap = h0 := by rw [← hh, Bd.state]; rfl
  have N0 := Fr.nil n0
  refine own_start (Q := Q21 Z a1 p2 zb yb i2 w0 f0 h0 n0) (C := ({ frames := 3, cells := 0, slots := 0, locals := 40 } : Room).cells) (S := ({ frames := 3, cells := 0, slots := 0, locals := 40 } : Room).slots) ?_
  rw [ef_21 m a1 p2]
  obtain ⟨SC, hw0, SF, hf0, SA, SH, SL⟩ := id sts
  refine Gen.on (b := s₁.setTop (mkF m 1 #[.val (.ref a1), .val (.int p2)] [(.int p2)])) ?_ (fun t k => XS.iloadN X0.here hx rfl (hb hby d21_0) rfl k)
  refine Gen.on (b := s₁.setTop (mkF m 2 #[.val (.ref a1), .val (.int p2)] [(.ref a1), (.int p2)])) ?_ (fun t k => XS.aloadN X0.here hx rfl (hb hby d21_1) rfl rfl k)
  obtain ⟨_, _, ⟨T1, L1, k1, n1⟩, -, X1, ⟨Lc1, hQ1, l1, y1, z1⟩, st1⟩ := Jvm.LawKit.callS X0 hx (y := (⟨"java/lang/StringUTF16", "checkIndex", "(I[B)V"⟩ : MethodName)) hown (mvT hZ (hw _ (List.mem_of_getElem? (i := 93) rfl))) (mvT hZ (hw _ (List.mem_of_getElem? (i := 94) rfl))) (mvT hZ (hw _ (List.mem_of_getElem? (i := 22) rfl))) (mvT hZ (hw _ (List.mem_of_getElem? (i := 95) rfl))) (by decide) (backOf (W := 0) (rm22 l Z a0 hw [] p2 a1 zb yb w0 f0 h0 n0 Z0 P0 P1 hc0 hc1 (sts)) hZ (hw _ (List.mem_of_getElem? (i := 95) rfl)) (hw _ (List.mem_of_getElem? (i := 22) rfl)) (by decide) (by decide)) (g := (mkF m 2 #[.val (.ref a1), .val (.int p2)] [(.ref a1), (.int p2)])) rfl (by rw [hml]; rfl) (argsL := [(.int p2), (.ref a1)]) (rest := []) (lenOf pd_21_0 rfl) rfl (by show 2 * 0 + _ ≤ _; exact Nat.le_of_eq rfl) (hb hby d21_2) (fun _ _ => ⟨rfl, e0, (by decide : 0 + 0 ≤ _), (by decide : 0 + 0 ≤ _)⟩)
  dsimp only [Pt.U, Pt.locs, Pt.cells, Pt.slots] at X1 l1 y1 z1 st1 hQ1
  subst l1 y1 z1
  obtain ⟨rfl, N1q, e1⟩ := hQ1
  have N1 := Fr.app N0 N1q
  refine Gen.on (b := T1.setTop (mkF m 5 #[.val (.ref a1), .val (.int p2)] [])) ?_ (fun t k => st1 t k)
  refine Gen.on (b := T1.setTop (mkF m 6 #[.val (.ref a1), .val (.int p2)] [(.ref a1)])) ?_ (fun t k => XS.aloadN X1.here hx rfl (hb hby d21_5) rfl rfl k)
  refine Gen.on (b := T1.setTop (mkF m 7 #[.val (.ref a1), .val (.int p2)] [(.int p2), (.ref a1)])) ?_ (fun t k => XS.iloadN X1.here hx rfl (hb hby d21_6) rfl k)
  obtain ⟨_, _, ⟨T2, L2, k2, n2⟩, -, X2, ⟨Lc2, hQ2, l2, y2, z2⟩, st2⟩ := Jvm.LawKit.callS X1 hx (y := (⟨"java/lang/StringUTF16", "getChar", "([BI)C"⟩ : MethodName)) hown (mvT hZ (hw _ (List.mem_of_getElem? (i := 87) rfl))) (mvT hZ (hw _ (List.mem_of_getElem? (i := 88) rfl))) (mvT hZ (hw _ (List.mem_of_getElem? (i := 22) rfl))) (mvT hZ (hw _ (List.mem_of_getElem? (i := 89) rfl))) (by decide) (backOf (W := 0) (rm20 l Z a0 hw [] a1 p2 zb yb i2 w0 f0 h0 n0 Z0 P0 P1 (sts) (hi2) (hn0) (hlt) (hn1) (hlt1)) hZ (hw _ (List.mem_of_getElem? (i := 89) rfl)) (hw _ (List.mem_of_getElem? (i := 22) rfl)) (by decide) (by decide)) (g := (mkF m 7 #[.val (.ref a1), .val (.int p2)] [(.int p2), (.ref a1)])) rfl (by rw [hml]; rfl) (argsL := [(.ref a1), (.int p2)]) (rest := []) (lenOf pd_21_1 rfl) rfl (by show 2 * 0 + _ ≤ _; exact Nat.le_of_eq rfl) (hb hby d21_7) (fun _ _ => ⟨rfl, e1, (by decide : 0 + 0 ≤ _), (by decide : 0 + 0 ≤ _)⟩)
  dsimp only [Pt.U, Pt.locs, Pt.cells, Pt.slots] at X2 l2 y2 z2 st2 hQ2
  subst l2 y2 z2
  obtain ⟨rfl, N2q, e2⟩ := hQ2
  have N2 := Fr.app N1 N2q
  refine Gen.on (b := T2.setTop (mkF m 10 #[.val (.ref a1), .val (.int p2)] [(.int (own_gc (yb i2) (yb (i2 + (1 : Int32)))))])) ?_ (fun t k => st2 t k)
  refine own_retN (t := .char) X2 hx Bd.returns (by simp) (own_nar_i2c _) (hb hby d21_10) (by decide) (by decide) ?_
  exact ⟨rfl, N2, e2⟩

theorem d13_0 : decode jdk_43_method_2_code 0 = .ok (.iload_n 1, 1) := by decide +kernel
theorem d13_1 : decode jdk_43_method_2_code 1 = .ok (.aload_n 0, 1) := by decide +kernel
theorem d13_2 : decode jdk_43_method_2_code 2 = .ok (.arraylength, 1) := by decide +kernel
theorem d13_3 : decode jdk_43_method_2_code 3 = .ok (.invokestatic 9, 3) := by decide +kernel
theorem d13_6 : decode jdk_43_method_2_code 6 = .ok (.aload_n 0, 1) := by decide +kernel
theorem d13_7 : decode jdk_43_method_2_code 7 = .ok (.iload_n 1, 1) := by decide +kernel
theorem d13_8 : decode jdk_43_method_2_code 8 = .ok (.baload, 1) := by decide +kernel
theorem d13_9 : decode jdk_43_method_2_code 9 = .ok (.sipush 255, 3) := by decide +kernel
theorem d13_12 : decode jdk_43_method_2_code 12 = .ok (.iand, 1) := by decide +kernel
theorem d13_13 : decode jdk_43_method_2_code 13 = .ok (.i2c, 1) := by decide +kernel
theorem d13_14 : decode jdk_43_method_2_code 14 = .ok (.ireturn, 1) := by decide +kernel
theorem pn_13 : plainName "java/lang/StringLatin1" = true := by first | (simp [plainName, overriddenIn]; done) | decide +kernel
theorem pd_13_0 : parseMethodDescriptor "(II)V" = some ⟨[.int, .int], none⟩ := by decide +kernel
theorem ef_13 (m : MethodId) (x0 : Addr) (x1 : Int32) : entryFrame m #[(.ref x0), (.int x1)] 2 = mkF m 0 #[.val (.ref x0), .val (.int x1)] [] := by first | (simp [entryFrame, mkF, argsToLocals, Value.category]; done) | rfl
def Q13 (Z : State) (a1 : Addr) (p2 : Int32) (zb : Int32) (yb : Int32 → Int32) (w0 : Int32) (f0 : Value) (h0 : Heap) (n0 : Nat) (v : Option Value) (h : Heap) (L : List Loc) : Prop := v = some (.int (own_lc (yb p2))) ∧ Fr n0 L ∧ h = h0
set_option maxRecDepth 65536 in
set_option maxHeartbeats 40000000 in
theorem rm13 (l : Launch) (Z : State) (a0 : Array Value) (hw : ∀ d ∈ tables_1, d.before a0 Z = true) (wds : List Jvm.Cond) (a1 : Addr) (p2 : Int32) (zb : Int32) (yb : Int32 → Int32) (w0 : Int32) (f0 : Value) (h0 : Heap) (n0 : Nat) (Z0 : n0 ≤ h0.size) (P0 : Afn Z h0 a1 .byte zb yb) (P1 : Old Z n0 h0) (hc0 : ¬ (p2 < (0 : Int32))) (hc1 : p2 < zb) (sts : Sts Z w0 f0) :
    MetFree l (⟨"java/lang/StringLatin1", "charAt", "([BI)C"⟩ : MethodName) (head1 (Jvm.Cond.code (⟨"java/lang/StringLatin1", "charAt", "([BI)C"⟩ : MethodName) jdk_43_method_2_code 2 (some .char) :: wds) ({ frames := 2, cells := 0, slots := 0, locals := 27 } : Room)) (fun a U => a = #[(.ref a1), (.int p2)] ∧ Z.Warmed39 U.vm ∧ U.heap = h0) (fun _ _ _ _ _ => True) (fun _ U o U' => ∃ v L, o = .returned v ∧ Q13 Z a1 p2 zb yb w0 f0 h0 n0 v U'.heap L ∧ FrameEnd U o U' L ({ frames := 2, cells := 0, slots := 0, locals := 27 } : Room).cells ({ frames := 2, cells := 0, slots := 0, locals := 27 } : Room).slots) := by
  refine MetFree.of_bodySF (plainFor_of_name pn_13) hisR ?_
  intro p e s m args below meth c s₁ Bd hml0 hP hK
  obtain ⟨rfl, hZ, hh⟩ := hP
  have hx := Bd.exec
  have hby := Bd.bytes
  have hml : c.maxLocals = 2 := hml0
  have hown : s.vm.findClass "java/lang/StringLatin1" = some m.cls := findClass_of_methodNamed Bd.named
  have hnm := (name_of_methodNamed Bd.named Bd.method).1
  have X0 : Stand p l e ({ frames := 2, cells := 0, slots := 0, locals := 27 } : Room) s m #[(.ref a1), (.int p2)] below meth c s₁ [] 0 0 := Stand.of_body Bd
  have e0 : s₁.heap = h0 := by rw [← hh, Bd.state]; rfl
  have N0 := Fr.nil n0
  refine own_start (Q := Q13 Z a1 p2 zb yb w0 f0 h0 n0) (C := ({ frames := 2, cells := 0, slots := 0, locals := 27 } : Room).cells) (S := ({ frames := 2, cells := 0, slots := 0, locals := 27 } : Room).slots) ?_
  rw [ef_13 m a1 p2]
  obtain ⟨SC, hw0, SF, hf0, SA, SH, SL⟩ := id sts
  refine Gen.on (b := s₁.setTop (mkF m 1 #[.val (.ref a1), .val (.int p2)] [(.int p2)])) ?_ (fun t k => XS.iloadN X0.here hx rfl (hb hby d13_0) rfl k)
  refine Gen.on (b := s₁.setTop (mkF m 2 #[.val (.ref a1), .val (.int p2)] [(.ref a1), (.int p2)])) ?_ (fun t k => XS.aloadN X0.here hx rfl (hb hby d13_1) rfl rfl k)
  obtain ⟨cl1, Ar1, SA1, NA1, HA1⟩ := id P0
  refine Gen.on (b := s₁.setTop (mkF m 3 #[.val (.ref a1), .val (.int p2)] [(.int zb), (.int p2)])) ?_ (fun t k => X0.arraylength hx (by rw [e0]; exact Ar1.1) (State.isArrayOf_alike hZ.alike Ar1.2.1) (g := (mkF m 2 #[.val (.ref a1), .val (.int p2)] [(.ref a1), (.int p2)])) rfl rfl (hb hby d13_2) t (by rw [len_of SA1 NA1]; exact k))
  obtain ⟨_, _, ⟨T2, L2, k2, n2⟩, -, X2, ⟨Lc2, hQ2, l2, y2, z2⟩, st2⟩ := Jvm.LawKit.callS X0 hx (y := (⟨"java/lang/String", "checkIndex", "(II)V"⟩ : MethodName)) hown (mvT hZ (hw _ (List.mem_of_getElem? (i := 63) rfl))) (mvT hZ (hw _ (List.mem_of_getElem? (i := 64) rfl))) (mvT hZ (hw _ (List.mem_of_getElem? (i := 8) rfl))) (mvT hZ (hw _ (List.mem_of_getElem? (i := 65) rfl))) (by decide) (backOf (W := 0) (rm14 l Z a0 hw [] p2 zb w0 f0 h0 n0 Z0 P1 hc0 hc1 (sts)) hZ (hw _ (List.mem_of_getElem? (i := 65) rfl)) (hw _ (List.mem_of_getElem? (i := 8) rfl)) (by decide) (by decide)) (g := (mkF m 3 #[.val (.ref a1), .val (.int p2)] [(.int zb), (.int p2)])) rfl (by rw [hml]; rfl) (argsL := [(.int p2), (.int zb)]) (rest := []) (lenOf pd_13_0 rfl) rfl (by show 2 * 0 + _ ≤ _; exact Nat.le_of_eq rfl) (hb hby d13_3) (fun _ _ => ⟨rfl, e0, (by decide : 0 + 0 ≤ _), (by decide : 0 + 0 ≤ _)⟩)
  dsimp only [Pt.U, Pt.locs, Pt.cells, Pt.slots] at X2 l2 y2 z2 st2 hQ2
  subst l2 y2 z2
  obtain ⟨rfl, N2q, e2⟩ := hQ2
  have N2 := Fr.app N0 N2q
  refine Gen.on (b := T2.setTop (mkF m 6 #[.val (.ref a1), .val (.int p2)] [])) ?_ (fun t k => st2 t k)
  refine Gen.on (b := T2.setTop (mkF m 7 #[.val (.ref a1), .val (.int p2)] [(.ref a1)])) ?_ (fun t k => XS.aloadN X2.here hx rfl (hb hby d13_6) rfl rfl k)
  refine Gen.on (b := T2.setTop (mkF m 8 #[.val (.ref a1), .val (.int p2)] [(.int p2), (.ref a1)])) ?_ (fun t k => XS.iloadN X2.here hx rfl (hb hby d13_7) rfl k)
  obtain ⟨cl3, Ar3, SA3, NA3, HA3⟩ := id P0
  have hin3 : ¬ (p2 < 0 ∨ cl3.slots.size ≤ (p2).toNatClampNeg) := inb_of SA3 ⟨hc0, hc1⟩
  refine Gen.on (b := T2.setTop (mkF m 9 #[.val (.ref a1), .val (.int p2)] [(.int (yb p2))])) ?_ (fun t k => X2.baloadBytes hx (j := p2) (v := (.int (yb p2))) (by rw [e2]; exact Ar3.1) (State.isArrayOf_alike hZ.alike Ar3.2.1) Ar3.2.2 hin3 (HA3 _ hin3) (g := (mkF m 8 #[.val (.ref a1), .val (.int p2)] [(.int p2), (.ref a1)])) rfl rfl (hb hby d13_8) t k)
  refine Gen.on (b := T2.setTop (mkF m 12 #[.val (.ref a1), .val (.int p2)] [(.int (255 : Int32)), (.int (yb p2))])) ?_ (fun t k => XS.sipush X2.here hx rfl (hb hby d13_9) k)
  refine Gen.on (b := T2.setTop (mkF m 13 #[.val (.ref a1), .val (.int p2)] [(.int ((yb p2) &&& (255 : Int32)))])) ?_ (fun t k => XS.iand X2.here hx rfl (hb hby d13_12) rfl k)
  refine Gen.on (b := T2.setTop (mkF m 14 #[.val (.ref a1), .val (.int p2)] [(.int ((yb p2) &&& (255 : Int32)).toUInt32.toUInt16.toUInt32.toInt32)])) ?_ (fun t k => XS.i2c X2.here hx rfl (hb hby d13_13) rfl k)
  refine own_retN (t := .char) X2 hx Bd.returns (by simp) (own_nar_i2c _) (hb hby d13_14) (by decide) (by decide) ?_
  exact ⟨rfl, N2, e2⟩

theorem d10_0 : decode jdk_42_method_152_code 0 = .ok (.getstatic 38, 3) := by decide +kernel
theorem d10_3 : decode jdk_42_method_152_code 3 = .ok (.ifCond .eq 10, 3) := by decide +kernel
theorem d10_6 : decode jdk_42_method_152_code 6 = .ok (.aload_n 0, 1) := by decide +kernel
theorem d10_7 : decode jdk_42_method_152_code 7 = .ok (.getfield 15, 3) := by decide +kernel
theorem d10_10 : decode jdk_42_method_152_code 10 = .ok (.goto 4, 3) := by decide +kernel
theorem d10_14 : decode jdk_42_method_152_code 14 = .ok (.ireturn, 1) := by decide +kernel
theorem pn_10 : plainName "java/lang/String" = true := by first | (simp [plainName, overriddenIn]; done) | decide +kernel
theorem ef_10 (m : MethodId) (x0 : Addr) : entryFrame m #[(.ref x0)] 1 = mkF m 0 #[.val (.ref x0)] [] := by first | (simp [entryFrame, mkF, argsToLocals, Value.category]; done) | rfl
def Q10 (Z : State) (a1 : Addr) (w1 : Int32) (w0 : Int32) (f0 : Value) (h0 : Heap) (n0 : Nat) (v : Option Value) (h : Heap) (L : List Loc) : Prop := v = some (.int w1) ∧ Fr n0 L ∧ h = h0
set_option maxRecDepth 65536 in
set_option maxHeartbeats 40000000 in
theorem rm10 (l : Launch) (Z : State) (a0 : Array Value) (hw : ∀ d ∈ tables_1, d.before a0 Z = true) (wds : List Jvm.Cond) (a1 : Addr) (w1 : Int32) (w0 : Int32) (f0 : Value) (h0 : Heap) (n0 : Nat) (Z0 : n0 ≤ h0.size) (P0 : Exa Z h0 a1 "java/lang/String") (P1 : Fld Z h0 a1 "java/lang/String" "coder" "B" (.int w1)) (P2 : Old Z n0 h0) (sts : Sts Z w0 f0) (hnb : nar .byte w1 = w1) :
    MetFree l (⟨"java/lang/String", "coder", "()B"⟩ : MethodName) (head1 (Jvm.Cond.code (⟨"java/lang/String", "coder", "()B"⟩ : MethodName) jdk_42_method_152_code 1 (some .byte) :: wds) ({ frames := 0, cells := 0, slots := 0, locals := 0 } : Room)) (fun a U => a = #[(.ref a1)] ∧ Z.Warmed39 U.vm ∧ U.heap = h0) (fun _ _ _ _ _ => True) (fun _ U o U' => ∃ v L, o = .returned v ∧ Q10 Z a1 w1 w0 f0 h0 n0 v U'.heap L ∧ FrameEnd U o U' L ({ frames := 0, cells := 0, slots := 0, locals := 0 } : Room).cells ({ frames := 0, cells := 0, slots := 0, locals := 0 } : Room).slots) := by
  refine MetFree.of_bodySF (plainFor_of_name pn_10) hisR ?_
  intro p e s m args below meth c s₁ Bd hml0 hP hK
  obtain ⟨rfl, hZ, hh⟩ := hP
  have hx := Bd.exec
  have hby := Bd.bytes
  have hml : c.maxLocals = 1 := hml0
  have hown : s.vm.findClass "java/lang/String" = some m.cls := findClass_of_methodNamed Bd.named
  have hnm := (name_of_methodNamed Bd.named Bd.method).1
  have X0 : Stand p l e ({ frames := 0, cells := 0, slots := 0, locals := 0 } : Room) s m #[(.ref a1)] below meth c s₁ [] 0 0 := Stand.of_body Bd
  have e0 : s₁.heap = h0 := by rw [← hh, Bd.state]; rfl
  have N0 := Fr.nil n0
  refine own_start (Q := Q10 Z a1 w1 w0 f0 h0 n0) (C := ({ frames := 0, cells := 0, slots := 0, locals := 0 } : Room).cells) (S := ({ frames := 0, cells := 0, slots := 0, locals := 0 } : Room).slots) ?_
  rw [ef_10 m a1]
  obtain ⟨SC, hw0, SF, hf0, SA, SH, SL⟩ := id sts
  have fa2 := Sta.ext P2.2 SC
  obtain ⟨T1, X1, e1, st1⟩ := getS2 X0 hx hZ hown (host := "") (Or.inl (hw _ (List.mem_of_getElem? (i := 19) rfl))) Via.refl e0 fa2 (g := (mkF m 0 #[.val (.ref a1)] [])) rfl (hb hby d10_0)
  refine Gen.on (b := T1.setTop (mkF m 3 #[.val (.ref a1)] [(.int w0)])) ?_ (fun t k => st1 t k)
  refine Gen.on (b := T1.setTop (mkF m 6 #[.val (.ref a1)] [])) ?_ (fun t k => XS.ifNo X1.here hx rfl (hb hby d10_3) rfl ((if0 _ _).trans (feq hw0).1) k)
  refine Gen.on (b := T1.setTop (mkF m 7 #[.val (.ref a1)] [(.ref a1)])) ?_ (fun t k => XS.aloadN X1.here hx rfl (hb hby d10_6) rfl rfl k)
  obtain ⟨T3, X3, e3, st3⟩ := getF X1 hx hZ hown (host := "") (Or.inl (hw _ (List.mem_of_getElem? (i := 31) rfl))) Via.refl e1 P1 (g := (mkF m 7 #[.val (.ref a1)] [(.ref a1)])) rfl rfl (hb hby d10_7)
  refine Gen.on (b := T3.setTop (mkF m 10 #[.val (.ref a1)] [(.int w1)])) ?_ (fun t k => st3 t k)
  refine Gen.on (b := T3.setTop (mkF m 14 #[.val (.ref a1)] [(.int w1)])) ?_ (fun t k => XS.goto X3.here hx rfl (pc0 := 10) (pc' := 14) rfl (hb hby d10_10) (by decide) (by decide) k)
  refine own_retN (t := .byte) X3 hx Bd.returns (by simp) hnb (hb hby d10_14) (by decide) (by decide) ?_
  exact ⟨rfl, N0, e3⟩
def own_l1 (w : Int32) : Int32 := if w = (0 : Int32) then (1 : Int32) else (0 : Int32)
theorem d12_0 : decode jdk_42_method_154_code 0 = .ok (.getstatic 38, 3) := by decide +kernel
theorem d12_3 : decode jdk_42_method_154_code 3 = .ok (.ifCond .eq 14, 3) := by decide +kernel
theorem d12_6 : decode jdk_42_method_154_code 6 = .ok (.aload_n 0, 1) := by decide +kernel
theorem d12_7 : decode jdk_42_method_154_code 7 = .ok (.getfield 15, 3) := by decide +kernel
theorem d12_10 : decode jdk_42_method_154_code 10 = .ok (.ifCond .ne 7, 3) := by decide +kernel
theorem d12_13 : decode jdk_42_method_154_code 13 = .ok (.iconst 1, 1) := by decide +kernel
theorem d12_14 : decode jdk_42_method_154_code 14 = .ok (.goto 4, 3) := by decide +kernel
theorem d12_17 : decode jdk_42_method_154_code 17 = .ok (.iconst 0, 1) := by decide +kernel
theorem d12_18 : decode jdk_42_method_154_code 18 = .ok (.ireturn, 1) := by decide +kernel
theorem pn_12 : plainName "java/lang/String" = true := by first | (simp [plainName, overriddenIn]; done) | decide +kernel
theorem ef_12 (m : MethodId) (x0 : Addr) : entryFrame m #[(.ref x0)] 1 = mkF m 0 #[.val (.ref x0)] [] := by first | (simp [entryFrame, mkF, argsToLocals, Value.category]; done) | rfl
def Q12 (Z : State) (a1 : Addr) (w1 : Int32) (w0 : Int32) (f0 : Value) (h0 : Heap) (n0 : Nat) (v : Option Value) (h : Heap) (L : List Loc) : Prop := v = some (.int (own_l1 w1)) ∧ Fr n0 L ∧ h = h0
set_option maxRecDepth 65536 in
set_option maxHeartbeats 40000000 in
theorem rm12 (l : Launch) (Z : State) (a0 : Array Value) (hw : ∀ d ∈ tables_1, d.before a0 Z = true) (wds : List Jvm.Cond) (a1 : Addr) (w1 : Int32) (w0 : Int32) (f0 : Value) (h0 : Heap) (n0 : Nat) (Z0 : n0 ≤ h0.size) (P0 : Exa Z h0 a1 "java/lang/String") (P1 : Fld Z h0 a1 "java/lang/String" "coder" "B" (.int w1)) (P2 : Old Z n0 h0) (sts : Sts Z w0 f0) :
    MetFree l (⟨"java/lang/String", "isLatin1", "()Z"⟩ : MethodName) (head1 (Jvm.Cond.code (⟨"java/lang/String", "isLatin1", "()Z"⟩ : MethodName) jdk_42_method_154_code 1 (some .boolean) :: wds) ({ frames := 0, cells := 0, slots := 0, locals := 0 } : Room)) (fun a U => a = #[(.ref a1)] ∧ Z.Warmed39 U.vm ∧ U.heap = h0) (fun _ _ _ _ _ => True) (fun _ U o U' => ∃ v L, o = .returned v ∧ Q12 Z a1 w1 w0 f0 h0 n0 v U'.heap L ∧ FrameEnd U o U' L ({ frames := 0, cells := 0, slots := 0, locals := 0 } : Room).cells ({ frames := 0, cells := 0, slots := 0, locals := 0 } : Room).slots) := by
  refine MetFree.of_bodySF (plainFor_of_name pn_12) hisR ?_
  intro p e s m args below meth c s₁ Bd hml0 hP hK
  obtain ⟨rfl, hZ, hh⟩ := hP
  have hx := Bd.exec
  have hby := Bd.bytes
  have hml : c.maxLocals = 1 := hml0
  have hown : s.vm.findClass "java/lang/String" = some m.cls := findClass_of_methodNamed Bd.named
  have hnm := (name_of_methodNamed Bd.named Bd.method).1
  have X0 : Stand p l e ({ frames := 0, cells := 0, slots := 0, locals := 0 } : Room) s m #[(.ref a1)] below meth c s₁ [] 0 0 := Stand.of_body Bd
  have e0 : s₁.heap = h0 := by rw [← hh, Bd.state]; rfl
  have N0 := Fr.nil n0
  refine own_start (Q := Q12 Z a1 w1 w0 f0 h0 n0) (C := ({ frames := 0, cells := 0, slots := 0, locals := 0 } : Room).cells) (S := ({ frames := 0, cells := 0, slots := 0, locals := 0 } : Room).slots) ?_
  rw [ef_12 m a1]
  obtain ⟨SC, hw0, SF, hf0, SA, SH, SL⟩ := id sts
  have fa2 := Sta.ext P2.2 SC
  obtain ⟨T1, X1, e1, st1⟩ := getS2 X0 hx hZ hown (host := "") (Or.inl (hw _ (List.mem_of_getElem? (i := 19) rfl))) Via.refl e0 fa2 (g := (mkF m 0 #[.val (.ref a1)] [])) rfl (hb hby d12_0)
  refine Gen.on (b := T1.setTop (mkF m 3 #[.val (.ref a1)] [(.int w0)])) ?_ (fun t k => st1 t k)
  refine Gen.on (b := T1.setTop (mkF m 6 #[.val (.ref a1)] [])) ?_ (fun t k => XS.ifNo X1.here hx rfl (hb hby d12_3) rfl ((if0 _ _).trans (feq hw0).1) k)
  refine Gen.on (b := T1.setTop (mkF m 7 #[.val (.ref a1)] [(.ref a1)])) ?_ (fun t k => XS.aloadN X1.here hx rfl (hb hby d12_6) rfl rfl k)
  obtain ⟨T3, X3, e3, st3⟩ := getF X1 hx hZ hown (host := "") (Or.inl (hw _ (List.mem_of_getElem? (i := 31) rfl))) Via.refl e1 P1 (g := (mkF m 7 #[.val (.ref a1)] [(.ref a1)])) rfl rfl (hb hby d12_7)
  refine Gen.on (b := T3.setTop (mkF m 10 #[.val (.ref a1)] [(.int w1)])) ?_ (fun t k => st3 t k)
  by_cases c10_1 : w1 = (0 : Int32)
  · refine Gen.on (b := T3.setTop (mkF m 13 #[.val (.ref a1)] [])) ?_ (fun t k => XS.ifNo X3.here hx rfl (hb hby d12_10) rfl ((if0 _ _).trans (teq c10_1).2) k)
    refine Gen.on (b := T3.setTop (mkF m 14 #[.val (.ref a1)] [(.int (1 : Int32))])) ?_ (fun t k => XS.iconst X3.here hx rfl (hb hby d12_13) k)
    refine Gen.on (b := T3.setTop (mkF m 18 #[.val (.ref a1)] [(.int (1 : Int32))])) ?_ (fun t k => XS.goto X3.here hx rfl (pc0 := 14) (pc' := 18) rfl (hb hby d12_14) (by decide) (by decide) k)
    refine own_retN (t := .boolean) X3 hx Bd.returns (by simp) (by decide) (hb hby d12_18) (by decide) (by decide) ?_
    exact ⟨(by simp only [own_l1, if_pos c10_1]), N0, e3⟩
  · refine Gen.on (b := T3.setTop (mkF m 17 #[.val (.ref a1)] [])) ?_ (fun t k => XS.ifYes X3.here hx rfl (pc0 := 10) (pc' := 17) rfl (hb hby d12_10) rfl ((if0 _ _).trans (feq c10_1).2) (by decide) (by decide) k)
    refine Gen.on (b := T3.setTop (mkF m 18 #[.val (.ref a1)] [(.int (0 : Int32))])) ?_ (fun t k => XS.iconst X3.here hx rfl (hb hby d12_17) k)
    refine own_retN (t := .boolean) X3 hx Bd.returns (by simp) (by decide) (hb hby d12_18) (by decide) (by decide) ?_
    exact ⟨(by simp only [own_l1, if_neg c10_1]), N0, e3⟩

theorem d9_0 : decode jdk_42_method_54_code 0 = .ok (.aload_n 0, 1) := by decide +kernel
theorem d9_1 : decode jdk_42_method_54_code 1 = .ok (.getfield 9, 3) := by decide +kernel
theorem d9_4 : decode jdk_42_method_54_code 4 = .ok (.arraylength, 1) := by decide +kernel
theorem d9_5 : decode jdk_42_method_54_code 5 = .ok (.aload_n 0, 1) := by decide +kernel
theorem d9_6 : decode jdk_42_method_54_code 6 = .ok (.invokevirtual 335, 3) := by decide +kernel
theorem d9_9 : decode jdk_42_method_54_code 9 = .ok (.ishr, 1) := by decide +kernel
theorem d9_10 : decode jdk_42_method_54_code 10 = .ok (.ireturn, 1) := by decide +kernel
theorem pn_9 : plainName "java/lang/String" = true := by first | (simp [plainName, overriddenIn]; done) | decide +kernel
theorem pd_9_0 : parseMethodDescriptor "()B" = some ⟨[], some .byte⟩ := by decide +kernel
theorem ef_9 (m : MethodId) (x0 : Addr) : entryFrame m #[(.ref x0)] 1 = mkF m 0 #[.val (.ref x0)] [] := by first | (simp [entryFrame, mkF, argsToLocals, Value.category]; done) | rfl
def Q9 (Z : State) (a1 : Addr) (a2 : Addr) (w1 : Int32) (zb : Int32) (yb : Int32 → Int32) (zc : Int32) (w0 : Int32) (f0 : Value) (h0 : Heap) (n0 : Nat) (v : Option Value) (h : Heap) (L : List Loc) : Prop := v = some (.int zc) ∧ Fr n0 L ∧ h = h0
set_option maxRecDepth 65536 in
set_option maxHeartbeats 40000000 in
theorem rm9 (l : Launch) (Z : State) (a0 : Array Value) (hw : ∀ d ∈ tables_1, d.before a0 Z = true) (wds : List Jvm.Cond) (a1 : Addr) (a2 : Addr) (w1 : Int32) (zb : Int32) (yb : Int32 → Int32) (zc : Int32) (w0 : Int32) (f0 : Value) (h0 : Heap) (n0 : Nat) (Z0 : n0 ≤ h0.size) (P0 : Exa Z h0 a1 "java/lang/String") (P1 : Fld Z h0 a1 "java/lang/String" "value" "[B" (.ref a2)) (P2 : Fld Z h0 a1 "java/lang/String" "coder" "B" (.int w1)) (P3 : Afn Z h0 a2 .byte zb yb) (P4 : Old Z n0 h0) (sts : Sts Z w0 f0) (hnb : nar .byte w1 = w1) (hzc : (zb >>> (w1 &&& 31)) = zc) :
    MetFree l (⟨"java/lang/String", "length", "()I"⟩ : MethodName) (head1 (Jvm.Cond.code (⟨"java/lang/String", "length", "()I"⟩ : MethodName) jdk_42_method_54_code 1 (some .int) :: wds) ({ frames := 1, cells := 0, slots := 0, locals := 13 } : Room)) (fun a U => a = #[(.ref a1)] ∧ Z.Warmed39 U.vm ∧ U.heap = h0) (fun _ _ _ _ _ => True) (fun _ U o U' => ∃ v L, o = .returned v ∧ Q9 Z a1 a2 w1 zb yb zc w0 f0 h0 n0 v U'.heap L ∧ FrameEnd U o U' L ({ frames := 1, cells := 0, slots := 0, locals := 13 } : Room).cells ({ frames := 1, cells := 0, slots := 0, locals := 13 } : Room).slots) := by
  refine MetFree.of_bodySF (plainFor_of_name pn_9) hisR ?_
  intro p e s m args below meth c s₁ Bd hml0 hP hK
  obtain ⟨rfl, hZ, hh⟩ := hP
  have hx := Bd.exec
  have hby := Bd.bytes
  have hml : c.maxLocals = 1 := hml0
  have hown : s.vm.findClass "java/lang/String" = some m.cls := findClass_of_methodNamed Bd.named
  have hnm := (name_of_methodNamed Bd.named Bd.method).1
  have X0 : Stand p l e ({ frames := 1, cells := 0, slots := 0, locals := 13 } : Room) s m #[(.ref a1)] below meth c s₁ [] 0 0 := Stand.of_body Bd
  have e0 : s₁.heap = h0 := by rw [← hh, Bd.state]; rfl
  have N0 := Fr.nil n0
  refine own_start (Q := Q9 Z a1 a2 w1 zb yb zc w0 f0 h0 n0) (C := ({ frames := 1, cells := 0, slots := 0, locals := 13 } : Room).cells) (S := ({ frames := 1, cells := 0, slots := 0, locals := 13 } : Room).slots) ?_
  rw [ef_9 m a1]
  obtain ⟨SC, hw0, SF, hf0, SA, SH, SL⟩ := id sts
  refine Gen.on (b := s₁.setTop (mkF m 1 #[.val (.ref a1)] [(.ref a1)])) ?_ (fun t k => XS.aloadN X0.here hx rfl (hb hby d9_0) rfl rfl k)
  obtain ⟨T1, X1, e1, st1⟩ := getF X0 hx hZ hown (host := "") (Or.inl (hw _ (List.mem_of_getElem? (i := 33) rfl))) Via.refl e0 P1 (g := (mkF m 1 #[.val (.ref a1)] [(.ref a1)])) rfl rfl (hb hby d9_1)
  refine Gen.on (b := T1.setTop (mkF m 4 #[.val (.ref a1)] [(.ref a2)])) ?_ (fun t k => st1 t k)
  obtain ⟨cl2, Ar2, SA2, NA2, HA2⟩ := id P3
  refine Gen.on (b := T1.setTop (mkF m 5 #[.val (.ref a1)] [(.int zb)])) ?_ (fun t k => X1.arraylength hx (by rw [e1]; exact Ar2.1) (State.isArrayOf_alike hZ.alike Ar2.2.1) (g := (mkF m 4 #[.val (.ref a1)] [(.ref a2)])) rfl rfl (hb hby d9_4) t (by rw [len_of SA2 NA2]; exact k))
  refine Gen.on (b := T1.setTop (mkF m 6 #[.val (.ref a1)] [(.ref a1), (.int zb)])) ?_ (fun t k => XS.aloadN X1.here hx rfl (hb hby d9_5) rfl rfl k)
  obtain ⟨cq3, kq3, q3a, q3b, q3c⟩ := isOf hZ e1 P0
  obtain ⟨_, _, ⟨T3, L3, k3, n3⟩, -, X3, ⟨Lc3, hQ3, l3, y3, z3⟩, st3⟩ := X1.virtualBack hx (y := (⟨"java/lang/String", "coder", "()B"⟩ : MethodName)) (z := (⟨"java/lang/String", "coder", "()B"⟩ : MethodName)) hown (mvT hZ (hw _ (List.mem_of_getElem? (i := 44) rfl))) (mvT hZ (hw _ (List.mem_of_getElem? (i := 45) rfl))) (notFace_of_selects (args := #[]) (mvT hZ (hw _ (List.mem_of_getElem? (i := 47) rfl)))) (mvT hZ (hw _ (List.mem_of_getElem? (i := 47) rfl))) (mvT hZ (hw _ (List.mem_of_getElem? (i := 46) rfl))) (by decide) (backOf (W := 1) (rm10 l Z a0 hw [] a1 w1 w0 f0 h0 n0 Z0 P0 P2 P4 (sts) (hnb)) hZ (hw _ (List.mem_of_getElem? (i := 48) rfl)) (hw _ (List.mem_of_getElem? (i := 8) rfl)) (by decide) (by decide)) q3a q3c (g := (mkF m 6 #[.val (.ref a1)] [(.ref a1), (.int zb)])) rfl (by rw [hml]; rfl) (Steps.refl _) (argsL := []) (rest := [(.int zb)]) (lenOf pd_9_0 rfl) rfl (by show 2 * 0 + _ ≤ _; exact Nat.le_of_eq rfl) (hb hby d9_6) (fun _ _ => ⟨rfl, e1, (by decide : 0 + 0 ≤ _), (by decide : 0 + 0 ≤ _)⟩)
  dsimp only [Pt.U, Pt.locs, Pt.cells, Pt.slots] at X3 l3 y3 z3 st3 hQ3
  subst l3 y3 z3
  obtain ⟨rfl, N3q, e3⟩ := hQ3
  have N3 := Fr.app N0 N3q
  refine Gen.on (b := T3.setTop (mkF m 9 #[.val (.ref a1)] [(.int w1), (.int zb)])) ?_ (fun t k => st3.trans k)
  refine Gen.on (b := T3.setTop (mkF m 10 #[.val (.ref a1)] [(.int (zb >>> (w1 &&& 31)))])) ?_ (fun t k => XS.ishr X3.here hx rfl (hb hby d9_9) rfl k)
  refine own_retI X3 hx Bd.returns (hb hby d9_10) (by decide) (by decide) ?_
  exact ⟨(by rw [hzc]), N3, e3⟩

theorem own_e0 : (0 : Int32).toInt = 0 := by decide +kernel
theorem own_e1 : (1 : Int32).toInt = 1 := by decide +kernel
/-- one turn more: i is in the range, so i + 1 doesn't wrap -/
theorem own_inc {i p : Int32} (h0 : ¬ i < 0) (hl : i < p) : (i + (1 : Int32)).toInt = i.toInt + 1 := by
  have hp := p.toInt_lt
  rw [Int32.lt_iff_toInt_lt] at h0 hl
  rw [own_e0] at h0
  rw [Jvm.Kit.i32_add (by rw [own_e1]; omega) (by rw [own_e1]; omega), own_e1]
theorem own_step {i p : Int32} {kk : Nat} (h0 : ¬ i < 0) (hl : i < p) (hm : p.toInt - i.toInt ≤ ((kk + 1 : Nat) : Int)) : ¬ (i + (1 : Int32)) < 0 ∧ ¬ p < (i + (1 : Int32)) ∧ p.toInt - (i + (1 : Int32)).toInt ≤ (kk : Int) := by
  have e := own_inc h0 hl
  rw [Int32.lt_iff_toInt_lt] at h0 hl ⊢
  rw [Int32.lt_iff_toInt_lt, e, own_e0] at *
  omega
theorem own_ltS {i j p : Int32} (h0 : ¬ i < 0) (hl : i < p) (hj : j < (i + (1 : Int32))) : j = i ∨ j < i := by
  have e := own_inc h0 hl
  rw [Int32.lt_iff_toInt_lt, e] at hj
  by_cases h : j.toInt = i.toInt
  · exact Or.inl (Int32.toInt_inj.mp h)
  · right; rw [Int32.lt_iff_toInt_lt]; omega
theorem own_top {i p : Int32} (h : ¬ i < p) (g : ¬ p < i) : i = p := by
  rw [Int32.lt_iff_toInt_lt] at h g; exact Int32.toInt_inj.mp (by omega)
theorem own_z0 {i p : Int32} (hm : p.toInt - i.toInt ≤ ((0 : Nat) : Int)) : ¬ i < p := by
  rw [Int32.lt_iff_toInt_lt]; omega
theorem own_os6 {z0 z1 z2 z3 z4 z5 : Value} {s6 : Slot} {v : Int32} (h : One s6) : storeLocals #[.val z0, .val z1, .val z2, .val z3, .val z4, .val z5, s6] 6 (.int v) = some #[.val z0, .val z1, .val z2, .val z3, .val z4, .val z5, .val (.int v)] := by
  rcases h with rfl | ⟨w, rfl, hw⟩
  · rfl
  · cases w <;> first | rfl | (simp [Value.category] at hw)
theorem own_os3 {z0 z1 z2 : Value} {s3 : Slot} {v : Int32} (h : One s3) : storeLocals #[.val z0, .val z1, .val z2, s3] 3 (.int v) = some #[.val z0, .val z1, .val z2, .val (.int v)] := by
  rcases h with rfl | ⟨w, rfl, hw⟩
  · rfl
  · cases w <;> first | rfl | (simp [Value.category] at hw)
abbrev own_d (j : Int32) : Int32 := j <<< ((1 : Int32) &&& 31)
theorem own_d_i {j : Int32} (h0 : ¬ j < 0) (h1 : j.toInt < 1000) : (own_d j).toInt = 2 * j.toInt := by
  rw [Int32.lt_iff_toInt_lt, own_e0] at h0
  rw [show own_d j = j <<< ((1 : Int32) &&& 31) from rfl, Jvm.Kit.i32_shl j _ (k := 1) (by decide +kernel) (by omega) (by omega)]
  omega
theorem own_d1_i {j : Int32} (h0 : ¬ j < 0) (h1 : j.toInt < 1000) : (own_d j + (1 : Int32)).toInt = 2 * j.toInt + 1 := by
  have e := own_d_i h0 h1
  rw [Int32.lt_iff_toInt_lt, own_e0] at h0
  rw [Jvm.Kit.i32_add (by rw [e, own_e1]; omega) (by rw [e, own_e1]; omega), e, own_e1]
theorem own_dr {i z z2 : Int32} (h0 : ¬ i < 0) (hl : i < z) (h2 : z2.toInt = 2 * z.toInt) (hz : z.toInt < 1000) : ¬ own_d i < 0 ∧ own_d i < z2 ∧ ¬ (own_d i + (1 : Int32)) < 0 ∧ (own_d i + (1 : Int32)) < z2 := by
  have hi : i.toInt < 1000 := by rw [Int32.lt_iff_toInt_lt] at hl; omega
  have e := own_d_i h0 hi
  have e1 := own_d1_i h0 hi
  rw [Int32.lt_iff_toInt_lt] at h0 hl
  rw [own_e0] at h0
  simp only [Int32.lt_iff_toInt_lt, e, e1, own_e0]
  omega
theorem own_nar_b (x : Int32) : nar .byte x.toInt8.toInt32 = x.toInt8.toInt32 := by simp [nar]
/-- the low byte, masked, is the number modulo 256 -/
theorem own_mask8 (x : Int32) : ((nar .byte x.toInt8.toInt32) &&& (255 : Int32)) = x &&& (255 : Int32) := by
  rw [own_nar_b]
  apply Int32.toBitVec_inj.mp
  simp only [Int32.toBitVec_and, Int8.toBitVec_toInt32, Int32.toBitVec_toInt8]
  generalize x.toBitVec = v
  have e : (255 : Int32).toBitVec = 255#32 := rfl
  rw [e]
  apply BitVec.eq_of_getLsbD_eq
  intro i hi
  simp only [BitVec.getLsbD_and, BitVec.getLsbD_signExtend, BitVec.getLsbD_setWidth, BitVec.getLsbD_ofNat]
  by_cases h : i < 8
  · simp [h, hi]
  · have : Nat.testBit 255 i = false := Nat.testBit_lt_two_pow (Nat.lt_of_lt_of_le (by decide : 255 < 2 ^ 8) (Nat.pow_le_pow_right (by decide) (Nat.le_of_not_lt h)))
    simp [this]
theorem own_i2c_id {x : Int32} (h0 : ¬ x < 0) (h1 : ¬ (65535 : Int32) < x) : own_i2c x = x := by
  rw [Int32.lt_iff_toInt_lt] at h0 h1
  have e5 : (65535 : Int32).toInt = 65535 := by decide +kernel
  rw [own_e0] at h0
  rw [e5] at h1
  apply Int32.toBitVec_inj.mp
  have hn : x.toBitVec.toNat < 65536 := by
    have q := Int32.toInt_toBitVec x
    rw [BitVec.toInt_eq_toNat_cond] at q
    have := x.toBitVec.isLt
    split at q <;> omega
  simp only [own_i2c, UInt32.toBitVec_toInt32, UInt16.toBitVec_toUInt32, UInt32.toBitVec_toUInt16, Int32.toBitVec_toUInt32]
  apply BitVec.eq_of_toNat_eq
  simp only [BitVec.toNat_setWidth]
  omega
theorem own_lat {c : Int32} (h0 : ¬ c < 0) (h1 : ¬ (255 : Int32) < c) : own_lc (own_b c) = c := by
  have e2 : (255 : Int32).toInt = 255 := by decide +kernel
  have e5 : (65535 : Int32).toInt = 65535 := by decide +kernel
  have m : (c &&& (255 : Int32)) = c := by
    apply Int32.toInt_inj.mp
    rw [Jvm.Kit.i32_mask c 255 (k := 8) (by decide) (by decide)]
    rw [Int32.lt_iff_toInt_lt] at h0 h1
    rw [own_e0] at h0; rw [e2] at h1
    omega
  unfold own_lc own_b
  rw [own_mask8, m]
  exact own_i2c_id h0 (by rw [Int32.lt_iff_toInt_lt] at h1 ⊢; rw [e2] at h1; rw [e5]; omega)
theorem own_utf {c : Int32} (h0 : ¬ c < 0) (h1 : ¬ (65535 : Int32) < c) : own_gc (own_lo c) (own_hi c) = c := by
  have e5 : (65535 : Int32).toInt = 65535 := by decide +kernel
  have g0 := h0
  have g1 := h1
  rw [Int32.lt_iff_toInt_lt, own_e0] at h0
  rw [Int32.lt_iff_toInt_lt, e5] at h1
  have s0 : (c >>> ((0 : Int32) &&& 31)) = c := by
    apply Int32.toInt_inj.mp
    rw [Jvm.Kit.i32_shr c _ (k := 0) (by decide +kernel)]; omega
  have s8 : (c >>> ((8 : Int32) &&& 31)).toInt = c.toInt / 256 := by
    rw [Jvm.Kit.i32_shr c _ (k := 8) (by decide +kernel), show (2 : Int) ^ 8 = 256 by decide]
  have l0 : ((c &&& (255 : Int32)) <<< ((0 : Int32) &&& 31)).toInt = c.toInt % 256 := by
    have m := Jvm.Kit.i32_mask c 255 (k := 8) (by decide) (by decide)
    rw [Jvm.Kit.i32_shl _ _ (k := 0) (by decide +kernel) (by rw [m]; omega) (by rw [m]; omega), m]; omega
  have l8 : (((c >>> ((8 : Int32) &&& 31)) &&& (255 : Int32)) <<< ((8 : Int32) &&& 31)).toInt = c.toInt / 256 * 256 := by
    have m := Jvm.Kit.i32_mask (c >>> ((8 : Int32) &&& 31)) 255 (k := 8) (by decide) (by decide)
    rw [s8] at m
    rw [Jvm.Kit.i32_shl _ _ (k := 8) (by decide +kernel) (by rw [m]; omega) (by rw [m]; omega), m]; omega
  unfold own_gc own_lo own_hi
  rw [own_mask8, own_mask8, s0]
  generalize ((c &&& (255 : Int32)) <<< ((0 : Int32) &&& 31)) = A at *
  generalize (((c >>> ((8 : Int32) &&& 31)) &&& (255 : Int32)) <<< ((8 : Int32) &&& 31)) = B at *
  have or1 : A ||| B = c := by
    have nn : ∀ {x : Int32} {n : Nat}, x.toInt = (n : Int) → n < 65536 → x.toBitVec.toNat = n := fun {x n} h hn => by
      have q := Int32.toInt_toBitVec x
      rw [BitVec.toInt_eq_toNat_cond] at q
      have := x.toBitVec.isLt
      split at q <;> omega
    have a1 := nn (x := A) (n := (c.toInt % 256).toNat) (by omega) (by omega)
    have b1 := nn (x := B) (n := (c.toInt / 256).toNat * 256) (by omega) (by omega)
    have c1 := nn (x := c) (n := c.toInt.toNat) (by omega) (by omega)
    apply Int32.toBitVec_inj.mp
    apply BitVec.eq_of_toNat_eq
    rw [Int32.toBitVec_or, BitVec.toNat_or, a1, b1, c1, Nat.or_comm]
    have q := Nat.shiftLeft_add_eq_or_of_lt (i := 8) (b := (c.toInt % 256).toNat) (by omega) ((c.toInt / 256).toNat)
    rw [Nat.shiftLeft_eq] at q
    rw [show (256 : Nat) = 2 ^ 8 by decide, ← q]
    omega
  rw [or1]
  exact own_i2c_id g0 g1

theorem own_nnz {z : Int32} (h : ¬ z < 0) : 0 ≤ z.toInt - (0 : Int32).toInt := by rw [Int32.lt_iff_toInt_lt, own_e0] at h; rw [own_e0]; omega
theorem d6_0 : decode jdk_52_method_21_code 0 = .ok (.iconst 0, 1) := by decide +kernel
theorem d6_1 : decode jdk_52_method_21_code 1 = .ok (.istore 5, 2) := by decide +kernel
theorem d6_3 : decode jdk_52_method_21_code 3 = .ok (.iload 5, 2) := by decide +kernel
theorem d6_5 : decode jdk_52_method_21_code 5 = .ok (.iload 4, 2) := by decide +kernel
theorem d6_7 : decode jdk_52_method_21_code 7 = .ok (.if_icmp .ge 37, 3) := by decide +kernel
theorem d6_10 : decode jdk_52_method_21_code 10 = .ok (.aload_n 0, 1) := by decide +kernel
theorem d6_11 : decode jdk_52_method_21_code 11 = .ok (.iload_n 1, 1) := by decide +kernel
theorem d6_12 : decode jdk_52_method_21_code 12 = .ok (.caload, 1) := by decide +kernel
theorem d6_13 : decode jdk_52_method_21_code 13 = .ok (.istore 6, 2) := by decide +kernel
theorem d6_15 : decode jdk_52_method_21_code 15 = .ok (.iload 6, 2) := by decide +kernel
theorem d6_17 : decode jdk_52_method_21_code 17 = .ok (.sipush 255, 3) := by decide +kernel
theorem d6_20 : decode jdk_52_method_21_code 20 = .ok (.if_icmp .le 6, 3) := by decide +kernel
theorem d6_23 : decode jdk_52_method_21_code 23 = .ok (.iload 5, 2) := by decide +kernel
theorem d6_25 : decode jdk_52_method_21_code 25 = .ok (.ireturn, 1) := by decide +kernel
theorem d6_26 : decode jdk_52_method_21_code 26 = .ok (.aload_n 2, 1) := by decide +kernel
theorem d6_27 : decode jdk_52_method_21_code 27 = .ok (.iload_n 3, 1) := by decide +kernel
theorem d6_28 : decode jdk_52_method_21_code 28 = .ok (.iload 6, 2) := by decide +kernel
theorem d6_30 : decode jdk_52_method_21_code 30 = .ok (.i2b, 1) := by decide +kernel
theorem d6_31 : decode jdk_52_method_21_code 31 = .ok (.bastore, 1) := by decide +kernel
theorem d6_32 : decode jdk_52_method_21_code 32 = .ok (.iinc 1 1, 3) := by decide +kernel
theorem d6_35 : decode jdk_52_method_21_code 35 = .ok (.iinc 3 1, 3) := by decide +kernel
theorem d6_38 : decode jdk_52_method_21_code 38 = .ok (.iinc 5 1, 3) := by decide +kernel
theorem d6_41 : decode jdk_52_method_21_code 41 = .ok (.goto (-38), 3) := by decide +kernel
theorem d6_44 : decode jdk_52_method_21_code 44 = .ok (.iload 4, 2) := by decide +kernel
theorem d6_46 : decode jdk_52_method_21_code 46 = .ok (.ireturn, 1) := by decide +kernel
theorem pn_6 : plainName "java/lang/StringUTF16" = true := by first | (simp [plainName, overriddenIn]; done) | decide +kernel
theorem ef_6 (m : MethodId) (x0 : Addr) (x1 : Int32) (x2 : Addr) (x3 : Int32) (x4 : Int32) : entryFrame m #[(.ref x0), (.int x1), (.ref x2), (.int x3), (.int x4)] 7 = mkF m 0 #[.val (.ref x0), .val (.int x1), .val (.ref x2), .val (.int x3), .val (.int x4), .unset, .unset] [] := by first | (simp [entryFrame, mkF, argsToLocals, Value.category]; done) | rfl
def Q6 (Z : State) (a3 : Addr) (p5 : Int32) (y : Int32 → Int32) (h0 : Heap) (n0 : Nat) (v : Option Value) (h : Heap) (L : List Loc) : Prop := Fr n0 L ∧ Keep h0 h [a3] ∧ ((v = some (.int p5) ∧ (∀ j : Int32, ¬ j < 0 → j < p5 → ¬ (255 : Int32) < y j) ∧ ∃ yb, Afn Z h a3 .byte p5 yb ∧ ∀ j : Int32, ¬ j < 0 → j < p5 → yb j = own_b (y j)) ∨ (∃ i : Int32, v = some (.int i) ∧ ¬ i < 0 ∧ i < p5 ∧ (255 : Int32) < y i))
set_option maxRecDepth 65536 in
set_option maxHeartbeats 40000000 in
theorem rm6 (l : Launch) (Z : State) (a0 : Array Value) (hw : ∀ d ∈ tables_1, d.before a0 Z = true) (wds : List Jvm.Cond) (a1 : Addr) (a3 : Addr) (p5 : Int32) (y yb0 : Int32 → Int32) (h0 : Heap) (n0 : Nat) (Z0 : n0 ≤ h0.size) (P0 : Afn Z h0 a1 .char p5 y) (P1 : Afn Z h0 a3 .byte p5 yb0) (g_a3 : n0 ≤ a3) (ne13 : a1 ≠ a3) :
    MetFree l (⟨"java/lang/StringUTF16", "compress", "([CI[BII)I"⟩ : MethodName) (head1 (Jvm.Cond.code (⟨"java/lang/StringUTF16", "compress", "([CI[BII)I"⟩ : MethodName) jdk_52_method_21_code 7 (some .int) :: wds) ({ frames := 0, cells := 0, slots := 0, locals := 0 } : Room)) (fun a U => a = #[(.ref a1), (.int (0 : Int32)), (.ref a3), (.int (0 : Int32)), (.int p5)] ∧ Z.Warmed39 U.vm ∧ U.heap = h0) (fun _ _ _ _ _ => True) (fun _ U o U' => ∃ v L, o = .returned v ∧ Q6 Z a3 p5 y h0 n0 v U'.heap L ∧ FrameEnd U o U' L ({ frames := 0, cells := 0, slots := 0, locals := 0 } : Room).cells ({ frames := 0, cells := 0, slots := 0, locals := 0 } : Room).slots) := by
  refine MetFree.of_bodySF (plainFor_of_name pn_6) hisR ?_
  intro p e s m args below meth c s₁ Bd hml0 hP hK
  obtain ⟨rfl, hZ, hh⟩ := hP
  have hx := Bd.exec
  have hby := Bd.bytes
  have hml : c.maxLocals = 7 := hml0
  have hown : s.vm.findClass "java/lang/StringUTF16" = some m.cls := findClass_of_methodNamed Bd.named
  have hnm := (name_of_methodNamed Bd.named Bd.method).1
  have X0 : Stand p l e ({ frames := 0, cells := 0, slots := 0, locals := 0 } : Room) s m #[(.ref a1), (.int (0 : Int32)), (.ref a3), (.int (0 : Int32)), (.int p5)] below meth c s₁ [] 0 0 := Stand.of_body Bd
  have e0 : s₁.heap = h0 := by rw [← hh, Bd.state]; rfl
  have N0 := Fr.nil n0
  refine own_start (Q := Q6 Z a3 p5 y h0 n0) (C := ({ frames := 0, cells := 0, slots := 0, locals := 0 } : Room).cells) (S := ({ frames := 0, cells := 0, slots := 0, locals := 0 } : Room).slots) ?_
  rw [ef_6 m a1 (0 : Int32) a3 (0 : Int32) p5]
  have K0 : Keep h0 h0 [a3] := Keep.refl h0 [a3]
  refine Gen.on (b := s₁.setTop (mkF m 1 #[.val (.ref a1), .val (.int (0 : Int32)), .val (.ref a3), .val (.int (0 : Int32)), .val (.int p5), .unset, .unset] [(.int (0 : Int32))])) ?_ (fun t k => XS.iconst X0.here hx rfl (hb hby d6_0) k)
  refine Gen.on (b := s₁.setTop (mkF m 3 #[.val (.ref a1), .val (.int (0 : Int32)), .val (.ref a3), .val (.int (0 : Int32)), .val (.int p5), .val (.int (0 : Int32)), .unset] [])) ?_ (fun t k => XS.istore X0.here hx rfl (hb hby d6_1) rfl (l' := #[.val (.ref a1), .val (.int (0 : Int32)), .val (.ref a3), .val (.int (0 : Int32)), .val (.int p5), .val (.int (0 : Int32)), .unset]) rfl k)
  have loop : ∀ (kk : Nat) (i : Int32) (s6 : Slot) (TL : State) (lL : List Loc) (hL : Heap) (yb : Int32 → Int32), One s6 → ¬ i < 0 → ¬ p5 < i → p5.toInt - i.toInt ≤ (kk : Int) → Stand p l e ({ frames := 0, cells := 0, slots := 0, locals := 0 } : Room) s m #[(.ref a1), (.int (0 : Int32)), (.ref a3), (.int (0 : Int32)), (.int p5)] below meth c TL lL 0 0 → TL.heap = hL → Fr n0 lL → n0 ≤ hL.size → Keep h0 hL [a3] → Afn Z hL a1 .char p5 y → Afn Z hL a3 .byte p5 yb → (∀ j : Int32, ¬ j < 0 → j < i → ¬ (255 : Int32) < y j ∧ yb j = own_b (y j)) → Own p e below s (Q6 Z a3 p5 y h0 n0) ({ frames := 0, cells := 0, slots := 0, locals := 0 } : Room).cells ({ frames := 0, cells := 0, slots := 0, locals := 0 } : Room).slots (TL.setTop (mkF m 3 #[.val (.ref a1), .val (.int i), .val (.ref a3), .val (.int i), .val (.int p5), .val (.int i), s6] [])) := by
    intro kk
    induction kk with
    | zero =>
      intro i s6 TL lL hL yb hs6 hi0 hip hm XL eL NL ZL KL Y1 Y3 hyb
      refine Gen.on (b := TL.setTop (mkF m 5 #[.val (.ref a1), .val (.int i), .val (.ref a3), .val (.int i), .val (.int p5), .val (.int i), s6] [(.int i)])) ?_ (fun t k => XS.iload XL.here hx rfl (hb hby d6_3) rfl k)
      refine Gen.on (b := TL.setTop (mkF m 7 #[.val (.ref a1), .val (.int i), .val (.ref a3), .val (.int i), .val (.int p5), .val (.int i), s6] [(.int p5), (.int i)])) ?_ (fun t k => XS.iload XL.here hx rfl (hb hby d6_5) rfl k)
      refine Gen.on (b := TL.setTop (mkF m 44 #[.val (.ref a1), .val (.int i), .val (.ref a3), .val (.int i), .val (.int p5), .val (.int i), s6] [])) ?_ (fun t k => XS.icmpYes XL.here hx rfl (pc0 := 7) (pc' := 44) rfl (hb hby d6_7) rfl (flt (own_z0 hm)).2.1 (by decide) (by decide) k)
      refine Gen.on (b := TL.setTop (mkF m 46 #[.val (.ref a1), .val (.int i), .val (.ref a3), .val (.int i), .val (.int p5), .val (.int i), s6] [(.int p5)])) ?_ (fun t k => XS.iload XL.here hx rfl (hb hby d6_44) rfl k)
      refine own_retI XL hx Bd.returns (hb hby d6_46) (by decide) (by decide) ?_
      show Q6 Z a3 p5 y h0 n0 _ TL.heap _
      rw [eL]
      have hip' := own_top (own_z0 hm) hip
      subst hip'
      exact ⟨NL, KL, Or.inl ⟨rfl, fun j h1 h2 => (hyb j h1 h2).1, yb, Y3, fun j h1 h2 => (hyb j h1 h2).2⟩⟩
    | succ kk ih =>
      intro i s6 TL lL hL yb hs6 hi0 hip hm XL eL NL ZL KL Y1 Y3 hyb
      refine Gen.on (b := TL.setTop (mkF m 5 #[.val (.ref a1), .val (.int i), .val (.ref a3), .val (.int i), .val (.int p5), .val (.int i), s6] [(.int i)])) ?_ (fun t k => XS.iload XL.here hx rfl (hb hby d6_3) rfl k)
      refine Gen.on (b := TL.setTop (mkF m 7 #[.val (.ref a1), .val (.int i), .val (.ref a3), .val (.int i), .val (.int p5), .val (.int i), s6] [(.int p5), (.int i)])) ?_ (fun t k => XS.iload XL.here hx rfl (hb hby d6_5) rfl k)
      by_cases c7_1 : i < p5
      · refine Gen.on (b := TL.setTop (mkF m 10 #[.val (.ref a1), .val (.int i), .val (.ref a3), .val (.int i), .val (.int p5), .val (.int i), s6] [])) ?_ (fun t k => XS.icmpNo XL.here hx rfl (hb hby d6_7) rfl (tlt c7_1).2.1 k)
        refine Gen.on (b := TL.setTop (mkF m 11 #[.val (.ref a1), .val (.int i), .val (.ref a3), .val (.int i), .val (.int p5), .val (.int i), s6] [(.ref a1)])) ?_ (fun t k => XS.aloadN XL.here hx rfl (hb hby d6_10) rfl rfl k)
        refine Gen.on (b := TL.setTop (mkF m 12 #[.val (.ref a1), .val (.int i), .val (.ref a3), .val (.int i), .val (.int p5), .val (.int i), s6] [(.int i), (.ref a1)])) ?_ (fun t k => XS.iloadN XL.here hx rfl (hb hby d6_11) rfl k)
        obtain ⟨cl1, Ar1, SA1, NA1, HA1⟩ := id Y1
        have hin1 : ¬ (i < 0 ∨ cl1.slots.size ≤ (i).toNatClampNeg) := inb_of SA1 ⟨hi0, c7_1⟩
        refine Gen.on (b := TL.setTop (mkF m 13 #[.val (.ref a1), .val (.int i), .val (.ref a3), .val (.int i), .val (.int p5), .val (.int i), s6] [(.int (y i))])) ?_ (fun t k => XL.caload hx (j := i) (v := (.int (y i))) (by rw [eL]; exact Ar1.1) (State.isArrayOf_alike hZ.alike Ar1.2.1) Ar1.2.2 hin1 (HA1 _ hin1) (g := (mkF m 12 #[.val (.ref a1), .val (.int i), .val (.ref a3), .val (.int i), .val (.int p5), .val (.int i), s6] [(.int i), (.ref a1)])) rfl rfl (hb hby d6_12) t k)
        refine Gen.on (b := TL.setTop (mkF m 15 #[.val (.ref a1), .val (.int i), .val (.ref a3), .val (.int i), .val (.int p5), .val (.int i), .val (.int (y i))] [])) ?_ (fun t k => XS.istore XL.here hx rfl (hb hby d6_13) rfl (l' := #[.val (.ref a1), .val (.int i), .val (.ref a3), .val (.int i), .val (.int p5), .val (.int i), .val (.int (y i))]) (own_os6 hs6) k)
        refine Gen.on (b := TL.setTop (mkF m 17 #[.val (.ref a1), .val (.int i), .val (.ref a3), .val (.int i), .val (.int p5), .val (.int i), .val (.int (y i))] [(.int (y i))])) ?_ (fun t k => XS.iload XL.here hx rfl (hb hby d6_15) rfl k)
        refine Gen.on (b := TL.setTop (mkF m 20 #[.val (.ref a1), .val (.int i), .val (.ref a3), .val (.int i), .val (.int p5), .val (.int i), .val (.int (y i))] [(.int (255 : Int32)), (.int (y i))])) ?_ (fun t k => XS.sipush XL.here hx rfl (hb hby d6_17) k)
        by_cases c20_2 : (255 : Int32) < (y i)
        · refine Gen.on (b := TL.setTop (mkF m 23 #[.val (.ref a1), .val (.int i), .val (.ref a3), .val (.int i), .val (.int p5), .val (.int i), .val (.int (y i))] [])) ?_ (fun t k => XS.icmpNo XL.here hx rfl (hb hby d6_20) rfl (tlt c20_2).2.2.2 k)
          refine Gen.on (b := TL.setTop (mkF m 25 #[.val (.ref a1), .val (.int i), .val (.ref a3), .val (.int i), .val (.int p5), .val (.int i), .val (.int (y i))] [(.int i)])) ?_ (fun t k => XS.iload XL.here hx rfl (hb hby d6_23) rfl k)
          refine own_retI XL hx Bd.returns (hb hby d6_25) (by decide) (by decide) ?_
          show Q6 Z a3 p5 y h0 n0 _ TL.heap _
          rw [eL]
          exact ⟨NL, KL, Or.inr ⟨i, rfl, hi0, c7_1, c20_2⟩⟩
        · refine Gen.on (b := TL.setTop (mkF m 26 #[.val (.ref a1), .val (.int i), .val (.ref a3), .val (.int i), .val (.int p5), .val (.int i), .val (.int (y i))] [])) ?_ (fun t k => XS.icmpYes XL.here hx rfl (pc0 := 20) (pc' := 26) rfl (hb hby d6_20) rfl (flt c20_2).2.2.2 (by decide) (by decide) k)
          refine Gen.on (b := TL.setTop (mkF m 27 #[.val (.ref a1), .val (.int i), .val (.ref a3), .val (.int i), .val (.int p5), .val (.int i), .val (.int (y i))] [(.ref a3)])) ?_ (fun t k => XS.aloadN XL.here hx rfl (hb hby d6_26) rfl rfl k)
          refine Gen.on (b := TL.setTop (mkF m 28 #[.val (.ref a1), .val (.int i), .val (.ref a3), .val (.int i), .val (.int p5), .val (.int i), .val (.int (y i))] [(.int i), (.ref a3)])) ?_ (fun t k => XS.iloadN XL.here hx rfl (hb hby d6_27) rfl k)
          refine Gen.on (b := TL.setTop (mkF m 30 #[.val (.ref a1), .val (.int i), .val (.ref a3), .val (.int i), .val (.int p5), .val (.int i), .val (.int (y i))] [(.int (y i)), (.int i), (.ref a3)])) ?_ (fun t k => XS.iload XL.here hx rfl (hb hby d6_28) rfl k)
          refine Gen.on (b := TL.setTop (mkF m 31 #[.val (.ref a1), .val (.int i), .val (.ref a3), .val (.int i), .val (.int p5), .val (.int i), .val (.int (y i))] [(.int (y i).toInt8.toInt32), (.int i), (.ref a3)])) ?_ (fun t k => XS.i2b XL.here hx rfl (hb hby d6_30) rfl k)
          obtain ⟨cl2, Ar2, SA2, NA2, HA2⟩ := id Y3
          have hin2 : ¬ (i < 0 ∨ cl2.slots.size ≤ (i).toNatClampNeg) := inb_of SA2 ⟨hi0, c7_1⟩
          obtain ⟨T2, h2, X2, e2, W2, st2⟩ := stB XL hx hZ eL Ar2 (j := i) hin2 (g := (mkF m 31 #[.val (.ref a1), .val (.int i), .val (.ref a3), .val (.int i), .val (.int p5), .val (.int i), .val (.int (y i))] [(.int (y i).toInt8.toInt32), (.int i), (.ref a3)])) rfl rfl (hb hby d6_31)
          have Y2 := Afn.put Ar2 SA2 NA2 HA2 W2 hi0
          have Z2 : n0 ≤ h2.size := Nat.le_trans ZL (Keep.of_wr W2).1
          have K2 : Keep h0 h2 [a3] := KL.wr W2 (Or.inl (List.mem_of_getElem? (i := 0) rfl))
          have N2 := Fr.snoc X2 NL g_a3
          refine Gen.on (b := T2.setTop (mkF m 32 #[.val (.ref a1), .val (.int i), .val (.ref a3), .val (.int i), .val (.int p5), .val (.int i), .val (.int (y i))] [])) ?_ (fun t k => st2 t k)
          refine Gen.on (b := T2.setTop (mkF m 35 #[.val (.ref a1), .val (.int (i + (1 : Int32))), .val (.ref a3), .val (.int i), .val (.int p5), .val (.int i), .val (.int (y i))] [])) ?_ (fun t k => XS.iinc X2.here hx rfl (hb hby d6_32) rfl (l' := #[.val (.ref a1), .val (.int (i + (1 : Int32))), .val (.ref a3), .val (.int i), .val (.int p5), .val (.int i), .val (.int (y i))]) rfl k)
          refine Gen.on (b := T2.setTop (mkF m 38 #[.val (.ref a1), .val (.int (i + (1 : Int32))), .val (.ref a3), .val (.int (i + (1 : Int32))), .val (.int p5), .val (.int i), .val (.int (y i))] [])) ?_ (fun t k => XS.iinc X2.here hx rfl (hb hby d6_35) rfl (l' := #[.val (.ref a1), .val (.int (i + (1 : Int32))), .val (.ref a3), .val (.int (i + (1 : Int32))), .val (.int p5), .val (.int i), .val (.int (y i))]) rfl k)
          refine Gen.on (b := T2.setTop (mkF m 41 #[.val (.ref a1), .val (.int (i + (1 : Int32))), .val (.ref a3), .val (.int (i + (1 : Int32))), .val (.int p5), .val (.int (i + (1 : Int32))), .val (.int (y i))] [])) ?_ (fun t k => XS.iinc X2.here hx rfl (hb hby d6_38) rfl (l' := #[.val (.ref a1), .val (.int (i + (1 : Int32))), .val (.ref a3), .val (.int (i + (1 : Int32))), .val (.int p5), .val (.int (i + (1 : Int32))), .val (.int (y i))]) rfl k)
          refine Gen.on (b := T2.setTop (mkF m 3 #[.val (.ref a1), .val (.int (i + (1 : Int32))), .val (.ref a3), .val (.int (i + (1 : Int32))), .val (.int p5), .val (.int (i + (1 : Int32))), .val (.int (y i))] [])) ?_ (fun t k => XS.goto X2.here hx rfl (pc0 := 41) (pc' := 3) rfl (hb hby d6_41) (by decide) (by decide) k)
          have hstp := own_step hi0 c7_1 hm
          have fa3 := (Y1.other W2 ne13)
          exact ih (i + (1 : Int32)) _ _ _ _ _ (One.val rfl) hstp.1 hstp.2.1 hstp.2.2 X2 e2 N2 Z2 K2 fa3 Y2 (fun j hj0 hj => by
            rcases own_ltS hi0 c7_1 hj with rfl | hj'
            · exact ⟨c20_2, if_pos rfl⟩
            · have ne : ¬ j = i := fun q => by subst q; rw [Int32.lt_iff_toInt_lt] at hj'; omega
              exact ⟨(hyb j hj0 hj').1, (if_neg ne).trans (hyb j hj0 hj').2⟩)
      · refine Gen.on (b := TL.setTop (mkF m 44 #[.val (.ref a1), .val (.int i), .val (.ref a3), .val (.int i), .val (.int p5), .val (.int i), s6] [])) ?_ (fun t k => XS.icmpYes XL.here hx rfl (pc0 := 7) (pc' := 44) rfl (hb hby d6_7) rfl (flt c7_1).2.1 (by decide) (by decide) k)
        refine Gen.on (b := TL.setTop (mkF m 46 #[.val (.ref a1), .val (.int i), .val (.ref a3), .val (.int i), .val (.int p5), .val (.int i), s6] [(.int p5)])) ?_ (fun t k => XS.iload XL.here hx rfl (hb hby d6_44) rfl k)
        refine own_retI XL hx Bd.returns (hb hby d6_46) (by decide) (by decide) ?_
        show Q6 Z a3 p5 y h0 n0 _ TL.heap _
        rw [eL]
        have hip' := own_top c7_1 hip
        subst hip'
        exact ⟨NL, KL, Or.inl ⟨rfl, fun j h1 h2 => (hyb j h1 h2).1, yb, Y3, fun j h1 h2 => (hyb j h1 h2).2⟩⟩
  exact loop _ (0 : Int32) .unset _ _ _ _ One.u (by decide) P0.nn (Int.le_of_eq (Int.toNat_of_nonneg (own_nnz P0.nn)).symm) X0 e0 N0 Z0 K0 P0 P1 (fun j h1 h2 => absurd h2 h1)

theorem d16_0 : decode jdk_52_method_14_code 0 = .ok (.iload_n 2, 1) := by decide +kernel
theorem d16_1 : decode jdk_52_method_14_code 1 = .ok (.invokestatic 107, 3) := by decide +kernel
theorem d16_4 : decode jdk_52_method_14_code 4 = .ok (.astore_n 3, 1) := by decide +kernel
theorem d16_5 : decode jdk_52_method_14_code 5 = .ok (.iconst 0, 1) := by decide +kernel
theorem d16_6 : decode jdk_52_method_14_code 6 = .ok (.istore 4, 2) := by decide +kernel
theorem d16_8 : decode jdk_52_method_14_code 8 = .ok (.iload 4, 2) := by decide +kernel
theorem d16_10 : decode jdk_52_method_14_code 10 = .ok (.iload_n 2, 1) := by decide +kernel
theorem d16_11 : decode jdk_52_method_14_code 11 = .ok (.if_icmp .ge 21, 3) := by decide +kernel
theorem d16_14 : decode jdk_52_method_14_code 14 = .ok (.aload_n 3, 1) := by decide +kernel
theorem d16_15 : decode jdk_52_method_14_code 15 = .ok (.iload 4, 2) := by decide +kernel
theorem d16_17 : decode jdk_52_method_14_code 17 = .ok (.aload_n 0, 1) := by decide +kernel
theorem d16_18 : decode jdk_52_method_14_code 18 = .ok (.iload_n 1, 1) := by decide +kernel
theorem d16_19 : decode jdk_52_method_14_code 19 = .ok (.caload, 1) := by decide +kernel
theorem d16_20 : decode jdk_52_method_14_code 20 = .ok (.invokestatic 111, 3) := by decide +kernel
theorem d16_23 : decode jdk_52_method_14_code 23 = .ok (.iinc 1 1, 3) := by decide +kernel
theorem d16_26 : decode jdk_52_method_14_code 26 = .ok (.iinc 4 1, 3) := by decide +kernel
theorem d16_29 : decode jdk_52_method_14_code 29 = .ok (.goto (-21), 3) := by decide +kernel
theorem d16_32 : decode jdk_52_method_14_code 32 = .ok (.aload_n 3, 1) := by decide +kernel
theorem d16_33 : decode jdk_52_method_14_code 33 = .ok (.areturn, 1) := by decide +kernel
theorem pn_16 : plainName "java/lang/StringUTF16" = true := by first | (simp [plainName, overriddenIn]; done) | decide +kernel
theorem pd_16_0 : parseMethodDescriptor "(I)[B" = some ⟨[.int], some (.array .byte)⟩ := by decide +kernel
theorem pd_16_1 : parseMethodDescriptor "([BII)V" = some ⟨[(.array .byte), .int, .int], none⟩ := by decide +kernel
theorem ef_16 (m : MethodId) (x0 : Addr) (x1 : Int32) (x2 : Int32) : entryFrame m #[(.ref x0), (.int x1), (.int x2)] 5 = mkF m 0 #[.val (.ref x0), .val (.int x1), .val (.int x2), .unset, .unset] [] := by first | (simp [entryFrame, mkF, argsToLocals, Value.category]; done) | rfl
def Q16 (Z : State) (p3 z2 : Int32) (y : Int32 → Int32) (h0 : Heap) (n0 : Nat) (v : Option Value) (h : Heap) (L : List Loc) : Prop := ∃ xr : Addr, v = some (.ref xr) ∧ Fr n0 L ∧ Keep h0 h [] ∧ h0.size ≤ xr ∧ ∃ yb, Afn Z h xr .byte z2 yb ∧ ∀ j : Int32, ¬ j < 0 → j < p3 → yb (own_d j) = own_lo (y j) ∧ yb (own_d j + (1 : Int32)) = own_hi (y j)
set_option maxRecDepth 65536 in
set_option maxHeartbeats 40000000 in
theorem rm16 (l : Launch) (Z : State) (a0 : Array Value) (hw : ∀ d ∈ tables_1, d.before a0 Z = true) (wds : List Jvm.Cond) (a1 : Addr) (p3 : Int32) (y : Int32 → Int32) (z2 w0 : Int32) (f0 : Value) (h0 : Heap) (n0 : Nat) (Z0 : n0 ≤ h0.size) (P0 : Afn Z h0 a1 .char p3 y) (OL : Old Z n0 h0) (sts : Sts Z w0 f0) (hc0 : ¬ p3 < (0 : Int32)) (hc1 : p3 < (1073741823 : Int32)) (hz : f18 p3 = z2) (hn : ¬ z2 < 0) (hcap : z2.toNatClampNeg ≤ 82) (h2z : z2.toInt = 2 * p3.toInt) (hsm : p3.toInt < 1000) :
    MetFree l (⟨"java/lang/StringUTF16", "toBytes", "([CII)[B"⟩ : MethodName) (head1 (Jvm.Cond.code (⟨"java/lang/StringUTF16", "toBytes", "([CII)[B"⟩ : MethodName) jdk_52_method_14_code 5 (some (.array .byte)) :: wds) ({ frames := 2, cells := 1, slots := 82, locals := 60 } : Room)) (fun a U => a = #[(.ref a1), (.int (0 : Int32)), (.int p3)] ∧ Z.Warmed39 U.vm ∧ U.heap = h0) (fun _ _ _ _ _ => True) (fun _ U o U' => ∃ v L, o = .returned v ∧ Q16 Z p3 z2 y h0 n0 v U'.heap L ∧ FrameEnd U o U' L ({ frames := 2, cells := 1, slots := 82, locals := 60 } : Room).cells ({ frames := 2, cells := 1, slots := 82, locals := 60 } : Room).slots) := by
  refine MetFree.of_bodySF (plainFor_of_name pn_16) hisR ?_
  intro p e s m args below meth c s₁ Bd hml0 hP hK
  obtain ⟨rfl, hZ, hh⟩ := hP
  have hx := Bd.exec
  have hby := Bd.bytes
  have hml : c.maxLocals = 5 := hml0
  have hown : s.vm.findClass "java/lang/StringUTF16" = some m.cls := findClass_of_methodNamed Bd.named
  have hnm := (name_of_methodNamed Bd.named Bd.method).1
  have X0 : Stand p l e ({ frames := 2, cells := 1, slots := 82, locals := 60 } : Room) s m #[(.ref a1), (.int (0 : Int32)), (.int p3)] below meth c s₁ [] 0 0 := Stand.of_body Bd
  have e0 : s₁.heap = h0 := by rw [← hh, Bd.state]; rfl
  have N0 := Fr.nil n0
  refine own_start (Q := Q16 Z p3 z2 y h0 n0) (C := ({ frames := 2, cells := 1, slots := 82, locals := 60 } : Room).cells) (S := ({ frames := 2, cells := 1, slots := 82, locals := 60 } : Room).slots) ?_
  rw [ef_16 m a1 (0 : Int32) p3]
  have K0 : Keep h0 h0 [] := Keep.refl h0 []
  obtain ⟨SC, hw0, SF, hf0, SA, SH, SL⟩ := id sts
  refine Gen.on (b := s₁.setTop (mkF m 1 #[.val (.ref a1), .val (.int (0 : Int32)), .val (.int p3), .unset, .unset] [(.int p3)])) ?_ (fun t k => XS.iloadN X0.here hx rfl (hb hby d16_0) rfl k)
  obtain ⟨_, _, ⟨T1, L1, k1, n1⟩, -, X1, ⟨Lc1, hQ1, l1, y1, z1⟩, st1⟩ := Jvm.LawKit.callS X0 hx (y := (⟨"java/lang/StringUTF16", "newBytesFor", "(I)[B"⟩ : MethodName)) hown (mvT hZ (hw _ (List.mem_of_getElem? (i := 74) rfl))) (mvT hZ (hw _ (List.mem_of_getElem? (i := 75) rfl))) (mvT hZ (hw _ (List.mem_of_getElem? (i := 22) rfl))) (mvT hZ (hw _ (List.mem_of_getElem? (i := 76) rfl))) (by decide) (backOf (W := 0) (rm17 l Z a0 hw [] p3 z2 h0 n0 Z0 (hc0) (hc1) (hz) (hn) (hcap)) hZ (hw _ (List.mem_of_getElem? (i := 76) rfl)) (hw _ (List.mem_of_getElem? (i := 22) rfl)) (by decide) (by decide)) (g := (mkF m 1 #[.val (.ref a1), .val (.int (0 : Int32)), .val (.int p3), .unset, .unset] [(.int p3)])) rfl (by rw [hml]; rfl) (argsL := [(.int p3)]) (rest := []) (lenOf pd_16_0 rfl) rfl (by show 2 * 0 + _ ≤ _; exact Nat.le_of_eq rfl) (hb hby d16_1) (fun _ _ => ⟨rfl, e0, (by decide : 0 + 1 ≤ _), (by decide : 0 + 82 ≤ _)⟩)
  dsimp only [Pt.U, Pt.locs, Pt.cells, Pt.slots] at X1 l1 y1 z1 st1 hQ1
  subst l1 y1 z1
  obtain ⟨xr1, rfl, N1q, Kc1, hf1_0, hf1_1⟩ := hQ1
  have N1 := Fr.app N0 N1q
  have Z1 : n0 ≤ T1.heap.size := Nat.le_trans Z0 Kc1.1
  have K1 : Keep h0 T1.heap [] := K0.trans Kc1 all0
  have sz_xr1 := hf1_1
  have g_xr1 : n0 ≤ xr1 := Nat.le_trans Z0 hf1_1
  have ne_a1_xr1 : a1 ≠ xr1 := Nat.ne_of_lt (Nat.lt_of_lt_of_le P0.lt hf1_1)
  refine Gen.on (b := T1.setTop (mkF m 4 #[.val (.ref a1), .val (.int (0 : Int32)), .val (.int p3), .unset, .unset] [(.ref xr1)])) ?_ (fun t k => st1 t k)
  refine Gen.on (b := T1.setTop (mkF m 5 #[.val (.ref a1), .val (.int (0 : Int32)), .val (.int p3), .val (.ref xr1), .unset] [])) ?_ (fun t k => XS.astoreN X1.here hx rfl (hb hby d16_4) rfl rfl (l' := #[.val (.ref a1), .val (.int (0 : Int32)), .val (.int p3), .val (.ref xr1), .unset]) rfl k)
  refine Gen.on (b := T1.setTop (mkF m 6 #[.val (.ref a1), .val (.int (0 : Int32)), .val (.int p3), .val (.ref xr1), .unset] [(.int (0 : Int32))])) ?_ (fun t k => XS.iconst X1.here hx rfl (hb hby d16_5) k)
  refine Gen.on (b := T1.setTop (mkF m 8 #[.val (.ref a1), .val (.int (0 : Int32)), .val (.int p3), .val (.ref xr1), .val (.int (0 : Int32))] [])) ?_ (fun t k => XS.istore X1.here hx rfl (hb hby d16_6) rfl (l' := #[.val (.ref a1), .val (.int (0 : Int32)), .val (.int p3), .val (.ref xr1), .val (.int (0 : Int32))]) rfl k)
  have fa2 := (P0.keep Kc1 nin0)
  have fa3 := (OL.keep Kc1 all0)
  have loop : ∀ (kk : Nat) (i : Int32) (TL : State) (lL : List Loc) (hL : Heap) (yb : Int32 → Int32), ¬ i < 0 → ¬ p3 < i → p3.toInt - i.toInt ≤ (kk : Int) → Stand p l e ({ frames := 2, cells := 1, slots := 82, locals := 60 } : Room) s m #[(.ref a1), (.int (0 : Int32)), (.int p3)] below meth c TL lL 1 82 → TL.heap = hL → Fr n0 lL → n0 ≤ hL.size → Keep h0 hL [] → Afn Z hL a1 .char p3 y → Afn Z hL xr1 .byte z2 yb → Old Z n0 hL → (∀ j : Int32, ¬ j < 0 → j < i → yb (own_d j) = own_lo (y j) ∧ yb (own_d j + (1 : Int32)) = own_hi (y j)) → Own p e below s (Q16 Z p3 z2 y h0 n0) ({ frames := 2, cells := 1, slots := 82, locals := 60 } : Room).cells ({ frames := 2, cells := 1, slots := 82, locals := 60 } : Room).slots (TL.setTop (mkF m 8 #[.val (.ref a1), .val (.int i), .val (.int p3), .val (.ref xr1), .val (.int i)] [])) := by
    intro kk
    induction kk with
    | zero =>
      intro i TL lL hL yb hi0 hip hm XL eL NL ZL KL Y1 Y3 OLL hyb
      refine Gen.on (b := TL.setTop (mkF m 10 #[.val (.ref a1), .val (.int i), .val (.int p3), .val (.ref xr1), .val (.int i)] [(.int i)])) ?_ (fun t k => XS.iload XL.here hx rfl (hb hby d16_8) rfl k)
      refine Gen.on (b := TL.setTop (mkF m 11 #[.val (.ref a1), .val (.int i), .val (.int p3), .val (.ref xr1), .val (.int i)] [(.int p3), (.int i)])) ?_ (fun t k => XS.iloadN XL.here hx rfl (hb hby d16_10) rfl k)
      refine Gen.on (b := TL.setTop (mkF m 32 #[.val (.ref a1), .val (.int i), .val (.int p3), .val (.ref xr1), .val (.int i)] [])) ?_ (fun t k => XS.icmpYes XL.here hx rfl (pc0 := 11) (pc' := 32) rfl (hb hby d16_11) rfl (flt (own_z0 hm)).2.1 (by decide) (by decide) k)
      refine Gen.on (b := TL.setTop (mkF m 33 #[.val (.ref a1), .val (.int i), .val (.int p3), .val (.ref xr1), .val (.int i)] [(.ref xr1)])) ?_ (fun t k => XS.aloadN XL.here hx rfl (hb hby d16_32) rfl rfl k)
      refine own_retA XL hx Bd.returns rfl rfl (hb hby d16_33) (by decide) (by decide) ?_
      show Q16 Z p3 z2 y h0 n0 _ TL.heap _
      rw [eL]
      have hip' := own_top (own_z0 hm) hip
      subst hip'
      exact ⟨_, rfl, NL, KL, sz_xr1, yb, Y3, hyb⟩
    | succ kk ih =>
      intro i TL lL hL yb hi0 hip hm XL eL NL ZL KL Y1 Y3 OLL hyb
      refine Gen.on (b := TL.setTop (mkF m 10 #[.val (.ref a1), .val (.int i), .val (.int p3), .val (.ref xr1), .val (.int i)] [(.int i)])) ?_ (fun t k => XS.iload XL.here hx rfl (hb hby d16_8) rfl k)
      refine Gen.on (b := TL.setTop (mkF m 11 #[.val (.ref a1), .val (.int i), .val (.int p3), .val (.ref xr1), .val (.int i)] [(.int p3), (.int i)])) ?_ (fun t k => XS.iloadN XL.here hx rfl (hb hby d16_10) rfl k)
      by_cases c11_1 : i < p3
      · refine Gen.on (b := TL.setTop (mkF m 14 #[.val (.ref a1), .val (.int i), .val (.int p3), .val (.ref xr1), .val (.int i)] [])) ?_ (fun t k => XS.icmpNo XL.here hx rfl (hb hby d16_11) rfl (tlt c11_1).2.1 k)
        refine Gen.on (b := TL.setTop (mkF m 15 #[.val (.ref a1), .val (.int i), .val (.int p3), .val (.ref xr1), .val (.int i)] [(.ref xr1)])) ?_ (fun t k => XS.aloadN XL.here hx rfl (hb hby d16_14) rfl rfl k)
        refine Gen.on (b := TL.setTop (mkF m 17 #[.val (.ref a1), .val (.int i), .val (.int p3), .val (.ref xr1), .val (.int i)] [(.int i), (.ref xr1)])) ?_ (fun t k => XS.iload XL.here hx rfl (hb hby d16_15) rfl k)
        refine Gen.on (b := TL.setTop (mkF m 18 #[.val (.ref a1), .val (.int i), .val (.int p3), .val (.ref xr1), .val (.int i)] [(.ref a1), (.int i), (.ref xr1)])) ?_ (fun t k => XS.aloadN XL.here hx rfl (hb hby d16_17) rfl rfl k)
        refine Gen.on (b := TL.setTop (mkF m 19 #[.val (.ref a1), .val (.int i), .val (.int p3), .val (.ref xr1), .val (.int i)] [(.int i), (.ref a1), (.int i), (.ref xr1)])) ?_ (fun t k => XS.iloadN XL.here hx rfl (hb hby d16_18) rfl k)
        obtain ⟨cl4, Ar4, SA4, NA4, HA4⟩ := id Y1
        have hin4 : ¬ (i < 0 ∨ cl4.slots.size ≤ (i).toNatClampNeg) := inb_of SA4 ⟨hi0, c11_1⟩
        refine Gen.on (b := TL.setTop (mkF m 20 #[.val (.ref a1), .val (.int i), .val (.int p3), .val (.ref xr1), .val (.int i)] [(.int (y i)), (.int i), (.ref xr1)])) ?_ (fun t k => XL.caload hx (j := i) (v := (.int (y i))) (by rw [eL]; exact Ar4.1) (State.isArrayOf_alike hZ.alike Ar4.2.1) Ar4.2.2 hin4 (HA4 _ hin4) (g := (mkF m 19 #[.val (.ref a1), .val (.int i), .val (.int p3), .val (.ref xr1), .val (.int i)] [(.int i), (.ref a1), (.int i), (.ref xr1)])) rfl rfl (hb hby d16_19) t k)
        have hdr := own_dr hi0 c11_1 h2z hsm
        obtain ⟨_, _, ⟨T5, L5, k5, n5⟩, -, X5, ⟨Lc5, hQ5, l5, y5, z5⟩, st5⟩ := Jvm.LawKit.callS XL hx (y := (⟨"java/lang/StringUTF16", "putChar", "([BII)V"⟩ : MethodName)) hown (mvT hZ (hw _ (List.mem_of_getElem? (i := 81) rfl))) (mvT hZ (hw _ (List.mem_of_getElem? (i := 82) rfl))) (mvT hZ (hw _ (List.mem_of_getElem? (i := 22) rfl))) (mvT hZ (hw _ (List.mem_of_getElem? (i := 83) rfl))) (by decide) (backOf (W := 0) (rm19 l Z a0 hw [] xr1 i (y i) z2 yb (own_d i) w0 f0 hL n0 ZL Y3 OLL g_xr1 (sts) (rfl) (hdr.1) (hdr.2.1) (hdr.2.2.1) (hdr.2.2.2)) hZ (hw _ (List.mem_of_getElem? (i := 83) rfl)) (hw _ (List.mem_of_getElem? (i := 22) rfl)) (by decide) (by decide)) (g := (mkF m 20 #[.val (.ref a1), .val (.int i), .val (.int p3), .val (.ref xr1), .val (.int i)] [(.int (y i)), (.int i), (.ref xr1)])) rfl (by rw [hml]; rfl) (argsL := [(.ref xr1), (.int i), (.int (y i))]) (rest := []) (lenOf pd_16_1 rfl) rfl (by show 2 * 0 + _ ≤ _; exact Nat.le_of_eq rfl) (hb hby d16_20) (fun _ _ => ⟨rfl, eL, (by decide : 1 + 0 ≤ _), (by decide : 82 + 0 ≤ _)⟩)
        dsimp only [Pt.U, Pt.locs, Pt.cells, Pt.slots] at X5 l5 y5 z5 st5 hQ5
        subst l5 y5 z5
        obtain ⟨rfl, N5q, Kc5, hf5_0⟩ := hQ5
        have N5 := Fr.app NL N5q
        have Z5 : n0 ≤ T5.heap.size := Nat.le_trans ZL Kc5.1
        have K5 : Keep h0 T5.heap [] := KL.trans Kc5 (allS (Or.inr sz_xr1) all0)
        refine Gen.on (b := T5.setTop (mkF m 23 #[.val (.ref a1), .val (.int i), .val (.int p3), .val (.ref xr1), .val (.int i)] [])) ?_ (fun t k => st5 t k)
        refine Gen.on (b := T5.setTop (mkF m 26 #[.val (.ref a1), .val (.int (i + (1 : Int32))), .val (.int p3), .val (.ref xr1), .val (.int i)] [])) ?_ (fun t k => XS.iinc X5.here hx rfl (hb hby d16_23) rfl (l' := #[.val (.ref a1), .val (.int (i + (1 : Int32))), .val (.int p3), .val (.ref xr1), .val (.int i)]) rfl k)
        refine Gen.on (b := T5.setTop (mkF m 29 #[.val (.ref a1), .val (.int (i + (1 : Int32))), .val (.int p3), .val (.ref xr1), .val (.int (i + (1 : Int32)))] [])) ?_ (fun t k => XS.iinc X5.here hx rfl (hb hby d16_26) rfl (l' := #[.val (.ref a1), .val (.int (i + (1 : Int32))), .val (.int p3), .val (.ref xr1), .val (.int (i + (1 : Int32)))]) rfl k)
        refine Gen.on (b := T5.setTop (mkF m 8 #[.val (.ref a1), .val (.int (i + (1 : Int32))), .val (.int p3), .val (.ref xr1), .val (.int (i + (1 : Int32)))] [])) ?_ (fun t k => XS.goto X5.here hx rfl (pc0 := 29) (pc' := 8) rfl (hb hby d16_29) (by decide) (by decide) k)
        have hstp := own_step hi0 c11_1 hm
        have fa6 := (Y1.keep Kc5 (ninS ne_a1_xr1 nin0))
        have fa7 := (OLL.keep Kc5 (allS g_xr1 all0))
        exact ih (i + (1 : Int32)) _ _ _ _ hstp.1 hstp.2.1 hstp.2.2 X5 rfl N5 Z5 K5 fa6 hf5_0 fa7 (fun j hj0 hj => by
          have hjs : j.toInt < 1000 := by
            have q1 := own_inc hi0 c11_1
            have q2 := c11_1
            rw [Int32.lt_iff_toInt_lt] at hj q2
            omega
          have his : i.toInt < 1000 := by
            have q2 := c11_1
            rw [Int32.lt_iff_toInt_lt] at q2
            omega
          have a1' := own_d_i hj0 hjs
          have a2' := own_d1_i hj0 hjs
          have b1' := own_d_i hi0 his
          have b2' := own_d1_i hi0 his
          rcases own_ltS hi0 c11_1 hj with rfl | hj'
          · refine ⟨(if_neg fun q => ?_).trans (if_pos rfl), if_pos rfl⟩
            rw [← Int32.toInt_inj] at q; omega
          · have ne : j.toInt < i.toInt := by rw [Int32.lt_iff_toInt_lt] at hj'; exact hj'
            have n1 : ¬ own_d j = own_d i + (1 : Int32) := fun q => by rw [← Int32.toInt_inj] at q; omega
            have n2 : ¬ own_d j = own_d i := fun q => by rw [← Int32.toInt_inj] at q; omega
            have n3 : ¬ own_d j + (1 : Int32) = own_d i + (1 : Int32) := fun q => by rw [← Int32.toInt_inj] at q; omega
            have n4 : ¬ own_d j + (1 : Int32) = own_d i := fun q => by rw [← Int32.toInt_inj] at q; omega
            exact ⟨((if_neg n1).trans (if_neg n2)).trans (hyb j hj0 hj').1, ((if_neg n3).trans (if_neg n4)).trans (hyb j hj0 hj').2⟩)
      · refine Gen.on (b := TL.setTop (mkF m 32 #[.val (.ref a1), .val (.int i), .val (.int p3), .val (.ref xr1), .val (.int i)] [])) ?_ (fun t k => XS.icmpYes XL.here hx rfl (pc0 := 11) (pc' := 32) rfl (hb hby d16_11) rfl (flt c11_1).2.1 (by decide) (by decide) k)
        refine Gen.on (b := TL.setTop (mkF m 33 #[.val (.ref a1), .val (.int i), .val (.int p3), .val (.ref xr1), .val (.int i)] [(.ref xr1)])) ?_ (fun t k => XS.aloadN XL.here hx rfl (hb hby d16_32) rfl rfl k)
        refine own_retA XL hx Bd.returns rfl rfl (hb hby d16_33) (by decide) (by decide) ?_
        show Q16 Z p3 z2 y h0 n0 _ TL.heap _
        rw [eL]
        have hip' := own_top c11_1 hip
        subst hip'
        exact ⟨_, rfl, NL, KL, sz_xr1, yb, Y3, hyb⟩
  exact loop _ (0 : Int32) _ _ _ _ (by decide) hc0 (Int.le_of_eq (Int.toNat_of_nonneg (own_nnz hc0)).symm) X1 rfl N1 Z1 K1 fa2 hf1_0 fa3 (fun j h1 h2 => absurd h2 h1)

theorem d7_0 : decode jdk_52_method_15_code 0 = .ok (.iload_n 1, 1) := by decide +kernel
theorem d7_1 : decode jdk_52_method_15_code 1 = .ok (.aload_n 0, 1) := by decide +kernel
theorem d7_2 : decode jdk_52_method_15_code 2 = .ok (.arraylength, 1) := by decide +kernel
theorem d7_3 : decode jdk_52_method_15_code 3 = .ok (.isub, 1) := by decide +kernel
theorem d7_4 : decode jdk_52_method_15_code 4 = .ok (.bipush 31, 2) := by decide +kernel
theorem d7_6 : decode jdk_52_method_15_code 6 = .ok (.iushr, 1) := by decide +kernel
theorem d7_7 : decode jdk_52_method_15_code 7 = .ok (.i2b, 1) := by decide +kernel
theorem d7_8 : decode jdk_52_method_15_code 8 = .ok (.ireturn, 1) := by decide +kernel
theorem pn_7 : plainName "java/lang/StringUTF16" = true := by first | (simp [plainName, overriddenIn]; done) | decide +kernel
theorem ef_7 (m : MethodId) (x0 : Addr) (x1 : Int32) : entryFrame m #[(.ref x0), (.int x1)] 2 = mkF m 0 #[.val (.ref x0), .val (.int x1)] [] := by first | (simp [entryFrame, mkF, argsToLocals, Value.category]; done) | rfl
def Q7 (Z : State) (a1 : Addr) (p2 : Int32) (zb : Int32) (yb : Int32 → Int32) (w1 : Int32) (h0 : Heap) (n0 : Nat) (v : Option Value) (h : Heap) (L : List Loc) : Prop := v = some (.int w1) ∧ Fr n0 L ∧ h = h0
set_option maxRecDepth 65536 in
set_option maxHeartbeats 40000000 in
theorem rm7 (l : Launch) (Z : State) (a0 : Array Value) (hw : ∀ d ∈ tables_1, d.before a0 Z = true) (wds : List Jvm.Cond) (a1 : Addr) (p2 : Int32) (zb : Int32) (yb : Int32 → Int32) (w1 : Int32) (h0 : Heap) (n0 : Nat) (Z0 : n0 ≤ h0.size) (P0 : Afn Z h0 a1 .byte zb yb) (hcw : ((((p2 - zb).toUInt32 >>> ((31 : Int32) &&& 31).toUInt32).toInt32).toInt8.toInt32) = w1) :
    MetFree l (⟨"java/lang/StringUTF16", "coderFromArrayLen", "([BI)B"⟩ : MethodName) (head1 (Jvm.Cond.code (⟨"java/lang/StringUTF16", "coderFromArrayLen", "([BI)B"⟩ : MethodName) jdk_52_method_15_code 2 (some .byte) :: wds) ({ frames := 0, cells := 0, slots := 0, locals := 0 } : Room)) (fun a U => a = #[(.ref a1), (.int p2)] ∧ Z.Warmed39 U.vm ∧ U.heap = h0) (fun _ _ _ _ _ => True) (fun _ U o U' => ∃ v L, o = .returned v ∧ Q7 Z a1 p2 zb yb w1 h0 n0 v U'.heap L ∧ FrameEnd U o U' L ({ frames := 0, cells := 0, slots := 0, locals := 0 } : Room).cells ({ frames := 0, cells := 0, slots := 0, locals := 0 } : Room).slots) := by
  refine MetFree.of_bodySF (plainFor_of_name pn_7) hisR ?_
  intro p e s m args below meth c s₁ Bd hml0 hP hK
  obtain ⟨rfl, hZ, hh⟩ := hP
  have hx := Bd.exec
  have hby := Bd.bytes
  have hml : c.maxLocals = 2 := hml0
  have hown : s.vm.findClass "java/lang/StringUTF16" = some m.cls := findClass_of_methodNamed Bd.named
  have hnm := (name_of_methodNamed Bd.named Bd.method).1
  have X0 : Stand p l e ({ frames := 0, cells := 0, slots := 0, locals := 0 } : Room) s m #[(.ref a1), (.int p2)] below meth c s₁ [] 0 0 := Stand.of_body Bd
  have e0 : s₁.heap = h0 := by rw [← hh, Bd.state]; rfl
  have N0 := Fr.nil n0
  refine own_start (Q := Q7 Z a1 p2 zb yb w1 h0 n0) (C := ({ frames := 0, cells := 0, slots := 0, locals := 0 } : Room).cells) (S := ({ frames := 0, cells := 0, slots := 0, locals := 0 } : Room).slots) ?_
  rw [ef_7 m a1 p2]
  refine Gen.on (b := s₁.setTop (mkF m 1 #[.val (.ref a1), .val (.int p2)] [(.int p2)])) ?_ (fun t k => XS.iloadN X0.here hx rfl (hb hby d7_0) rfl k)
  refine Gen.on (b := s₁.setTop (mkF m 2 #[.val (.ref a1), .val (.int p2)] [(.ref a1), (.int p2)])) ?_ (fun t k => XS.aloadN X0.here hx rfl (hb hby d7_1) rfl rfl k)
  obtain ⟨cl1, Ar1, SA1, NA1, HA1⟩ := id P0
  refine Gen.on (b := s₁.setTop (mkF m 3 #[.val (.ref a1), .val (.int p2)] [(.int zb), (.int p2)])) ?_ (fun t k => X0.arraylength hx (by rw [e0]; exact Ar1.1) (State.isArrayOf_alike hZ.alike Ar1.2.1) (g := (mkF m 2 #[.val (.ref a1), .val (.int p2)] [(.ref a1), (.int p2)])) rfl rfl (hb hby d7_2) t (by rw [len_of SA1 NA1]; exact k))
  refine Gen.on (b := s₁.setTop (mkF m 4 #[.val (.ref a1), .val (.int p2)] [(.int (p2 - zb))])) ?_ (fun t k => XS.isub X0.here hx rfl (hb hby d7_3) rfl k)
  refine Gen.on (b := s₁.setTop (mkF m 6 #[.val (.ref a1), .val (.int p2)] [(.int (31 : Int32)), (.int (p2 - zb))])) ?_ (fun t k => XS.bipush X0.here hx rfl (hb hby d7_4) k)
  refine Gen.on (b := s₁.setTop (mkF m 7 #[.val (.ref a1), .val (.int p2)] [(.int (((p2 - zb).toUInt32 >>> ((31 : Int32) &&& 31).toUInt32).toInt32))])) ?_ (fun t k => XS.iushr X0.here hx rfl (hb hby d7_6) rfl k)
  refine Gen.on (b := s₁.setTop (mkF m 8 #[.val (.ref a1), .val (.int p2)] [(.int (((p2 - zb).toUInt32 >>> ((31 : Int32) &&& 31).toUInt32).toInt32).toInt8.toInt32)])) ?_ (fun t k => XS.i2b X0.here hx rfl (hb hby d7_7) rfl k)
  refine own_retN (t := .byte) X0 hx Bd.returns (by simp) (own_nar_b _) (hb hby d7_8) (by decide) (by decide) ?_
  exact ⟨(by rw [hcw]), N0, e0⟩

def Byts (Z : State) (h : Heap) (b : Addr) (z : Int32) (y : Int32 → Int32) : Prop := (∃ yb, Afn Z h b .byte z yb ∧ ∀ j : Int32, ¬ j < 0 → j < z → own_lc (yb j) = y j) ∨ (∃ (z2 : Int32) (yb : Int32 → Int32), Afn Z h b .byte z2 yb ∧ z2.toInt = 2 * z.toInt ∧ ∀ j : Int32, ¬ j < 0 → j < z → own_gc (yb (own_d j)) (yb (own_d j + (1 : Int32))) = y j)

theorem own_ne {i p : Int32} (h : i < p) : ¬ i = p := fun q => by subst q; rw [Int32.lt_iff_toInt_lt] at h; omega
theorem d5_0 : decode jdk_52_method_16_code 0 = .ok (.iload_n 2, 1) := by decide +kernel
theorem d5_1 : decode jdk_52_method_16_code 1 = .ok (.newarray .byte, 2) := by decide +kernel
theorem d5_3 : decode jdk_52_method_16_code 3 = .ok (.astore_n 3, 1) := by decide +kernel
theorem d5_4 : decode jdk_52_method_16_code 4 = .ok (.aload_n 0, 1) := by decide +kernel
theorem d5_5 : decode jdk_52_method_16_code 5 = .ok (.iload_n 1, 1) := by decide +kernel
theorem d5_6 : decode jdk_52_method_16_code 6 = .ok (.aload_n 3, 1) := by decide +kernel
theorem d5_7 : decode jdk_52_method_16_code 7 = .ok (.iconst 0, 1) := by decide +kernel
theorem d5_8 : decode jdk_52_method_16_code 8 = .ok (.iload_n 2, 1) := by decide +kernel
theorem d5_9 : decode jdk_52_method_16_code 9 = .ok (.invokestatic 115, 3) := by decide +kernel
theorem d5_12 : decode jdk_52_method_16_code 12 = .ok (.istore 4, 2) := by decide +kernel
theorem d5_14 : decode jdk_52_method_16_code 14 = .ok (.iload 4, 2) := by decide +kernel
theorem d5_16 : decode jdk_52_method_16_code 16 = .ok (.iload_n 2, 1) := by decide +kernel
theorem d5_17 : decode jdk_52_method_16_code 17 = .ok (.if_icmp .eq 40, 3) := by decide +kernel
theorem d5_20 : decode jdk_52_method_16_code 20 = .ok (.aload_n 0, 1) := by decide +kernel
theorem d5_21 : decode jdk_52_method_16_code 21 = .ok (.iload_n 1, 1) := by decide +kernel
theorem d5_22 : decode jdk_52_method_16_code 22 = .ok (.iload_n 2, 1) := by decide +kernel
theorem d5_23 : decode jdk_52_method_16_code 23 = .ok (.invokestatic 119, 3) := by decide +kernel
theorem d5_26 : decode jdk_52_method_16_code 26 = .ok (.astore 5, 2) := by decide +kernel
theorem d5_28 : decode jdk_52_method_16_code 28 = .ok (.aload 5, 2) := by decide +kernel
theorem d5_30 : decode jdk_52_method_16_code 30 = .ok (.iload 4, 2) := by decide +kernel
theorem d5_32 : decode jdk_52_method_16_code 32 = .ok (.invokestatic 71, 3) := by decide +kernel
theorem d5_35 : decode jdk_52_method_16_code 35 = .ok (.sipush 255, 3) := by decide +kernel
theorem d5_38 : decode jdk_52_method_16_code 38 = .ok (.if_icmp .gt 16, 3) := by decide +kernel
theorem d5_54 : decode jdk_52_method_16_code 54 = .ok (.aload 5, 2) := by decide +kernel
theorem d5_56 : decode jdk_52_method_16_code 56 = .ok (.areturn, 1) := by decide +kernel
theorem d5_57 : decode jdk_52_method_16_code 57 = .ok (.aload_n 3, 1) := by decide +kernel
theorem d5_58 : decode jdk_52_method_16_code 58 = .ok (.areturn, 1) := by decide +kernel
theorem pn_5 : plainName "java/lang/StringUTF16" = true := by first | (simp [plainName, overriddenIn]; done) | decide +kernel
theorem pd_5_0 : parseMethodDescriptor "([CI[BII)I" = some ⟨[(.array .char), .int, (.array .byte), .int, .int], some .int⟩ := by decide +kernel
theorem pd_5_1 : parseMethodDescriptor "([CII)[B" = some ⟨[(.array .char), .int, .int], some (.array .byte)⟩ := by decide +kernel
theorem pd_5_2 : parseMethodDescriptor "([BI)C" = some ⟨[(.array .byte), .int], some .char⟩ := by decide +kernel
theorem ef_5 (m : MethodId) (x0 : Addr) (x1 : Int32) (x2 : Int32) : entryFrame m #[(.ref x0), (.int x1), (.int x2)] 6 = mkF m 0 #[.val (.ref x0), .val (.int x1), .val (.int x2), .unset, .unset, .unset] [] := by first | (simp [entryFrame, mkF, argsToLocals, Value.category]; done) | rfl
def Q5 (Z : State) (p3 : Int32) (y : Int32 → Int32) (h0 : Heap) (n0 : Nat) (v : Option Value) (h : Heap) (L : List Loc) : Prop := ∃ xr : Addr, v = some (.ref xr) ∧ Fr n0 L ∧ Keep h0 h [] ∧ h0.size ≤ xr ∧ Byts Z h xr p3 y
set_option maxRecDepth 65536 in
set_option maxHeartbeats 40000000 in
theorem rm5 (l : Launch) (Z : State) (a0 : Array Value) (hw : ∀ d ∈ tables_1, d.before a0 Z = true) (wds : List Jvm.Cond) (a1 : Addr) (p3 : Int32) (y : Int32 → Int32) (z2 w0 : Int32) (f0 : Value) (h0 : Heap) (n0 : Nat) (Z0 : n0 ≤ h0.size) (P0 : Afn Z h0 a1 .char p3 y) (OL : Old Z n0 h0) (sts : Sts Z w0 f0) (hc0 : ¬ p3 < (0 : Int32)) (hc1 : p3 < (1073741823 : Int32)) (hz : f18 p3 = z2) (hn : ¬ z2 < 0) (hcap : z2.toNatClampNeg ≤ 82) (h2z : z2.toInt = 2 * p3.toInt) (hsm : p3.toInt < 1000) (hcap1 : p3.toNatClampNeg ≤ 41) (hy : ∀ j : Int32, ¬ j < 0 → j < p3 → ¬ y j < 0 ∧ ¬ (65535 : Int32) < y j) :
    MetFree l (⟨"java/lang/StringUTF16", "compress", "([CII)[B"⟩ : MethodName) (head1 (Jvm.Cond.code (⟨"java/lang/StringUTF16", "compress", "([CII)[B"⟩ : MethodName) jdk_52_method_16_code 6 (some (.array .byte)) :: wds) ({ frames := 3, cells := 2, slots := 123, locals := 90 } : Room)) (fun a U => a = #[(.ref a1), (.int (0 : Int32)), (.int p3)] ∧ Z.Warmed39 U.vm ∧ U.heap = h0) (fun _ _ _ _ _ => True) (fun _ U o U' => ∃ v L, o = .returned v ∧ Q5 Z p3 y h0 n0 v U'.heap L ∧ FrameEnd U o U' L ({ frames := 3, cells := 2, slots := 123, locals := 90 } : Room).cells ({ frames := 3, cells := 2, slots := 123, locals := 90 } : Room).slots) := by
  refine MetFree.of_bodySF (plainFor_of_name pn_5) hisR ?_
  intro p e s m args below meth c s₁ Bd hml0 hP hK
  obtain ⟨rfl, hZ, hh⟩ := hP
  have hx := Bd.exec
  have hby := Bd.bytes
  have hml : c.maxLocals = 6 := hml0
  have hown : s.vm.findClass "java/lang/StringUTF16" = some m.cls := findClass_of_methodNamed Bd.named
  have hnm := (name_of_methodNamed Bd.named Bd.method).1
  have X0 : Stand p l e ({ frames := 3, cells := 2, slots := 123, locals := 90 } : Room) s m #[(.ref a1), (.int (0 : Int32)), (.int p3)] below meth c s₁ [] 0 0 := Stand.of_body Bd
  have e0 : s₁.heap = h0 := by rw [← hh, Bd.state]; rfl
  have N0 := Fr.nil n0
  refine own_start (Q := Q5 Z p3 y h0 n0) (C := ({ frames := 3, cells := 2, slots := 123, locals := 90 } : Room).cells) (S := ({ frames := 3, cells := 2, slots := 123, locals := 90 } : Room).slots) ?_
  rw [ef_5 m a1 (0 : Int32) p3]
  have K0 : Keep h0 h0 [] := Keep.refl h0 []
  obtain ⟨SC, hw0, SF, hf0, SA, SH, SL⟩ := id sts
  refine Gen.on (b := s₁.setTop (mkF m 1 #[.val (.ref a1), .val (.int (0 : Int32)), .val (.int p3), .unset, .unset, .unset] [(.int p3)])) ?_ (fun t k => XS.iloadN X0.here hx rfl (hb hby d5_0) rfl k)
  obtain ⟨b1, g1⟩ : ∃ z, z = h0.size := ⟨_, rfl⟩
  have ne_a1_b1 : a1 ≠ b1 := Nat.ne_of_lt (Nat.lt_of_lt_of_le P0.lt (Nat.le_of_eq g1.symm))
  have g_b1 : n0 ≤ b1 := Nat.le_trans Z0 (Nat.le_of_eq g1.symm)
  have sz_b1 : h0.size ≤ b1 := Nat.le_trans K0.1 (Nat.le_of_eq g1.symm)
  obtain ⟨T1, h1, k1, X1, e1, E1, A1, st1⟩ := newP X0 hx hZ (hw _ (List.mem_of_getElem? (i := 24) rfl)) e0 (g := (mkF m 1 #[.val (.ref a1), .val (.int (0 : Int32)), .val (.int p3), .unset, .unset, .unset] [(.int p3)])) rfl (hb hby d5_1) rfl P0.nn (cap := 41) hcap1 (by decide) (by decide) (by decide)
  rw [← g1] at A1 st1
  have Z1 : n0 ≤ h1.size := Nat.le_trans Z0 E1.1
  have K1 : Keep h0 h1 [] := K0.ext E1
  have V1 : Afn Z h1 b1 .byte p3 (fun _ => 0) := Afn.new A1 P0.nn rfl
  refine Gen.on (b := T1.setTop (mkF m 3 #[.val (.ref a1), .val (.int (0 : Int32)), .val (.int p3), .unset, .unset, .unset] [(.ref b1)])) ?_ (fun t k => st1 t k)
  refine Gen.on (b := T1.setTop (mkF m 4 #[.val (.ref a1), .val (.int (0 : Int32)), .val (.int p3), .val (.ref b1), .unset, .unset] [])) ?_ (fun t k => XS.astoreN X1.here hx rfl (hb hby d5_3) rfl rfl (l' := #[.val (.ref a1), .val (.int (0 : Int32)), .val (.int p3), .val (.ref b1), .unset, .unset]) rfl k)
  refine Gen.on (b := T1.setTop (mkF m 5 #[.val (.ref a1), .val (.int (0 : Int32)), .val (.int p3), .val (.ref b1), .unset, .unset] [(.ref a1)])) ?_ (fun t k => XS.aloadN X1.here hx rfl (hb hby d5_4) rfl rfl k)
  refine Gen.on (b := T1.setTop (mkF m 6 #[.val (.ref a1), .val (.int (0 : Int32)), .val (.int p3), .val (.ref b1), .unset, .unset] [(.int (0 : Int32)), (.ref a1)])) ?_ (fun t k => XS.iloadN X1.here hx rfl (hb hby d5_5) rfl k)
  refine Gen.on (b := T1.setTop (mkF m 7 #[.val (.ref a1), .val (.int (0 : Int32)), .val (.int p3), .val (.ref b1), .unset, .unset] [(.ref b1), (.int (0 : Int32)), (.ref a1)])) ?_ (fun t k => XS.aloadN X1.here hx rfl (hb hby d5_6) rfl rfl k)
  refine Gen.on (b := T1.setTop (mkF m 8 #[.val (.ref a1), .val (.int (0 : Int32)), .val (.int p3), .val (.ref b1), .unset, .unset] [(.int (0 : Int32)), (.ref b1), (.int (0 : Int32)), (.ref a1)])) ?_ (fun t k => XS.iconst X1.here hx rfl (hb hby d5_7) k)
  refine Gen.on (b := T1.setTop (mkF m 9 #[.val (.ref a1), .val (.int (0 : Int32)), .val (.int p3), .val (.ref b1), .unset, .unset] [(.int p3), (.int (0 : Int32)), (.ref b1), (.int (0 : Int32)), (.ref a1)])) ?_ (fun t k => XS.iloadN X1.here hx rfl (hb hby d5_8) rfl k)
  have fa3 := (P0.ext E1)
  obtain ⟨_, _, ⟨T2, L2, k2, n2⟩, -, X2, ⟨Lc2, hQ2, l2, y2, z2⟩, st2⟩ := Jvm.LawKit.callS X1 hx (y := (⟨"java/lang/StringUTF16", "compress", "([CI[BII)I"⟩ : MethodName)) hown (mvT hZ (hw _ (List.mem_of_getElem? (i := 25) rfl))) (mvT hZ (hw _ (List.mem_of_getElem? (i := 26) rfl))) (mvT hZ (hw _ (List.mem_of_getElem? (i := 22) rfl))) (mvT hZ (hw _ (List.mem_of_getElem? (i := 27) rfl))) (by decide) (backOf (W := 0) (rm6 l Z a0 hw [] a1 b1 p3 y (fun _ => 0) h1 n0 Z1 fa3 V1 g_b1 ne_a1_b1) hZ (hw _ (List.mem_of_getElem? (i := 27) rfl)) (hw _ (List.mem_of_getElem? (i := 22) rfl)) (by decide) (by decide)) (g := (mkF m 9 #[.val (.ref a1), .val (.int (0 : Int32)), .val (.int p3), .val (.ref b1), .unset, .unset] [(.int p3), (.int (0 : Int32)), (.ref b1), (.int (0 : Int32)), (.ref a1)])) rfl (by rw [hml]; rfl) (argsL := [(.ref a1), (.int (0 : Int32)), (.ref b1), (.int (0 : Int32)), (.int p3)]) (rest := []) (lenOf pd_5_0 rfl) rfl (by show 2 * 0 + _ ≤ _; exact Nat.le_of_eq rfl) (hb hby d5_9) (fun _ _ => ⟨rfl, e1, (by decide : 1 + 0 ≤ _), (by decide : 41 + 0 ≤ _)⟩)
  dsimp only [Pt.U, Pt.locs, Pt.cells, Pt.slots] at X2 l2 y2 z2 st2 hQ2
  subst l2 y2 z2
  obtain ⟨N2q, Kc2, hH2⟩ := hQ2
  have N2 := Fr.app N0 N2q
  have Z2 : n0 ≤ T2.heap.size := Nat.le_trans Z1 Kc2.1
  have K2 : Keep h0 T2.heap [] := K1.trans Kc2 (allS (Or.inr sz_b1) all0)
  rcases hH2 with ⟨rfl, hall, yb, Yb, hyb⟩ | ⟨i, rfl, hi0, hlt, hbig⟩
  · refine Gen.on (b := T2.setTop (mkF m 12 #[.val (.ref a1), .val (.int (0 : Int32)), .val (.int p3), .val (.ref b1), .unset, .unset] [(.int p3)])) ?_ (fun t k => st2 t k)
    refine Gen.on (b := T2.setTop (mkF m 14 #[.val (.ref a1), .val (.int (0 : Int32)), .val (.int p3), .val (.ref b1), .val (.int p3), .unset] [])) ?_ (fun t k => XS.istore X2.here hx rfl (hb hby d5_12) rfl (l' := #[.val (.ref a1), .val (.int (0 : Int32)), .val (.int p3), .val (.ref b1), .val (.int p3), .unset]) rfl k)
    refine Gen.on (b := T2.setTop (mkF m 16 #[.val (.ref a1), .val (.int (0 : Int32)), .val (.int p3), .val (.ref b1), .val (.int p3), .unset] [(.int p3)])) ?_ (fun t k => XS.iload X2.here hx rfl (hb hby d5_14) rfl k)
    refine Gen.on (b := T2.setTop (mkF m 17 #[.val (.ref a1), .val (.int (0 : Int32)), .val (.int p3), .val (.ref b1), .val (.int p3), .unset] [(.int p3), (.int p3)])) ?_ (fun t k => XS.iloadN X2.here hx rfl (hb hby d5_16) rfl k)
    refine Gen.on (b := T2.setTop (mkF m 57 #[.val (.ref a1), .val (.int (0 : Int32)), .val (.int p3), .val (.ref b1), .val (.int p3), .unset] [])) ?_ (fun t k => XS.icmpYes X2.here hx rfl (pc0 := 17) (pc' := 57) rfl (hb hby d5_17) rfl (teq (rfl : p3 = p3)).1 (by decide) (by decide) k)
    refine Gen.on (b := T2.setTop (mkF m 58 #[.val (.ref a1), .val (.int (0 : Int32)), .val (.int p3), .val (.ref b1), .val (.int p3), .unset] [(.ref b1)])) ?_ (fun t k => XS.aloadN X2.here hx rfl (hb hby d5_57) rfl rfl k)
    refine own_retA X2 hx Bd.returns rfl rfl (hb hby d5_58) (by decide) (by decide) ?_
    show Q5 Z p3 y h0 n0 _ T2.heap _
    exact ⟨_, rfl, N2, K2, sz_b1, Or.inl ⟨yb, Yb, fun j h1 h2 => by rw [hyb j h1 h2]; exact own_lat (hy j h1 h2).1 (hall j h1 h2)⟩⟩
  · refine Gen.on (b := T2.setTop (mkF m 12 #[.val (.ref a1), .val (.int (0 : Int32)), .val (.int p3), .val (.ref b1), .unset, .unset] [(.int i)])) ?_ (fun t k => st2 t k)
    refine Gen.on (b := T2.setTop (mkF m 14 #[.val (.ref a1), .val (.int (0 : Int32)), .val (.int p3), .val (.ref b1), .val (.int i), .unset] [])) ?_ (fun t k => XS.istore X2.here hx rfl (hb hby d5_12) rfl (l' := #[.val (.ref a1), .val (.int (0 : Int32)), .val (.int p3), .val (.ref b1), .val (.int i), .unset]) rfl k)
    refine Gen.on (b := T2.setTop (mkF m 16 #[.val (.ref a1), .val (.int (0 : Int32)), .val (.int p3), .val (.ref b1), .val (.int i), .unset] [(.int i)])) ?_ (fun t k => XS.iload X2.here hx rfl (hb hby d5_14) rfl k)
    refine Gen.on (b := T2.setTop (mkF m 17 #[.val (.ref a1), .val (.int (0 : Int32)), .val (.int p3), .val (.ref b1), .val (.int i), .unset] [(.int p3), (.int i)])) ?_ (fun t k => XS.iloadN X2.here hx rfl (hb hby d5_16) rfl k)
    refine Gen.on (b := T2.setTop (mkF m 20 #[.val (.ref a1), .val (.int (0 : Int32)), .val (.int p3), .val (.ref b1), .val (.int i), .unset] [])) ?_ (fun t k => XS.icmpNo X2.here hx rfl (hb hby d5_17) rfl (feq (own_ne hlt)).1 k)
    refine Gen.on (b := T2.setTop (mkF m 21 #[.val (.ref a1), .val (.int (0 : Int32)), .val (.int p3), .val (.ref b1), .val (.int i), .unset] [(.ref a1)])) ?_ (fun t k => XS.aloadN X2.here hx rfl (hb hby d5_20) rfl rfl k)
    refine Gen.on (b := T2.setTop (mkF m 22 #[.val (.ref a1), .val (.int (0 : Int32)), .val (.int p3), .val (.ref b1), .val (.int i), .unset] [(.int (0 : Int32)), (.ref a1)])) ?_ (fun t k => XS.iloadN X2.here hx rfl (hb hby d5_21) rfl k)
    refine Gen.on (b := T2.setTop (mkF m 23 #[.val (.ref a1), .val (.int (0 : Int32)), .val (.int p3), .val (.ref b1), .val (.int i), .unset] [(.int p3), (.int (0 : Int32)), (.ref a1)])) ?_ (fun t k => XS.iloadN X2.here hx rfl (hb hby d5_22) rfl k)
    have fa5 := (fa3.keep Kc2 (ninS ne_a1_b1 nin0))
    have fa6 := ((OL.ext E1).keep Kc2 (allS g_b1 all0))
    obtain ⟨_, _, ⟨T4, L4, k4, n4⟩, -, X4, ⟨Lc4, hQ4, l4, y4, z4⟩, st4⟩ := Jvm.LawKit.callS X2 hx (y := (⟨"java/lang/StringUTF16", "toBytes", "([CII)[B"⟩ : MethodName)) hown (mvT hZ (hw _ (List.mem_of_getElem? (i := 71) rfl))) (mvT hZ (hw _ (List.mem_of_getElem? (i := 72) rfl))) (mvT hZ (hw _ (List.mem_of_getElem? (i := 22) rfl))) (mvT hZ (hw _ (List.mem_of_getElem? (i := 73) rfl))) (by decide) (backOf (W := 0) (rm16 l Z a0 hw [] a1 p3 y z2 w0 f0 T2.heap n0 Z2 fa5 fa6 sts hc0 hc1 hz hn hcap h2z hsm) hZ (hw _ (List.mem_of_getElem? (i := 73) rfl)) (hw _ (List.mem_of_getElem? (i := 22) rfl)) (by decide) (by decide)) (g := (mkF m 23 #[.val (.ref a1), .val (.int (0 : Int32)), .val (.int p3), .val (.ref b1), .val (.int i), .unset] [(.int p3), (.int (0 : Int32)), (.ref a1)])) rfl (by rw [hml]; rfl) (argsL := [(.ref a1), (.int (0 : Int32)), (.int p3)]) (rest := []) (lenOf pd_5_1 rfl) rfl (by show 2 * 0 + _ ≤ _; exact Nat.le_of_eq rfl) (hb hby d5_23) (fun _ _ => ⟨rfl, rfl, (by decide : 1 + 1 ≤ _), (by decide : 41 + 82 ≤ _)⟩)
    dsimp only [Pt.U, Pt.locs, Pt.cells, Pt.slots] at X4 l4 y4 z4 st4 hQ4
    subst l4 y4 z4
    obtain ⟨xr4, rfl, N4q, Kc4, hge4, yb, Yb, hyb⟩ := hQ4
    have N4 := Fr.app N2 N4q
    have sz_xr4 := Nat.le_trans K2.1 hge4
    have Z4 : n0 ≤ T4.heap.size := Nat.le_trans Z2 Kc4.1
    have K4 : Keep h0 T4.heap [] := K2.trans Kc4 all0
    refine Gen.on (b := T4.setTop (mkF m 26 #[.val (.ref a1), .val (.int (0 : Int32)), .val (.int p3), .val (.ref b1), .val (.int i), .unset] [(.ref xr4)])) ?_ (fun t k => st4 t k)
    refine Gen.on (b := T4.setTop (mkF m 28 #[.val (.ref a1), .val (.int (0 : Int32)), .val (.int p3), .val (.ref b1), .val (.int i), .val (.ref xr4)] [])) ?_ (fun t k => XS.astore X4.here hx rfl (hb hby d5_26) rfl rfl (l' := #[.val (.ref a1), .val (.int (0 : Int32)), .val (.int p3), .val (.ref b1), .val (.int i), .val (.ref xr4)]) rfl k)
    refine Gen.on (b := T4.setTop (mkF m 30 #[.val (.ref a1), .val (.int (0 : Int32)), .val (.int p3), .val (.ref b1), .val (.int i), .val (.ref xr4)] [(.ref xr4)])) ?_ (fun t k => XS.aload X4.here hx rfl (hb hby d5_28) rfl rfl k)
    refine Gen.on (b := T4.setTop (mkF m 32 #[.val (.ref a1), .val (.int (0 : Int32)), .val (.int p3), .val (.ref b1), .val (.int i), .val (.ref xr4)] [(.int i), (.ref xr4)])) ?_ (fun t k => XS.iload X4.here hx rfl (hb hby d5_30) rfl k)
    have hdr := own_dr hi0 hlt h2z hsm
    have fa8 := (fa6.keep Kc4 all0)
    obtain ⟨_, _, ⟨T7, L7, k7, n7⟩, -, X7, ⟨Lc7, hQ7, l7, y7, z7⟩, st7⟩ := Jvm.LawKit.callS X4 hx (y := (⟨"java/lang/StringUTF16", "getChar", "([BI)C"⟩ : MethodName)) hown (mvT hZ (hw _ (List.mem_of_getElem? (i := 87) rfl))) (mvT hZ (hw _ (List.mem_of_getElem? (i := 88) rfl))) (mvT hZ (hw _ (List.mem_of_getElem? (i := 22) rfl))) (mvT hZ (hw _ (List.mem_of_getElem? (i := 89) rfl))) (by decide) (backOf (W := 0) (rm20 l Z a0 hw [] xr4 i z2 yb (own_d i) w0 f0 T4.heap n0 Z4 Yb fa8 (sts) (rfl) (hdr.1) (hdr.2.1) (hdr.2.2.1) (hdr.2.2.2)) hZ (hw _ (List.mem_of_getElem? (i := 89) rfl)) (hw _ (List.mem_of_getElem? (i := 22) rfl)) (by decide) (by decide)) (g := (mkF m 32 #[.val (.ref a1), .val (.int (0 : Int32)), .val (.int p3), .val (.ref b1), .val (.int i), .val (.ref xr4)] [(.int i), (.ref xr4)])) rfl (by rw [hml]; rfl) (argsL := [(.ref xr4), (.int i)]) (rest := []) (lenOf pd_5_2 rfl) rfl (by show 2 * 0 + _ ≤ _; exact Nat.le_of_eq rfl) (hb hby d5_32) (fun _ _ => ⟨rfl, rfl, (by decide : 2 + 0 ≤ _), (by decide : 123 + 0 ≤ _)⟩)
    dsimp only [Pt.U, Pt.locs, Pt.cells, Pt.slots] at X7 l7 y7 z7 st7 hQ7
    subst l7 y7 z7
    obtain ⟨rfl, N7q, e7⟩ := hQ7
    have N7 := Fr.app N4 N7q
    refine Gen.on (b := T7.setTop (mkF m 35 #[.val (.ref a1), .val (.int (0 : Int32)), .val (.int p3), .val (.ref b1), .val (.int i), .val (.ref xr4)] [(.int (own_gc (yb (own_d i)) (yb ((own_d i) + (1 : Int32)))))])) ?_ (fun t k => st7 t k)
    refine Gen.on (b := T7.setTop (mkF m 38 #[.val (.ref a1), .val (.int (0 : Int32)), .val (.int p3), .val (.ref b1), .val (.int i), .val (.ref xr4)] [(.int (255 : Int32)), (.int (own_gc (yb (own_d i)) (yb ((own_d i) + (1 : Int32)))))])) ?_ (fun t k => XS.sipush X7.here hx rfl (hb hby d5_35) k)
    have hgc : (own_gc (yb (own_d i)) (yb ((own_d i) + (1 : Int32)))) = y i := by rw [(hyb i hi0 hlt).1, (hyb i hi0 hlt).2]; exact own_utf (hy i hi0 hlt).1 (hy i hi0 hlt).2
    refine Gen.on (b := T7.setTop (mkF m 54 #[.val (.ref a1), .val (.int (0 : Int32)), .val (.int p3), .val (.ref b1), .val (.int i), .val (.ref xr4)] [])) ?_ (fun t k => XS.icmpYes X7.here hx rfl (pc0 := 38) (pc' := 54) rfl (hb hby d5_38) rfl (tlt (hgc.symm ▸ hbig)).2.2.1 (by decide) (by decide) k)
    refine Gen.on (b := T7.setTop (mkF m 56 #[.val (.ref a1), .val (.int (0 : Int32)), .val (.int p3), .val (.ref b1), .val (.int i), .val (.ref xr4)] [(.ref xr4)])) ?_ (fun t k => XS.aload X7.here hx rfl (hb hby d5_54) rfl rfl k)
    refine own_retA X7 hx Bd.returns rfl rfl (hb hby d5_56) (by decide) (by decide) ?_
    show Q5 Z p3 y h0 n0 _ T7.heap _
    rw [e7]
    exact ⟨_, rfl, N7, K4, sz_xr4, Or.inr ⟨z2, yb, Yb, h2z, fun j h1 h2 => by rw [(hyb j h1 h2).1, (hyb j h1 h2).2]; exact own_utf (hy j h1 h2).1 (hy j h1 h2).2⟩⟩

/-- the String s says the chars y, z of them -/
def Str (Z : State) (h : Heap) (s : Addr) (z : Int32) (y : Int32 → Int32) : Prop := ∃ (b : Addr) (w : Int32), Fld Z h s "java/lang/String" "value" "[B" (.ref b) ∧ Fld Z h s "java/lang/String" "coder" "B" (.int w) ∧ ((w = 0 ∧ ∃ yb, Afn Z h b .byte z yb ∧ ∀ j : Int32, ¬ j < 0 → j < z → own_lc (yb j) = y j) ∨ (w = 1 ∧ ∃ (z2 : Int32) (yb : Int32 → Int32), Afn Z h b .byte z2 yb ∧ z2.toInt = 2 * z.toInt ∧ ∀ j : Int32, ¬ j < 0 → j < z → own_gc (yb (own_d j)) (yb (own_d j + (1 : Int32))) = y j))
theorem own_cw0 (p : Int32) : (((p - p).toUInt32 >>> ((31 : Int32) &&& 31).toUInt32).toInt32).toInt8.toInt32 = (0 : Int32) := by
  rw [Int32.sub_self]; decide +kernel
theorem own_cw1 {p z2 : Int32} (h2 : z2.toInt = 2 * p.toInt) (h0 : ¬ p < 0) (hne : ¬ p = (0 : Int32)) (hs : p.toInt < 1000) : (((p - z2).toUInt32 >>> ((31 : Int32) &&& 31).toUInt32).toInt32).toInt8.toInt32 = (1 : Int32) := by
  rw [Int32.lt_iff_toInt_lt, own_e0] at h0
  rw [← Int32.toInt_inj, own_e0] at hne
  have e : (p - z2).toInt = - p.toInt := by rw [Jvm.Kit.i32_sub (by omega) (by omega)]; omega
  generalize p - z2 = d at *
  have hn : d.toBitVec.toNat = (4294967296 - p.toInt).toNat := by
    have q := Int32.toInt_toBitVec d
    rw [BitVec.toInt_eq_toNat_cond] at q
    have := d.toBitVec.isLt
    split at q <;> omega
  have k : (d.toUInt32 >>> ((31 : Int32) &&& 31).toUInt32).toInt32 = 1 := by
    apply Int32.toBitVec_inj.mp
    rw [UInt32.toBitVec_toInt32, UInt32.toBitVec_shiftRight, Int32.toBitVec_toUInt32]
    apply BitVec.eq_of_toNat_eq
    rw [BitVec.ushiftRight_eq', BitVec.toNat_ushiftRight, BitVec.toNat_umod, hn, Nat.shiftRight_eq_div_pow]
    have e2 : (((31 : Int32) &&& 31).toUInt32).toBitVec.toNat % (32#32 : BitVec 32).toNat = 31 := by decide +kernel
    have e3 : ((1 : Int32).toBitVec).toNat = 1 := by decide +kernel
    show (4294967296 - p.toInt).toNat / 2 ^ (((31 : Int32) &&& 31).toUInt32.toBitVec.toNat % (32#32 : BitVec 32).toNat) = (1 : Int32).toBitVec.toNat
    rw [e2, e3]
    omega
  rw [k]; decide +kernel


theorem d3_0 : decode jdk_42_method_149_code 0 = .ok (.aload_n 0, 1) := by decide +kernel
theorem d3_1 : decode jdk_42_method_149_code 1 = .ok (.invokespecial 1, 3) := by decide +kernel
theorem d3_4 : decode jdk_42_method_149_code 4 = .ok (.iload_n 3, 1) := by decide +kernel
theorem d3_5 : decode jdk_42_method_149_code 5 = .ok (.ifCond .ne 22, 3) := by decide +kernel
theorem d3_27 : decode jdk_42_method_149_code 27 = .ok (.getstatic 38, 3) := by decide +kernel
theorem d3_30 : decode jdk_42_method_149_code 30 = .ok (.ifCond .eq 28, 3) := by decide +kernel
theorem d3_33 : decode jdk_42_method_149_code 33 = .ok (.aload_n 1, 1) := by decide +kernel
theorem d3_34 : decode jdk_42_method_149_code 34 = .ok (.iload_n 2, 1) := by decide +kernel
theorem d3_35 : decode jdk_42_method_149_code 35 = .ok (.iload_n 3, 1) := by decide +kernel
theorem d3_36 : decode jdk_42_method_149_code 36 = .ok (.invokestatic 177, 3) := by decide +kernel
theorem d3_39 : decode jdk_42_method_149_code 39 = .ok (.astore 5, 2) := by decide +kernel
theorem d3_41 : decode jdk_42_method_149_code 41 = .ok (.aload_n 0, 1) := by decide +kernel
theorem d3_42 : decode jdk_42_method_149_code 42 = .ok (.aload 5, 2) := by decide +kernel
theorem d3_44 : decode jdk_42_method_149_code 44 = .ok (.iload_n 3, 1) := by decide +kernel
theorem d3_45 : decode jdk_42_method_149_code 45 = .ok (.invokestatic 47, 3) := by decide +kernel
theorem d3_48 : decode jdk_42_method_149_code 48 = .ok (.putfield 15, 3) := by decide +kernel
theorem d3_51 : decode jdk_42_method_149_code 51 = .ok (.aload_n 0, 1) := by decide +kernel
theorem d3_52 : decode jdk_42_method_149_code 52 = .ok (.aload 5, 2) := by decide +kernel
theorem d3_54 : decode jdk_42_method_149_code 54 = .ok (.putfield 9, 3) := by decide +kernel
theorem d3_57 : decode jdk_42_method_149_code 57 = .ok (.return_, 1) := by decide +kernel
theorem pn_3 : plainName "java/lang/String" = true := by first | (simp [plainName, overriddenIn]; done) | decide +kernel
theorem pd_3_0 : parseMethodDescriptor "([CII)[B" = some ⟨[(.array .char), .int, .int], some (.array .byte)⟩ := by decide +kernel
theorem pd_3_1 : parseMethodDescriptor "([BI)B" = some ⟨[(.array .byte), .int], some .byte⟩ := by decide +kernel
theorem ef_3 (m : MethodId) (x0 : Addr) (x1 : Addr) (x2 : Int32) (x3 : Int32) : entryFrame m #[(.ref x0), (.ref x1), (.int x2), (.int x3), .null] 6 = mkF m 0 #[.val (.ref x0), .val (.ref x1), .val (.int x2), .val (.int x3), .val .null, .unset] [] := by first | (simp [entryFrame, mkF, argsToLocals, Value.category]; done) | rfl
def Q3 (Z : State) (a1 : Addr) (a2 : Addr) (p4 : Int32) (u1 : Value) (u2 : Value) (y : Int32 → Int32) (z2 : Int32) (w0 : Int32) (f0 : Value) (h0 : Heap) (n0 : Nat) (v : Option Value) (h : Heap) (L : List Loc) : Prop := v = none ∧ Fr n0 L ∧ Keep h0 h [a1] ∧ Exa Z h a1 "java/lang/String" ∧ Str Z h a1 p4 y
set_option maxRecDepth 65536 in
set_option maxHeartbeats 40000000 in
theorem rm3 (l : Launch) (Z : State) (a0 : Array Value) (hw : ∀ d ∈ tables_1, d.before a0 Z = true) (wds : List Jvm.Cond) (a1 : Addr) (a2 : Addr) (p4 : Int32) (u1 : Value) (u2 : Value) (y : Int32 → Int32) (z2 : Int32) (w0 : Int32) (f0 : Value) (h0 : Heap) (n0 : Nat) (Z0 : n0 ≤ h0.size) (P0 : Exa Z h0 a1 "java/lang/String") (P1 : Fld Z h0 a1 "java/lang/String" "value" "[B" u1) (P2 : Fld Z h0 a1 "java/lang/String" "coder" "B" u2) (P3 : Afn Z h0 a2 .char p4 y) (P4 : Old Z n0 h0) (g_a1 : n0 ≤ a1) (sts : Sts Z w0 f0) (hc0 : ¬ p4 < (0 : Int32)) (hc1 : p4 < (1073741823 : Int32)) (hz : f18 p4 = z2) (hn : ¬ z2 < 0) (hcap : z2.toNatClampNeg ≤ 82) (h2z : z2.toInt = 2 * p4.toInt) (hsm : p4.toInt < 1000) (hcap1 : p4.toNatClampNeg ≤ 41) (hy : ∀ j : Int32, ¬ j < 0 → j < p4 → ¬ y j < 0 ∧ ¬ (65535 : Int32) < y j) (hne0 : ¬ p4 = (0 : Int32)) :
    MetFree l (⟨"java/lang/String", "<init>", "([CIILjava/lang/Void;)V"⟩ : MethodName) (head1 (Jvm.Cond.code (⟨"java/lang/String", "<init>", "([CIILjava/lang/Void;)V"⟩ : MethodName) jdk_42_method_149_code 6 none :: wds) ({ frames := 4, cells := 2, slots := 123, locals := 107 } : Room)) (fun a U => a = #[(.ref a1), (.ref a2), (.int (0 : Int32)), (.int p4), .null] ∧ Z.Warmed39 U.vm ∧ U.heap = h0) (fun _ _ _ _ _ => True) (fun _ U o U' => ∃ v L, o = .returned v ∧ Q3 Z a1 a2 p4 u1 u2 y z2 w0 f0 h0 n0 v U'.heap L ∧ FrameEnd U o U' L ({ frames := 4, cells := 2, slots := 123, locals := 107 } : Room).cells ({ frames := 4, cells := 2, slots := 123, locals := 107 } : Room).slots) := by
  refine MetFree.of_bodySF (plainFor_of_name pn_3) hisR ?_
  intro p e s m args below meth c s₁ Bd hml0 hP hK
  obtain ⟨rfl, hZ, hh⟩ := hP
  have hx := Bd.exec
  have hby := Bd.bytes
  have hml : c.maxLocals = 6 := hml0
  have hown : s.vm.findClass "java/lang/String" = some m.cls := findClass_of_methodNamed Bd.named
  have hnm := (name_of_methodNamed Bd.named Bd.method).1
  have X0 : Stand p l e ({ frames := 4, cells := 2, slots := 123, locals := 107 } : Room) s m #[(.ref a1), (.ref a2), (.int (0 : Int32)), (.int p4), .null] below meth c s₁ [] 0 0 := Stand.of_body Bd
  have e0 : s₁.heap = h0 := by rw [← hh, Bd.state]; rfl
  have N0 := Fr.nil n0
  refine own_start (Q := Q3 Z a1 a2 p4 u1 u2 y z2 w0 f0 h0 n0) (C := ({ frames := 4, cells := 2, slots := 123, locals := 107 } : Room).cells) (S := ({ frames := 4, cells := 2, slots := 123, locals := 107 } : Room).slots) ?_
  rw [ef_3 m a1 a2 (0 : Int32) p4]
  have K0 : Keep h0 h0 [a1] := Keep.refl h0 [a1]
  obtain ⟨SC, hw0, SF, hf0, SA, SH, SL⟩ := id sts
  refine Gen.on (b := s₁.setTop (mkF m 1 #[.val (.ref a1), .val (.ref a2), .val (.int (0 : Int32)), .val (.int p4), .val .null, .unset] [(.ref a1)])) ?_ (fun t k => XS.aloadN X0.here hx rfl (hb hby d3_0) rfl rfl k)
  obtain ⟨T1, X1, e1, st1⟩ := initO X0 hx hZ hown (hw _ (List.mem_of_getElem? (i := 16) rfl)) (hw _ (List.mem_of_getElem? (i := 17) rfl)) (hw _ (List.mem_of_getElem? (i := 18) rfl)) e0 (g := (mkF m 1 #[.val (.ref a1), .val (.ref a2), .val (.int (0 : Int32)), .val (.int p4), .val .null, .unset] [(.ref a1)])) rfl (by rw [hml]; rfl) rfl (hb hby d3_1) (by decide) (W := 0) (by show 2 * 0 + _ ≤ _; exact Nat.le_of_eq rfl) (by decide)
  refine Gen.on (b := T1.setTop (mkF m 4 #[.val (.ref a1), .val (.ref a2), .val (.int (0 : Int32)), .val (.int p4), .val .null, .unset] [])) ?_ (fun t k => st1 t k)
  refine Gen.on (b := T1.setTop (mkF m 5 #[.val (.ref a1), .val (.ref a2), .val (.int (0 : Int32)), .val (.int p4), .val .null, .unset] [(.int p4)])) ?_ (fun t k => XS.iloadN X1.here hx rfl (hb hby d3_4) rfl k)
  refine Gen.on (b := T1.setTop (mkF m 27 #[.val (.ref a1), .val (.ref a2), .val (.int (0 : Int32)), .val (.int p4), .val .null, .unset] [])) ?_ (fun t k => XS.ifYes X1.here hx rfl (pc0 := 5) (pc' := 27) rfl (hb hby d3_5) rfl ((if0 _ _).trans (feq hne0).2) (by decide) (by decide) k)
  have fa3 := Sta.ext P4.2 SC
  obtain ⟨T2, X2, e2, st2⟩ := getS2 X1 hx hZ hown (host := "") (Or.inl (hw _ (List.mem_of_getElem? (i := 19) rfl))) Via.refl e1 fa3 (g := (mkF m 27 #[.val (.ref a1), .val (.ref a2), .val (.int (0 : Int32)), .val (.int p4), .val .null, .unset] [])) rfl (hb hby d3_27)
  refine Gen.on (b := T2.setTop (mkF m 30 #[.val (.ref a1), .val (.ref a2), .val (.int (0 : Int32)), .val (.int p4), .val .null, .unset] [(.int w0)])) ?_ (fun t k => st2 t k)
  refine Gen.on (b := T2.setTop (mkF m 33 #[.val (.ref a1), .val (.ref a2), .val (.int (0 : Int32)), .val (.int p4), .val .null, .unset] [])) ?_ (fun t k => XS.ifNo X2.here hx rfl (hb hby d3_30) rfl ((if0 _ _).trans (feq hw0).1) k)
  refine Gen.on (b := T2.setTop (mkF m 34 #[.val (.ref a1), .val (.ref a2), .val (.int (0 : Int32)), .val (.int p4), .val .null, .unset] [(.ref a2)])) ?_ (fun t k => XS.aloadN X2.here hx rfl (hb hby d3_33) rfl rfl k)
  refine Gen.on (b := T2.setTop (mkF m 35 #[.val (.ref a1), .val (.ref a2), .val (.int (0 : Int32)), .val (.int p4), .val .null, .unset] [(.int (0 : Int32)), (.ref a2)])) ?_ (fun t k => XS.iloadN X2.here hx rfl (hb hby d3_34) rfl k)
  refine Gen.on (b := T2.setTop (mkF m 36 #[.val (.ref a1), .val (.ref a2), .val (.int (0 : Int32)), .val (.int p4), .val .null, .unset] [(.int p4), (.int (0 : Int32)), (.ref a2)])) ?_ (fun t k => XS.iloadN X2.here hx rfl (hb hby d3_35) rfl k)
  obtain ⟨_, _, ⟨T4, L4, k4, n4⟩, -, X4, ⟨Lc4, hQ4, l4, y4, z4⟩, st4⟩ := Jvm.LawKit.callS X2 hx (y := (⟨"java/lang/StringUTF16", "compress", "([CII)[B"⟩ : MethodName)) hown (mvT hZ (hw _ (List.mem_of_getElem? (i := 20) rfl))) (mvT hZ (hw _ (List.mem_of_getElem? (i := 21) rfl))) (mvT hZ (hw _ (List.mem_of_getElem? (i := 22) rfl))) (mvT hZ (hw _ (List.mem_of_getElem? (i := 23) rfl))) (by decide) (backOf (W := 0) (rm5 l Z a0 hw [] a2 p4 y z2 w0 f0 h0 n0 Z0 P3 P4 sts hc0 hc1 hz hn hcap h2z hsm hcap1 hy) hZ (hw _ (List.mem_of_getElem? (i := 23) rfl)) (hw _ (List.mem_of_getElem? (i := 22) rfl)) (by decide) (by decide)) (g := (mkF m 36 #[.val (.ref a1), .val (.ref a2), .val (.int (0 : Int32)), .val (.int p4), .val .null, .unset] [(.int p4), (.int (0 : Int32)), (.ref a2)])) rfl (by rw [hml]; rfl) (argsL := [(.ref a2), (.int (0 : Int32)), (.int p4)]) (rest := []) (lenOf pd_3_0 rfl) rfl (by show 2 * 0 + _ ≤ _; exact Nat.le_of_eq rfl) (hb hby d3_36) (fun _ _ => ⟨rfl, e2, (by decide : 0 + 2 ≤ _), (by decide : 0 + 123 ≤ _)⟩)
  dsimp only [Pt.U, Pt.locs, Pt.cells, Pt.slots] at X4 l4 y4 z4 st4 hQ4
  subst l4 y4 z4
  obtain ⟨xr4, rfl, N4q, Kc4, hge4, hB4⟩ := hQ4
  have N4 := Fr.app N0 N4q
  have sz_xr4 := Nat.le_trans K0.1 hge4
  have ne_a1_xr4 : a1 ≠ xr4 := Nat.ne_of_lt (Nat.lt_of_lt_of_le P0.lt hge4)
  have ne_a2_xr4 : a2 ≠ xr4 := Nat.ne_of_lt (Nat.lt_of_lt_of_le P3.lt hge4)
  have Z4 : n0 ≤ T4.heap.size := Nat.le_trans Z0 Kc4.1
  have K4 : Keep h0 T4.heap [a1] := K0.trans Kc4 all0
  refine Gen.on (b := T4.setTop (mkF m 39 #[.val (.ref a1), .val (.ref a2), .val (.int (0 : Int32)), .val (.int p4), .val .null, .unset] [(.ref xr4)])) ?_ (fun t k => st4 t k)
  refine Gen.on (b := T4.setTop (mkF m 41 #[.val (.ref a1), .val (.ref a2), .val (.int (0 : Int32)), .val (.int p4), .val .null, .val (.ref xr4)] [])) ?_ (fun t k => XS.astore X4.here hx rfl (hb hby d3_39) rfl rfl (l' := #[.val (.ref a1), .val (.ref a2), .val (.int (0 : Int32)), .val (.int p4), .val .null, .val (.ref xr4)]) rfl k)
  rcases hB4 with ⟨yb, Yb, hyb⟩ | ⟨z3, yb, Yb, hz3, hyb⟩
  · refine Gen.on (b := T4.setTop (mkF m 42 #[.val (.ref a1), .val (.ref a2), .val (.int (0 : Int32)), .val (.int p4), .val .null, .val (.ref xr4)] [(.ref a1)])) ?_ (fun t k => XS.aloadN X4.here hx rfl (hb hby d3_41) rfl rfl k)
    refine Gen.on (b := T4.setTop (mkF m 44 #[.val (.ref a1), .val (.ref a2), .val (.int (0 : Int32)), .val (.int p4), .val .null, .val (.ref xr4)] [(.ref xr4), (.ref a1)])) ?_ (fun t k => XS.aload X4.here hx rfl (hb hby d3_42) rfl rfl k)
    refine Gen.on (b := T4.setTop (mkF m 45 #[.val (.ref a1), .val (.ref a2), .val (.int (0 : Int32)), .val (.int p4), .val .null, .val (.ref xr4)] [(.int p4), (.ref xr4), (.ref a1)])) ?_ (fun t k => XS.iloadN X4.here hx rfl (hb hby d3_44) rfl k)
    obtain ⟨_, _, ⟨T5, L5, k5, n5⟩, -, X5, ⟨Lc5, hQ5, l5, y5, z5⟩, st5⟩ := Jvm.LawKit.callS X4 hx (y := (⟨"java/lang/StringUTF16", "coderFromArrayLen", "([BI)B"⟩ : MethodName)) hown (mvT hZ (hw _ (List.mem_of_getElem? (i := 28) rfl))) (mvT hZ (hw _ (List.mem_of_getElem? (i := 29) rfl))) (mvT hZ (hw _ (List.mem_of_getElem? (i := 22) rfl))) (mvT hZ (hw _ (List.mem_of_getElem? (i := 30) rfl))) (by decide) (backOf (W := 1) (rm7 l Z a0 hw [] xr4 p4 p4 yb (0 : Int32) T4.heap n0 Z4 Yb (own_cw0 p4)) hZ (hw _ (List.mem_of_getElem? (i := 30) rfl)) (hw _ (List.mem_of_getElem? (i := 22) rfl)) (by decide) (by decide)) (g := (mkF m 45 #[.val (.ref a1), .val (.ref a2), .val (.int (0 : Int32)), .val (.int p4), .val .null, .val (.ref xr4)] [(.int p4), (.ref xr4), (.ref a1)])) rfl (by rw [hml]; rfl) (argsL := [(.ref xr4), (.int p4)]) (rest := [(.ref a1)]) (lenOf pd_3_1 rfl) rfl (by show 2 * 0 + _ ≤ _; exact Nat.le_of_eq rfl) (hb hby d3_45) (fun _ _ => ⟨rfl, rfl, (by decide : 2 + 0 ≤ _), (by decide : 123 + 0 ≤ _)⟩)
    dsimp only [Pt.U, Pt.locs, Pt.cells, Pt.slots] at X5 l5 y5 z5 st5 hQ5
    subst l5 y5 z5
    obtain ⟨rfl, N5q, e5⟩ := hQ5
    have N5 := Fr.app N4 N5q
    refine Gen.on (b := T5.setTop (mkF m 48 #[.val (.ref a1), .val (.ref a2), .val (.int (0 : Int32)), .val (.int p4), .val .null, .val (.ref xr4)] [(.int (0 : Int32)), (.ref a1)])) ?_ (fun t k => st5 t k)
    have fa6 := (P2.keep Kc4 nin0)
    have fa7 := (P0.keep Kc4)
    obtain ⟨T8, h8, X8, e8, W8, st8⟩ := putFN X5 hx hZ hown (hw _ (List.mem_of_getElem? (i := 31) rfl)) Via.refl e5 fa6 fa7 (Or.inr ⟨(hw _ (List.mem_of_getElem? (i := 32) rfl)), rfl, hnm⟩) (hw _ (List.mem_of_getElem? (i := 7) rfl)) (ty := .byte) (v' := (.int (0 : Int32))) (by decide) rfl (by decide) (g := (mkF m 48 #[.val (.ref a1), .val (.ref a2), .val (.int (0 : Int32)), .val (.int p4), .val .null, .val (.ref xr4)] [(.int (0 : Int32)), (.ref a1)])) rfl rfl (hb hby d3_48)
    have Fw8 := fa6.same W8
    have Z8 : n0 ≤ h8.size := Nat.le_trans Z4 (Keep.of_wr W8).1
    have K8 : Keep h0 h8 [a1] := K4.wr W8 (Or.inl (List.mem_of_getElem? (i := 0) rfl))
    have N8 := Fr.snoc X8 N5 g_a1
    refine Gen.on (b := T8.setTop (mkF m 51 #[.val (.ref a1), .val (.ref a2), .val (.int (0 : Int32)), .val (.int p4), .val .null, .val (.ref xr4)] [])) ?_ (fun t k => st8 t k)
    refine Gen.on (b := T8.setTop (mkF m 52 #[.val (.ref a1), .val (.ref a2), .val (.int (0 : Int32)), .val (.int p4), .val .null, .val (.ref xr4)] [(.ref a1)])) ?_ (fun t k => XS.aloadN X8.here hx rfl (hb hby d3_51) rfl rfl k)
    refine Gen.on (b := T8.setTop (mkF m 54 #[.val (.ref a1), .val (.ref a2), .val (.int (0 : Int32)), .val (.int p4), .val .null, .val (.ref xr4)] [(.ref xr4), (.ref a1)])) ?_ (fun t k => XS.aload X8.here hx rfl (hb hby d3_52) rfl rfl k)
    have fa9 := ((P1.keep Kc4 nin0).other W8 (Or.inr (slot_ne (Or.inr (hw _ (List.mem_of_getElem? (i := 34) rfl))) (Or.inr (hw _ (List.mem_of_getElem? (i := 32) rfl))) (by decide) (t := (.array .byte)) (t' := .byte) (by decide) (by decide))))
    have fa10 := (fa7.wr W8)
    obtain ⟨T11, h11, X11, e11, W11, st11⟩ := putF X8 hx hZ hown (host := "") (Or.inl (hw _ (List.mem_of_getElem? (i := 33) rfl))) Via.refl e8 fa9 fa10 (Or.inr ⟨(hw _ (List.mem_of_getElem? (i := 34) rfl)), rfl, hnm⟩) (hw _ (List.mem_of_getElem? (i := 7) rfl)) (ty := (.array .byte)) (by decide) rfl rfl (g := (mkF m 54 #[.val (.ref a1), .val (.ref a2), .val (.int (0 : Int32)), .val (.int p4), .val .null, .val (.ref xr4)] [(.ref xr4), (.ref a1)])) rfl rfl (hb hby d3_54)
    have Fw11 := fa9.same W11
    have Z11 : n0 ≤ h11.size := Nat.le_trans Z8 (Keep.of_wr W11).1
    have K11 : Keep h0 h11 [a1] := K8.wr W11 (Or.inl (List.mem_of_getElem? (i := 0) rfl))
    have N11 := Fr.snoc X11 N8 g_a1
    refine Gen.on (b := T11.setTop (mkF m 57 #[.val (.ref a1), .val (.ref a2), .val (.int (0 : Int32)), .val (.int p4), .val .null, .val (.ref xr4)] [])) ?_ (fun t k => st11 t k)
    refine own_ret0 X11 hx Bd.returns (hb hby d3_57) (by decide) (by decide) ?_
    have fa12 := (fa10.wr W11)
    have fa13 := (Fw8.other W11 (Or.inr (slot_ne (Or.inr (hw _ (List.mem_of_getElem? (i := 32) rfl))) (Or.inr (hw _ (List.mem_of_getElem? (i := 34) rfl))) (by decide) (t := .byte) (t' := (.array .byte)) (by decide) (by decide))))
    have fa14 := ((Yb.other W8 (Ne.symm ne_a1_xr4)).other W11 (Ne.symm ne_a1_xr4))
    show Q3 Z a1 a2 p4 u1 u2 y z2 w0 f0 h0 n0 _ T11.heap _
    rw [e11]
    exact ⟨rfl, N11, K11, fa12, ⟨xr4, _, Fw11, fa13, Or.inl ⟨rfl, yb, fa14, hyb⟩⟩⟩
  · refine Gen.on (b := T4.setTop (mkF m 42 #[.val (.ref a1), .val (.ref a2), .val (.int (0 : Int32)), .val (.int p4), .val .null, .val (.ref xr4)] [(.ref a1)])) ?_ (fun t k => XS.aloadN X4.here hx rfl (hb hby d3_41) rfl rfl k)
    refine Gen.on (b := T4.setTop (mkF m 44 #[.val (.ref a1), .val (.ref a2), .val (.int (0 : Int32)), .val (.int p4), .val .null, .val (.ref xr4)] [(.ref xr4), (.ref a1)])) ?_ (fun t k => XS.aload X4.here hx rfl (hb hby d3_42) rfl rfl k)
    refine Gen.on (b := T4.setTop (mkF m 45 #[.val (.ref a1), .val (.ref a2), .val (.int (0 : Int32)), .val (.int p4), .val .null, .val (.ref xr4)] [(.int p4), (.ref xr4), (.ref a1)])) ?_ (fun t k => XS.iloadN X4.here hx rfl (hb hby d3_44) rfl k)
    obtain ⟨_, _, ⟨T15, L15, k15, n15⟩, -, X15, ⟨Lc15, hQ15, l15, y15, z15⟩, st15⟩ := Jvm.LawKit.callS X4 hx (y := (⟨"java/lang/StringUTF16", "coderFromArrayLen", "([BI)B"⟩ : MethodName)) hown (mvT hZ (hw _ (List.mem_of_getElem? (i := 28) rfl))) (mvT hZ (hw _ (List.mem_of_getElem? (i := 29) rfl))) (mvT hZ (hw _ (List.mem_of_getElem? (i := 22) rfl))) (mvT hZ (hw _ (List.mem_of_getElem? (i := 30) rfl))) (by decide) (backOf (W := 1) (rm7 l Z a0 hw [] xr4 p4 z3 yb (1 : Int32) T4.heap n0 Z4 Yb (own_cw1 hz3 hc0 hne0 hsm)) hZ (hw _ (List.mem_of_getElem? (i := 30) rfl)) (hw _ (List.mem_of_getElem? (i := 22) rfl)) (by decide) (by decide)) (g := (mkF m 45 #[.val (.ref a1), .val (.ref a2), .val (.int (0 : Int32)), .val (.int p4), .val .null, .val (.ref xr4)] [(.int p4), (.ref xr4), (.ref a1)])) rfl (by rw [hml]; rfl) (argsL := [(.ref xr4), (.int p4)]) (rest := [(.ref a1)]) (lenOf pd_3_1 rfl) rfl (by show 2 * 0 + _ ≤ _; exact Nat.le_of_eq rfl) (hb hby d3_45) (fun _ _ => ⟨rfl, rfl, (by decide : 2 + 0 ≤ _), (by decide : 123 + 0 ≤ _)⟩)
    dsimp only [Pt.U, Pt.locs, Pt.cells, Pt.slots] at X15 l15 y15 z15 st15 hQ15
    subst l15 y15 z15
    obtain ⟨rfl, N15q, e15⟩ := hQ15
    have N15 := Fr.app N4 N15q
    refine Gen.on (b := T15.setTop (mkF m 48 #[.val (.ref a1), .val (.ref a2), .val (.int (0 : Int32)), .val (.int p4), .val .null, .val (.ref xr4)] [(.int (1 : Int32)), (.ref a1)])) ?_ (fun t k => st15 t k)
    have fa16 := (P2.keep Kc4 nin0)
    have fa17 := (P0.keep Kc4)
    obtain ⟨T18, h18, X18, e18, W18, st18⟩ := putFN X15 hx hZ hown (hw _ (List.mem_of_getElem? (i := 31) rfl)) Via.refl e15 fa16 fa17 (Or.inr ⟨(hw _ (List.mem_of_getElem? (i := 32) rfl)), rfl, hnm⟩) (hw _ (List.mem_of_getElem? (i := 7) rfl)) (ty := .byte) (v' := (.int (1 : Int32))) (by decide) rfl (by decide) (g := (mkF m 48 #[.val (.ref a1), .val (.ref a2), .val (.int (0 : Int32)), .val (.int p4), .val .null, .val (.ref xr4)] [(.int (1 : Int32)), (.ref a1)])) rfl rfl (hb hby d3_48)
    have Fw18 := fa16.same W18
    have Z18 : n0 ≤ h18.size := Nat.le_trans Z4 (Keep.of_wr W18).1
    have K18 : Keep h0 h18 [a1] := K4.wr W18 (Or.inl (List.mem_of_getElem? (i := 0) rfl))
    have N18 := Fr.snoc X18 N15 g_a1
    refine Gen.on (b := T18.setTop (mkF m 51 #[.val (.ref a1), .val (.ref a2), .val (.int (0 : Int32)), .val (.int p4), .val .null, .val (.ref xr4)] [])) ?_ (fun t k => st18 t k)
    refine Gen.on (b := T18.setTop (mkF m 52 #[.val (.ref a1), .val (.ref a2), .val (.int (0 : Int32)), .val (.int p4), .val .null, .val (.ref xr4)] [(.ref a1)])) ?_ (fun t k => XS.aloadN X18.here hx rfl (hb hby d3_51) rfl rfl k)
    refine Gen.on (b := T18.setTop (mkF m 54 #[.val (.ref a1), .val (.ref a2), .val (.int (0 : Int32)), .val (.int p4), .val .null, .val (.ref xr4)] [(.ref xr4), (.ref a1)])) ?_ (fun t k => XS.aload X18.here hx rfl (hb hby d3_52) rfl rfl k)
    have fa19 := ((P1.keep Kc4 nin0).other W18 (Or.inr (slot_ne (Or.inr (hw _ (List.mem_of_getElem? (i := 34) rfl))) (Or.inr (hw _ (List.mem_of_getElem? (i := 32) rfl))) (by decide) (t := (.array .byte)) (t' := .byte) (by decide) (by decide))))
    have fa20 := (fa17.wr W18)
    obtain ⟨T21, h21, X21, e21, W21, st21⟩ := putF X18 hx hZ hown (host := "") (Or.inl (hw _ (List.mem_of_getElem? (i := 33) rfl))) Via.refl e18 fa19 fa20 (Or.inr ⟨(hw _ (List.mem_of_getElem? (i := 34) rfl)), rfl, hnm⟩) (hw _ (List.mem_of_getElem? (i := 7) rfl)) (ty := (.array .byte)) (by decide) rfl rfl (g := (mkF m 54 #[.val (.ref a1), .val (.ref a2), .val (.int (0 : Int32)), .val (.int p4), .val .null, .val (.ref xr4)] [(.ref xr4), (.ref a1)])) rfl rfl (hb hby d3_54)
    have Fw21 := fa19.same W21
    have Z21 : n0 ≤ h21.size := Nat.le_trans Z18 (Keep.of_wr W21).1
    have K21 : Keep h0 h21 [a1] := K18.wr W21 (Or.inl (List.mem_of_getElem? (i := 0) rfl))
    have N21 := Fr.snoc X21 N18 g_a1
    refine Gen.on (b := T21.setTop (mkF m 57 #[.val (.ref a1), .val (.ref a2), .val (.int (0 : Int32)), .val (.int p4), .val .null, .val (.ref xr4)] [])) ?_ (fun t k => st21 t k)
    refine own_ret0 X21 hx Bd.returns (hb hby d3_57) (by decide) (by decide) ?_
    have fa22 := (fa20.wr W21)
    have fa23 := (Fw18.other W21 (Or.inr (slot_ne (Or.inr (hw _ (List.mem_of_getElem? (i := 32) rfl))) (Or.inr (hw _ (List.mem_of_getElem? (i := 34) rfl))) (by decide) (t := .byte) (t' := (.array .byte)) (by decide) (by decide))))
    have fa24 := ((Yb.other W18 (Ne.symm ne_a1_xr4)).other W21 (Ne.symm ne_a1_xr4))
    show Q3 Z a1 a2 p4 u1 u2 y z2 w0 f0 h0 n0 _ T21.heap _
    rw [e21]
    exact ⟨rfl, N21, K21, fa22, ⟨xr4, _, Fw21, fa23, Or.inr ⟨rfl, z3, yb, fa24, hz3, hyb⟩⟩⟩

theorem d2_0 : decode jdk_42_method_3_code 0 = .ok (.aload_n 0, 1) := by decide +kernel
theorem d2_1 : decode jdk_42_method_3_code 1 = .ok (.aload_n 1, 1) := by decide +kernel
theorem d2_2 : decode jdk_42_method_3_code 2 = .ok (.iconst 0, 1) := by decide +kernel
theorem d2_3 : decode jdk_42_method_3_code 3 = .ok (.aload_n 1, 1) := by decide +kernel
theorem d2_4 : decode jdk_42_method_3_code 4 = .ok (.arraylength, 1) := by decide +kernel
theorem d2_5 : decode jdk_42_method_3_code 5 = .ok (.aconst_null, 1) := by decide +kernel
theorem d2_6 : decode jdk_42_method_3_code 6 = .ok (.invokespecial 27, 3) := by decide +kernel
theorem d2_9 : decode jdk_42_method_3_code 9 = .ok (.return_, 1) := by decide +kernel
theorem pn_2 : plainName "java/lang/String" = true := by first | (simp [plainName, overriddenIn]; done) | decide +kernel
theorem pd_2_0 : parseMethodDescriptor "([CIILjava/lang/Void;)V" = some ⟨[(.array .char), .int, .int, (.object "java/lang/Void")], none⟩ := by decide +kernel
theorem ef_2 (m : MethodId) (x0 : Addr) (x1 : Addr) : entryFrame m #[(.ref x0), (.ref x1)] 2 = mkF m 0 #[.val (.ref x0), .val (.ref x1)] [] := by first | (simp [entryFrame, mkF, argsToLocals, Value.category]; done) | rfl
def Q2 (Z : State) (a1 : Addr) (a2 : Addr) (u1 : Value) (u2 : Value) (zc : Int32) (y : Int32 → Int32) (z2 : Int32) (w0 : Int32) (f0 : Value) (h0 : Heap) (n0 : Nat) (v : Option Value) (h : Heap) (L : List Loc) : Prop := v = none ∧ Fr n0 L ∧ Keep h0 h [a1] ∧ Exa Z h a1 "java/lang/String" ∧ Str Z h a1 zc y
set_option maxRecDepth 65536 in
set_option maxHeartbeats 40000000 in
theorem rm2 (l : Launch) (Z : State) (a0 : Array Value) (hw : ∀ d ∈ tables_1, d.before a0 Z = true) (wds : List Jvm.Cond) (a1 : Addr) (a2 : Addr) (u1 : Value) (u2 : Value) (zc : Int32) (y : Int32 → Int32) (z2 : Int32) (w0 : Int32) (f0 : Value) (h0 : Heap) (n0 : Nat) (Z0 : n0 ≤ h0.size) (P0 : Exa Z h0 a1 "java/lang/String") (P1 : Fld Z h0 a1 "java/lang/String" "value" "[B" u1) (P2 : Fld Z h0 a1 "java/lang/String" "coder" "B" u2) (P3 : Afn Z h0 a2 .char zc y) (P4 : Old Z n0 h0) (g_a1 : n0 ≤ a1) (sts : Sts Z w0 f0) (hc0 : ¬ zc < (0 : Int32)) (hc1 : zc < (1073741823 : Int32)) (hz : f18 zc = z2) (hn : ¬ z2 < 0) (hcap : z2.toNatClampNeg ≤ 82) (h2z : z2.toInt = 2 * zc.toInt) (hsm : zc.toInt < 1000) (hcap1 : zc.toNatClampNeg ≤ 41) (hy : ∀ j : Int32, ¬ j < 0 → j < zc → ¬ y j < 0 ∧ ¬ (65535 : Int32) < y j) (hne0 : ¬ zc = (0 : Int32)) :
    MetFree l (⟨"java/lang/String", "<init>", "([C)V"⟩ : MethodName) (head1 (Jvm.Cond.code (⟨"java/lang/String", "<init>", "([C)V"⟩ : MethodName) jdk_42_method_3_code 2 none :: wds) ({ frames := 5, cells := 2, slots := 123, locals := 124 } : Room)) (fun a U => a = #[(.ref a1), (.ref a2)] ∧ Z.Warmed39 U.vm ∧ U.heap = h0) (fun _ _ _ _ _ => True) (fun _ U o U' => ∃ v L, o = .returned v ∧ Q2 Z a1 a2 u1 u2 zc y z2 w0 f0 h0 n0 v U'.heap L ∧ FrameEnd U o U' L ({ frames := 5, cells := 2, slots := 123, locals := 124 } : Room).cells ({ frames := 5, cells := 2, slots := 123, locals := 124 } : Room).slots) := by
  refine MetFree.of_bodySF (plainFor_of_name pn_2) hisR ?_
  intro p e s m args below meth c s₁ Bd hml0 hP hK
  obtain ⟨rfl, hZ, hh⟩ := hP
  have hx := Bd.exec
  have hby := Bd.bytes
  have hml : c.maxLocals = 2 := hml0
  have hown : s.vm.findClass "java/lang/String" = some m.cls := findClass_of_methodNamed Bd.named
  have hnm := (name_of_methodNamed Bd.named Bd.method).1
  have X0 : Stand p l e ({ frames := 5, cells := 2, slots := 123, locals := 124 } : Room) s m #[(.ref a1), (.ref a2)] below meth c s₁ [] 0 0 := Stand.of_body Bd
  have e0 : s₁.heap = h0 := by rw [← hh, Bd.state]; rfl
  have N0 := Fr.nil n0
  refine own_start (Q := Q2 Z a1 a2 u1 u2 zc y z2 w0 f0 h0 n0) (C := ({ frames := 5, cells := 2, slots := 123, locals := 124 } : Room).cells) (S := ({ frames := 5, cells := 2, slots := 123, locals := 124 } : Room).slots) ?_
  rw [ef_2 m a1 a2]
  have K0 : Keep h0 h0 [a1] := Keep.refl h0 [a1]
  obtain ⟨SC, hw0, SF, hf0, SA, SH, SL⟩ := id sts
  refine Gen.on (b := s₁.setTop (mkF m 1 #[.val (.ref a1), .val (.ref a2)] [(.ref a1)])) ?_ (fun t k => XS.aloadN X0.here hx rfl (hb hby d2_0) rfl rfl k)
  refine Gen.on (b := s₁.setTop (mkF m 2 #[.val (.ref a1), .val (.ref a2)] [(.ref a2), (.ref a1)])) ?_ (fun t k => XS.aloadN X0.here hx rfl (hb hby d2_1) rfl rfl k)
  refine Gen.on (b := s₁.setTop (mkF m 3 #[.val (.ref a1), .val (.ref a2)] [(.int (0 : Int32)), (.ref a2), (.ref a1)])) ?_ (fun t k => XS.iconst X0.here hx rfl (hb hby d2_2) k)
  refine Gen.on (b := s₁.setTop (mkF m 4 #[.val (.ref a1), .val (.ref a2)] [(.ref a2), (.int (0 : Int32)), (.ref a2), (.ref a1)])) ?_ (fun t k => XS.aloadN X0.here hx rfl (hb hby d2_3) rfl rfl k)
  obtain ⟨cl1, Ar1, SA1, NA1, HA1⟩ := id P3
  refine Gen.on (b := s₁.setTop (mkF m 5 #[.val (.ref a1), .val (.ref a2)] [(.int zc), (.int (0 : Int32)), (.ref a2), (.ref a1)])) ?_ (fun t k => X0.arraylength hx (by rw [e0]; exact Ar1.1) (State.isArrayOf_alike hZ.alike Ar1.2.1) (g := (mkF m 4 #[.val (.ref a1), .val (.ref a2)] [(.ref a2), (.int (0 : Int32)), (.ref a2), (.ref a1)])) rfl rfl (hb hby d2_4) t (by rw [len_of SA1 NA1]; exact k))
  refine Gen.on (b := s₁.setTop (mkF m 6 #[.val (.ref a1), .val (.ref a2)] [.null, (.int zc), (.int (0 : Int32)), (.ref a2), (.ref a1)])) ?_ (fun t k => XS.aconstNull X0.here hx rfl (hb hby d2_5) k)
  obtain ⟨_, _, ⟨T2, L2, k2, n2⟩, -, X2, ⟨Lc2, hQ2, l2, y2, z2⟩, st2⟩ := X0.specialBack hx (y := (⟨"java/lang/String", "<init>", "([CIILjava/lang/Void;)V"⟩ : MethodName)) rfl hown (mvT hZ (hw _ (List.mem_of_getElem? (i := 12) rfl))) (mvT hZ (hw _ (List.mem_of_getElem? (i := 13) rfl))) (mvT hZ (hw _ (List.mem_of_getElem? (i := 15) rfl))) (by decide) (backOf (W := 0) (rm3 l Z a0 hw [] a1 a2 zc u1 u2 y z2 w0 f0 h0 n0 Z0 P0 P1 P2 P3 P4 g_a1 (sts) (hc0) (hc1) (hz) (hn) (hcap) (h2z) (hsm) (hcap1) (hy) (hne0)) hZ (hw _ (List.mem_of_getElem? (i := 15) rfl)) (hw _ (List.mem_of_getElem? (i := 8) rfl)) (by decide) (by decide)) (g := (mkF m 6 #[.val (.ref a1), .val (.ref a2)] [.null, (.int zc), (.int (0 : Int32)), (.ref a2), (.ref a1)])) rfl (by rw [hml]; rfl) (Steps.refl _) (a := a1) (argsL := [(.ref a2), (.int (0 : Int32)), (.int zc), .null]) (rest := []) (lenOf pd_2_0 rfl) rfl (by show 2 * 0 + _ ≤ _; exact Nat.le_of_eq rfl) (hb hby d2_6) (fun _ _ => ⟨rfl, e0, (by decide : 0 + 2 ≤ _), (by decide : 0 + 123 ≤ _)⟩)
  dsimp only [Pt.U, Pt.locs, Pt.cells, Pt.slots] at X2 l2 y2 z2 st2 hQ2
  subst l2 y2 z2
  obtain ⟨rfl, N2q, Kc2, hf2_0, hf2_1⟩ := hQ2
  have N2 := Fr.app N0 N2q
  have Z2 : n0 ≤ T2.heap.size := Nat.le_trans Z0 Kc2.1
  have K2 : Keep h0 T2.heap [a1] := K0.trans Kc2 (allS (Or.inl (List.mem_of_getElem? (i := 0) rfl)) all0)
  refine Gen.on (b := T2.setTop (mkF m 9 #[.val (.ref a1), .val (.ref a2)] [])) ?_ (fun t k => st2.trans k)
  refine own_ret0 X2 hx Bd.returns (hb hby d2_9) (by decide) (by decide) ?_
  show Q2 Z a1 a2 u1 u2 zc y z2 w0 f0 h0 n0 _ T2.heap _
  exact ⟨rfl, N2, K2, hf2_0, hf2_1⟩

theorem d11_0 : decode jdk_42_method_56_code 0 = .ok (.aload_n 0, 1) := by decide +kernel
theorem d11_1 : decode jdk_42_method_56_code 1 = .ok (.invokevirtual 492, 3) := by decide +kernel
theorem d11_4 : decode jdk_42_method_56_code 4 = .ok (.ifCond .eq 12, 3) := by decide +kernel
theorem d11_7 : decode jdk_42_method_56_code 7 = .ok (.aload_n 0, 1) := by decide +kernel
theorem d11_8 : decode jdk_42_method_56_code 8 = .ok (.getfield 9, 3) := by decide +kernel
theorem d11_11 : decode jdk_42_method_56_code 11 = .ok (.iload_n 1, 1) := by decide +kernel
theorem d11_12 : decode jdk_42_method_56_code 12 = .ok (.invokestatic 495, 3) := by decide +kernel
theorem d11_15 : decode jdk_42_method_56_code 15 = .ok (.ireturn, 1) := by decide +kernel
theorem d11_16 : decode jdk_42_method_56_code 16 = .ok (.aload_n 0, 1) := by decide +kernel
theorem d11_17 : decode jdk_42_method_56_code 17 = .ok (.getfield 9, 3) := by decide +kernel
theorem d11_20 : decode jdk_42_method_56_code 20 = .ok (.iload_n 1, 1) := by decide +kernel
theorem d11_21 : decode jdk_42_method_56_code 21 = .ok (.invokestatic 498, 3) := by decide +kernel
theorem d11_24 : decode jdk_42_method_56_code 24 = .ok (.ireturn, 1) := by decide +kernel
theorem pn_11 : plainName "java/lang/String" = true := by first | (simp [plainName, overriddenIn]; done) | decide +kernel
theorem pd_11_0 : parseMethodDescriptor "()Z" = some ⟨[], some .boolean⟩ := by decide +kernel
theorem pd_11_1 : parseMethodDescriptor "([BI)C" = some ⟨[(.array .byte), .int], some .char⟩ := by decide +kernel
theorem ef_11 (m : MethodId) (x0 : Addr) (x1 : Int32) : entryFrame m #[(.ref x0), (.int x1)] 2 = mkF m 0 #[.val (.ref x0), .val (.int x1)] [] := by first | (simp [entryFrame, mkF, argsToLocals, Value.category]; done) | rfl
def Q11 (Z : State) (a1 : Addr) (p2 : Int32) (a2 : Addr) (w1 : Int32) (zb : Int32) (yb : Int32 → Int32) (i2 : Int32) (x : Int32) (w0 : Int32) (f0 : Value) (h0 : Heap) (n0 : Nat) (v : Option Value) (h : Heap) (L : List Loc) : Prop := v = some (.int x) ∧ Fr n0 L ∧ h = h0
set_option maxRecDepth 65536 in
set_option maxHeartbeats 40000000 in
theorem rm11 (l : Launch) (Z : State) (a0 : Array Value) (hw : ∀ d ∈ tables_1, d.before a0 Z = true) (wds : List Jvm.Cond) (a1 : Addr) (p2 : Int32) (a2 : Addr) (w1 : Int32) (zb : Int32) (yb : Int32 → Int32) (i2 : Int32) (x : Int32) (w0 : Int32) (f0 : Value) (h0 : Heap) (n0 : Nat) (Z0 : n0 ≤ h0.size) (P0 : Exa Z h0 a1 "java/lang/String") (P1 : Fld Z h0 a1 "java/lang/String" "value" "[B" (.ref a2)) (P2 : Fld Z h0 a1 "java/lang/String" "coder" "B" (.int w1)) (P3 : Afn Z h0 a2 .byte zb yb) (P4 : Old Z n0 h0) (hc0 : ¬ (p2 < (0 : Int32))) (sts : Sts Z w0 f0) (hcase : (w1 = (0 : Int32) ∧ p2 < zb ∧ own_lc (yb p2) = x) ∨ (w1 = (1 : Int32) ∧ p2 < (zb >>> ((1 : Int32) &&& 31)) ∧ (p2 <<< ((1 : Int32) &&& 31)) = i2 ∧ ¬ i2 < 0 ∧ i2 < zb ∧ ¬ (i2 + (1 : Int32)) < 0 ∧ (i2 + (1 : Int32)) < zb ∧ own_gc (yb i2) (yb (i2 + (1 : Int32))) = x)) :
    MetFree l (⟨"java/lang/String", "charAt", "(I)C"⟩ : MethodName) (head1 (Jvm.Cond.code (⟨"java/lang/String", "charAt", "(I)C"⟩ : MethodName) jdk_42_method_56_code 2 (some .char) :: wds) ({ frames := 4, cells := 0, slots := 0, locals := 53 } : Room)) (fun a U => a = #[(.ref a1), (.int p2)] ∧ Z.Warmed39 U.vm ∧ U.heap = h0) (fun _ _ _ _ _ => True) (fun _ U o U' => ∃ v L, o = .returned v ∧ Q11 Z a1 p2 a2 w1 zb yb i2 x w0 f0 h0 n0 v U'.heap L ∧ FrameEnd U o U' L ({ frames := 4, cells := 0, slots := 0, locals := 53 } : Room).cells ({ frames := 4, cells := 0, slots := 0, locals := 53 } : Room).slots) := by
  refine MetFree.of_bodySF (plainFor_of_name pn_11) hisR ?_
  intro p e s m args below meth c s₁ Bd hml0 hP hK
  obtain ⟨rfl, hZ, hh⟩ := hP
  have hx := Bd.exec
  have hby := Bd.bytes
  have hml : c.maxLocals = 2 := hml0
  have hown : s.vm.findClass "java/lang/String" = some m.cls := findClass_of_methodNamed Bd.named
  have hnm := (name_of_methodNamed Bd.named Bd.method).1
  have X0 : Stand p l e ({ frames := 4, cells := 0, slots := 0, locals := 53 } : Room) s m #[(.ref a1), (.int p2)] below meth c s₁ [] 0 0 := Stand.of_body Bd
  have e0 : s₁.heap = h0 := by rw [← hh, Bd.state]; rfl
  have N0 := Fr.nil n0
  refine own_start (Q := Q11 Z a1 p2 a2 w1 zb yb i2 x w0 f0 h0 n0) (C := ({ frames := 4, cells := 0, slots := 0, locals := 53 } : Room).cells) (S := ({ frames := 4, cells := 0, slots := 0, locals := 53 } : Room).slots) ?_
  rw [ef_11 m a1 p2]
  obtain ⟨SC, hw0, SF, hf0, SA, SH, SL⟩ := id sts
  refine Gen.on (b := s₁.setTop (mkF m 1 #[.val (.ref a1), .val (.int p2)] [(.ref a1)])) ?_ (fun t k => XS.aloadN X0.here hx rfl (hb hby d11_0) rfl rfl k)
  obtain ⟨cq1, kq1, q1a, q1b, q1c⟩ := isOf hZ e0 P0
  obtain ⟨_, _, ⟨T1, L1, k1, n1⟩, -, X1, ⟨Lc1, hQ1, l1, y1, z1⟩, st1⟩ := X0.virtualBack hx (y := (⟨"java/lang/String", "isLatin1", "()Z"⟩ : MethodName)) (z := (⟨"java/lang/String", "isLatin1", "()Z"⟩ : MethodName)) hown (mvT hZ (hw _ (List.mem_of_getElem? (i := 54) rfl))) (mvT hZ (hw _ (List.mem_of_getElem? (i := 55) rfl))) (notFace_of_selects (args := #[]) (mvT hZ (hw _ (List.mem_of_getElem? (i := 57) rfl)))) (mvT hZ (hw _ (List.mem_of_getElem? (i := 57) rfl))) (mvT hZ (hw _ (List.mem_of_getElem? (i := 56) rfl))) (by decide) (backOf (W := 0) (rm12 l Z a0 hw [] a1 w1 w0 f0 h0 n0 Z0 P0 P2 P4 (sts)) hZ (hw _ (List.mem_of_getElem? (i := 58) rfl)) (hw _ (List.mem_of_getElem? (i := 8) rfl)) (by decide) (by decide)) q1a q1c (g := (mkF m 1 #[.val (.ref a1), .val (.int p2)] [(.ref a1)])) rfl (by rw [hml]; rfl) (Steps.refl _) (argsL := []) (rest := []) (lenOf pd_11_0 rfl) rfl (by show 2 * 0 + _ ≤ _; exact Nat.le_of_eq rfl) (hb hby d11_1) (fun _ _ => ⟨rfl, e0, (by decide : 0 + 0 ≤ _), (by decide : 0 + 0 ≤ _)⟩)
  dsimp only [Pt.U, Pt.locs, Pt.cells, Pt.slots] at X1 l1 y1 z1 st1 hQ1
  subst l1 y1 z1
  obtain ⟨rfl, N1q, e1⟩ := hQ1
  have N1 := Fr.app N0 N1q
  refine Gen.on (b := T1.setTop (mkF m 4 #[.val (.ref a1), .val (.int p2)] [(.int (own_l1 w1))])) ?_ (fun t k => st1.trans k)
  rcases hcase with ⟨hw1, hlt', hxx⟩ | ⟨hw1, hlt', hi2, hn0, hlt, hn1, hlt1, hxx⟩
  · refine Gen.on (b := T1.setTop (mkF m 7 #[.val (.ref a1), .val (.int p2)] [])) ?_ (fun t k => XS.ifNo X1.here hx rfl (hb hby d11_4) rfl ((if0 _ _).trans (feq (by rw [hw1]; decide : ¬ own_l1 w1 = (0 : Int32))).1) k)
    refine Gen.on (b := T1.setTop (mkF m 8 #[.val (.ref a1), .val (.int p2)] [(.ref a1)])) ?_ (fun t k => XS.aloadN X1.here hx rfl (hb hby d11_7) rfl rfl k)
    obtain ⟨T2, X2, e2, st2⟩ := getF X1 hx hZ hown (host := "") (Or.inl (hw _ (List.mem_of_getElem? (i := 33) rfl))) Via.refl e1 P1 (g := (mkF m 8 #[.val (.ref a1), .val (.int p2)] [(.ref a1)])) rfl rfl (hb hby d11_8)
    refine Gen.on (b := T2.setTop (mkF m 11 #[.val (.ref a1), .val (.int p2)] [(.ref a2)])) ?_ (fun t k => st2 t k)
    refine Gen.on (b := T2.setTop (mkF m 12 #[.val (.ref a1), .val (.int p2)] [(.int p2), (.ref a2)])) ?_ (fun t k => XS.iloadN X2.here hx rfl (hb hby d11_11) rfl k)
    obtain ⟨_, _, ⟨T3, L3, k3, n3⟩, -, X3, ⟨Lc3, hQ3, l3, y3, z3⟩, st3⟩ := Jvm.LawKit.callS X2 hx (y := (⟨"java/lang/StringLatin1", "charAt", "([BI)C"⟩ : MethodName)) hown (mvT hZ (hw _ (List.mem_of_getElem? (i := 59) rfl))) (mvT hZ (hw _ (List.mem_of_getElem? (i := 60) rfl))) (mvT hZ (hw _ (List.mem_of_getElem? (i := 61) rfl))) (mvT hZ (hw _ (List.mem_of_getElem? (i := 62) rfl))) (by decide) (backOf (W := 0) (rm13 l Z a0 hw [] a2 p2 zb yb w0 f0 h0 n0 Z0 P3 P4 hc0 hlt' (sts)) hZ (hw _ (List.mem_of_getElem? (i := 62) rfl)) (hw _ (List.mem_of_getElem? (i := 61) rfl)) (by decide) (by decide)) (g := (mkF m 12 #[.val (.ref a1), .val (.int p2)] [(.int p2), (.ref a2)])) rfl (by rw [hml]; rfl) (argsL := [(.ref a2), (.int p2)]) (rest := []) (lenOf pd_11_1 rfl) rfl (by show 2 * 0 + _ ≤ _; exact Nat.le_of_eq rfl) (hb hby d11_12) (fun _ _ => ⟨rfl, e2, (by decide : 0 + 0 ≤ _), (by decide : 0 + 0 ≤ _)⟩)
    dsimp only [Pt.U, Pt.locs, Pt.cells, Pt.slots] at X3 l3 y3 z3 st3 hQ3
    subst l3 y3 z3
    obtain ⟨rfl, N3q, e3⟩ := hQ3
    have N3 := Fr.app N1 N3q
    refine Gen.on (b := T3.setTop (mkF m 15 #[.val (.ref a1), .val (.int p2)] [(.int (own_lc (yb p2)))])) ?_ (fun t k => st3 t k)
    refine own_retN (t := .char) X3 hx Bd.returns (by simp) (own_nar_i2c _) (hb hby d11_15) (by decide) (by decide) ?_
    exact ⟨(by rw [hxx]), N3, e3⟩
  · refine Gen.on (b := T1.setTop (mkF m 16 #[.val (.ref a1), .val (.int p2)] [])) ?_ (fun t k => XS.ifYes X1.here hx rfl (pc0 := 4) (pc' := 16) rfl (hb hby d11_4) rfl ((if0 _ _).trans (teq (by rw [hw1]; decide : own_l1 w1 = (0 : Int32))).1) (by decide) (by decide) k)
    refine Gen.on (b := T1.setTop (mkF m 17 #[.val (.ref a1), .val (.int p2)] [(.ref a1)])) ?_ (fun t k => XS.aloadN X1.here hx rfl (hb hby d11_16) rfl rfl k)
    obtain ⟨T4, X4, e4, st4⟩ := getF X1 hx hZ hown (host := "") (Or.inl (hw _ (List.mem_of_getElem? (i := 33) rfl))) Via.refl e1 P1 (g := (mkF m 17 #[.val (.ref a1), .val (.int p2)] [(.ref a1)])) rfl rfl (hb hby d11_17)
    refine Gen.on (b := T4.setTop (mkF m 20 #[.val (.ref a1), .val (.int p2)] [(.ref a2)])) ?_ (fun t k => st4 t k)
    refine Gen.on (b := T4.setTop (mkF m 21 #[.val (.ref a1), .val (.int p2)] [(.int p2), (.ref a2)])) ?_ (fun t k => XS.iloadN X4.here hx rfl (hb hby d11_20) rfl k)
    obtain ⟨_, _, ⟨T5, L5, k5, n5⟩, -, X5, ⟨Lc5, hQ5, l5, y5, z5⟩, st5⟩ := Jvm.LawKit.callS X4 hx (y := (⟨"java/lang/StringUTF16", "charAt", "([BI)C"⟩ : MethodName)) hown (mvT hZ (hw _ (List.mem_of_getElem? (i := 90) rfl))) (mvT hZ (hw _ (List.mem_of_getElem? (i := 91) rfl))) (mvT hZ (hw _ (List.mem_of_getElem? (i := 22) rfl))) (mvT hZ (hw _ (List.mem_of_getElem? (i := 92) rfl))) (by decide) (backOf (W := 0) (rm21 l Z a0 hw [] a2 p2 zb yb i2 w0 f0 h0 n0 Z0 P3 P4 hc0 hlt' (sts) (hi2) (hn0) (hlt) (hn1) (hlt1)) hZ (hw _ (List.mem_of_getElem? (i := 92) rfl)) (hw _ (List.mem_of_getElem? (i := 22) rfl)) (by decide) (by decide)) (g := (mkF m 21 #[.val (.ref a1), .val (.int p2)] [(.int p2), (.ref a2)])) rfl (by rw [hml]; rfl) (argsL := [(.ref a2), (.int p2)]) (rest := []) (lenOf pd_11_1 rfl) rfl (by show 2 * 0 + _ ≤ _; exact Nat.le_of_eq rfl) (hb hby d11_21) (fun _ _ => ⟨rfl, e4, (by decide : 0 + 0 ≤ _), (by decide : 0 + 0 ≤ _)⟩)
    dsimp only [Pt.U, Pt.locs, Pt.cells, Pt.slots] at X5 l5 y5 z5 st5 hQ5
    subst l5 y5 z5
    obtain ⟨rfl, N5q, e5⟩ := hQ5
    have N5 := Fr.app N1 N5q
    refine Gen.on (b := T5.setTop (mkF m 24 #[.val (.ref a1), .val (.int p2)] [(.int (own_gc (yb i2) (yb (i2 + (1 : Int32)))))])) ?_ (fun t k => st5 t k)
    refine own_retN (t := .char) X5 hx Bd.returns (by simp) (own_nar_i2c _) (hb hby d11_24) (by decide) (by decide) ?_
    exact ⟨(by rw [hxx]), N5, e5⟩

theorem own_half {z z2 : Int32} (h2 : z2.toInt = 2 * z.toInt) : (z2 >>> ((1 : Int32) &&& 31)) = z := by
  apply Int32.toInt_inj.mp
  rw [Jvm.Kit.i32_shr z2 _ (k := 1) (by decide +kernel)]; omega
def QR (x : Int32) (h0 : Heap) (n0 : Nat) (v : Option Value) (h : Heap) (L : List Loc) : Prop := v = some (.int x) ∧ Fr n0 L ∧ h = h0
theorem rm9s (l : Launch) (Z : State) (a0 : Array Value) (hw : ∀ d ∈ tables_1, d.before a0 Z = true) (wds : List Jvm.Cond) (a1 : Addr) (z : Int32) (y : Int32 → Int32) (w0 : Int32) (f0 : Value) (h0 : Heap) (n0 : Nat) (Z0 : n0 ≤ h0.size) (E1 : Exa Z h0 a1 "java/lang/String") (hS : Str Z h0 a1 z y) (OL : Old Z n0 h0) (sts : Sts Z w0 f0) : MetFree l (⟨"java/lang/String", "length", "()I"⟩ : MethodName) (head1 (Jvm.Cond.code (⟨"java/lang/String", "length", "()I"⟩ : MethodName) jdk_42_method_54_code 1 (some .int) :: wds) ({ frames := 1, cells := 0, slots := 0, locals := 13 } : Room)) (fun a U => a = #[(.ref a1)] ∧ Z.Warmed39 U.vm ∧ U.heap = h0) (fun _ _ _ _ _ => True) (fun _ U o U' => ∃ v L, o = .returned v ∧ QR z h0 n0 v U'.heap L ∧ FrameEnd U o U' L ({ frames := 1, cells := 0, slots := 0, locals := 13 } : Room).cells ({ frames := 1, cells := 0, slots := 0, locals := 13 } : Room).slots) := by
  obtain ⟨b, w, F1, F2, H⟩ := hS
  rcases H with ⟨rfl, yb, AY, -⟩ | ⟨rfl, z2, yb, AY, hz2, -⟩
  · exact rm9 l Z a0 hw wds a1 b 0 z yb z w0 f0 h0 n0 Z0 E1 F1 F2 AY OL sts (by decide) (by
      apply Int32.toInt_inj.mp
      rw [Jvm.Kit.i32_shr z _ (k := 0) (by decide +kernel)]; omega)
  · exact rm9 l Z a0 hw wds a1 b 1 z2 yb z w0 f0 h0 n0 Z0 E1 F1 F2 AY OL sts (by decide) (own_half hz2)
theorem rm11s (l : Launch) (Z : State) (a0 : Array Value) (hw : ∀ d ∈ tables_1, d.before a0 Z = true) (wds : List Jvm.Cond) (a1 : Addr) (p2 : Int32) (z : Int32) (y : Int32 → Int32) (w0 : Int32) (f0 : Value) (h0 : Heap) (n0 : Nat) (Z0 : n0 ≤ h0.size) (E1 : Exa Z h0 a1 "java/lang/String") (hS : Str Z h0 a1 z y) (OL : Old Z n0 h0) (sts : Sts Z w0 f0) (hp0 : ¬ p2 < 0) (hpz : p2 < z) (hsm : z.toInt < 1000) : MetFree l (⟨"java/lang/String", "charAt", "(I)C"⟩ : MethodName) (head1 (Jvm.Cond.code (⟨"java/lang/String", "charAt", "(I)C"⟩ : MethodName) jdk_42_method_56_code 2 (some .char) :: wds) ({ frames := 4, cells := 0, slots := 0, locals := 53 } : Room)) (fun a U => a = #[(.ref a1), (.int p2)] ∧ Z.Warmed39 U.vm ∧ U.heap = h0) (fun _ _ _ _ _ => True) (fun _ U o U' => ∃ v L, o = .returned v ∧ QR (y p2) h0 n0 v U'.heap L ∧ FrameEnd U o U' L ({ frames := 4, cells := 0, slots := 0, locals := 53 } : Room).cells ({ frames := 4, cells := 0, slots := 0, locals := 53 } : Room).slots) := by
  obtain ⟨b, w, F1, F2, H⟩ := hS
  rcases H with ⟨rfl, yb, AY, hy⟩ | ⟨rfl, z2, yb, AY, hz2, hy⟩
  · exact rm11 l Z a0 hw wds a1 p2 b 0 z yb 0 (y p2) w0 f0 h0 n0 Z0 E1 F1 F2 AY OL hp0 sts (Or.inl ⟨rfl, hpz, hy p2 hp0 hpz⟩)
  · have hd := own_dr hp0 hpz hz2 hsm
    exact rm11 l Z a0 hw wds a1 p2 b 1 z2 yb (own_d p2) (y p2) w0 f0 h0 n0 Z0 E1 F1 F2 AY OL hp0 sts (Or.inr ⟨rfl, by rw [own_half hz2]; exact hpz, rfl, hd.1, hd.2.1, hd.2.2.1, hd.2.2.2, hy p2 hp0 hpz⟩)


def own_hx (c : Int32) : Int32 := (if c < (48 : Int32) then (if c < (97 : Int32) then (0 : Int32) else (if (102 : Int32) < c then (0 : Int32) else (1 : Int32))) else (if (57 : Int32) < c then (if c < (97 : Int32) then (0 : Int32) else (if (102 : Int32) < c then (0 : Int32) else (1 : Int32))) else (1 : Int32)))
theorem own_hx01 (c : Int32) (h : ¬ own_hx c = 1) : own_hx c = 0 := by
  unfold own_hx at *
  repeat' split
  all_goals first | rfl | simp_all
theorem own_ltt {j i : Int32} (h : j < i) (g : ¬ (40 : Int32) < i) : j < (40 : Int32) := by
  rw [Int32.lt_iff_toInt_lt] at *; omega


theorem d8_0 : decode prog_6_method_3_code 0 = .ok (.aload_n 0, 1) := by decide +kernel
theorem d8_1 : decode prog_6_method_3_code 1 = .ok (.invokevirtual 24, 3) := by decide +kernel
theorem d8_4 : decode prog_6_method_3_code 4 = .ok (.bipush 40, 2) := by decide +kernel
theorem d8_6 : decode prog_6_method_3_code 6 = .ok (.if_icmp .ne 7, 3) := by decide +kernel
theorem d8_9 : decode prog_6_method_3_code 9 = .ok (.iconst 1, 1) := by decide +kernel
theorem d8_10 : decode prog_6_method_3_code 10 = .ok (.goto 4, 3) := by decide +kernel
theorem d8_13 : decode prog_6_method_3_code 13 = .ok (.iconst 0, 1) := by decide +kernel
theorem d8_14 : decode prog_6_method_3_code 14 = .ok (.istore_n 1, 1) := by decide +kernel
theorem d8_15 : decode prog_6_method_3_code 15 = .ok (.iconst 0, 1) := by decide +kernel
theorem d8_16 : decode prog_6_method_3_code 16 = .ok (.istore_n 2, 1) := by decide +kernel
theorem d8_17 : decode prog_6_method_3_code 17 = .ok (.iload_n 1, 1) := by decide +kernel
theorem d8_18 : decode prog_6_method_3_code 18 = .ok (.ifCond .eq 51, 3) := by decide +kernel
theorem d8_21 : decode prog_6_method_3_code 21 = .ok (.iload_n 2, 1) := by decide +kernel
theorem d8_22 : decode prog_6_method_3_code 22 = .ok (.bipush 40, 2) := by decide +kernel
theorem d8_24 : decode prog_6_method_3_code 24 = .ok (.if_icmp .ge 45, 3) := by decide +kernel
theorem d8_27 : decode prog_6_method_3_code 27 = .ok (.aload_n 0, 1) := by decide +kernel
theorem d8_28 : decode prog_6_method_3_code 28 = .ok (.iload_n 2, 1) := by decide +kernel
theorem d8_29 : decode prog_6_method_3_code 29 = .ok (.invokevirtual 32, 3) := by decide +kernel
theorem d8_32 : decode prog_6_method_3_code 32 = .ok (.istore_n 3, 1) := by decide +kernel
theorem d8_33 : decode prog_6_method_3_code 33 = .ok (.iload_n 3, 1) := by decide +kernel
theorem d8_34 : decode prog_6_method_3_code 34 = .ok (.bipush 48, 2) := by decide +kernel
theorem d8_36 : decode prog_6_method_3_code 36 = .ok (.if_icmp .lt 9, 3) := by decide +kernel
theorem d8_39 : decode prog_6_method_3_code 39 = .ok (.iload_n 3, 1) := by decide +kernel
theorem d8_40 : decode prog_6_method_3_code 40 = .ok (.bipush 57, 2) := by decide +kernel
theorem d8_42 : decode prog_6_method_3_code 42 = .ok (.if_icmp .le 15, 3) := by decide +kernel
theorem d8_45 : decode prog_6_method_3_code 45 = .ok (.iload_n 3, 1) := by decide +kernel
theorem d8_46 : decode prog_6_method_3_code 46 = .ok (.bipush 97, 2) := by decide +kernel
theorem d8_48 : decode prog_6_method_3_code 48 = .ok (.if_icmp .lt 13, 3) := by decide +kernel
theorem d8_51 : decode prog_6_method_3_code 51 = .ok (.iload_n 3, 1) := by decide +kernel
theorem d8_52 : decode prog_6_method_3_code 52 = .ok (.bipush 102, 2) := by decide +kernel
theorem d8_54 : decode prog_6_method_3_code 54 = .ok (.if_icmp .gt 7, 3) := by decide +kernel
theorem d8_57 : decode prog_6_method_3_code 57 = .ok (.iconst 1, 1) := by decide +kernel
theorem d8_58 : decode prog_6_method_3_code 58 = .ok (.goto 4, 3) := by decide +kernel
theorem d8_61 : decode prog_6_method_3_code 61 = .ok (.iconst 0, 1) := by decide +kernel
theorem d8_62 : decode prog_6_method_3_code 62 = .ok (.istore_n 1, 1) := by decide +kernel
theorem d8_63 : decode prog_6_method_3_code 63 = .ok (.iinc 2 1, 3) := by decide +kernel
theorem d8_66 : decode prog_6_method_3_code 66 = .ok (.goto (-49), 3) := by decide +kernel
theorem d8_69 : decode prog_6_method_3_code 69 = .ok (.iload_n 1, 1) := by decide +kernel
theorem d8_70 : decode prog_6_method_3_code 70 = .ok (.ireturn, 1) := by decide +kernel
theorem pn_8 : plainName "com/example/bandwarden/bandwarden/protocol/Sha1" = true := by first | (simp [plainName, overriddenIn]; done) | decide +kernel
theorem pd_8_0 : parseMethodDescriptor "()I" = some ⟨[], some .int⟩ := by decide +kernel
theorem pd_8_1 : parseMethodDescriptor "(I)C" = some ⟨[.int], some .char⟩ := by decide +kernel
theorem ef_8 (m : MethodId) (x0 : Addr) : entryFrame m #[(.ref x0)] 4 = mkF m 0 #[.val (.ref x0), .unset, .unset, .unset] [] := by first | (simp [entryFrame, mkF, argsToLocals, Value.category]; done) | rfl
def Q8 (z : Int32) (y : Int32 → Int32) (h0 : Heap) (n0 : Nat) (v : Option Value) (h : Heap) (L : List Loc) : Prop := ∃ r : Int32, v = some (.int r) ∧ Fr n0 L ∧ h = h0 ∧ ((r = 1 ∧ z = (40 : Int32) ∧ ∀ j : Int32, ¬ j < 0 → j < (40 : Int32) → own_hx (y j) = 1) ∨ (r = 0 ∧ ¬ (z = (40 : Int32) ∧ ∀ j : Int32, ¬ j < 0 → j < (40 : Int32) → own_hx (y j) = 1)))
set_option maxRecDepth 65536 in
set_option maxHeartbeats 40000000 in
theorem rm8 (l : Launch) (Z : State) (a0 : Array Value) (hw : ∀ d ∈ tables_1, d.before a0 Z = true) (wds : List Jvm.Cond) (a1 : Addr) (z : Int32) (y : Int32 → Int32) (w0 : Int32) (f0 : Value) (h0 : Heap) (n0 : Nat) (Z0 : n0 ≤ h0.size) (P0 : Exa Z h0 a1 "java/lang/String") (hS : Str Z h0 a1 z y) (OL : Old Z n0 h0) (sts : Sts Z w0 f0) :
    MetFree l (⟨"com/example/bandwarden/bandwarden/protocol/Sha1", "isHex", "(Ljava/lang/String;)Z"⟩ : MethodName) (head1 (Jvm.Cond.code (⟨"com/example/bandwarden/bandwarden/protocol/Sha1", "isHex", "(Ljava/lang/String;)Z"⟩ : MethodName) prog_6_method_3_code 4 (some .boolean) :: wds) ({ frames := 6, cells := 0, slots := 0, locals := 120 } : Room)) (fun a U => a = #[(.ref a1)] ∧ Z.Warmed39 U.vm ∧ U.heap = h0) (fun _ _ _ _ _ => True) (fun _ U o U' => ∃ v L, o = .returned v ∧ Q8 z y h0 n0 v U'.heap L ∧ FrameEnd U o U' L ({ frames := 6, cells := 0, slots := 0, locals := 120 } : Room).cells ({ frames := 6, cells := 0, slots := 0, locals := 120 } : Room).slots) := by
  refine MetFree.of_bodySF (plainFor_of_name pn_8) hisR ?_
  intro p e s m args below meth c s₁ Bd hml0 hP hK
  obtain ⟨rfl, hZ, hh⟩ := hP
  have hx := Bd.exec
  have hby := Bd.bytes
  have hml : c.maxLocals = 4 := hml0
  have hown : s.vm.findClass "com/example/bandwarden/bandwarden/protocol/Sha1" = some m.cls := findClass_of_methodNamed Bd.named
  have hnm := (name_of_methodNamed Bd.named Bd.method).1
  have X0 : Stand p l e ({ frames := 6, cells := 0, slots := 0, locals := 120 } : Room) s m #[(.ref a1)] below meth c s₁ [] 0 0 := Stand.of_body Bd
  have e0 : s₁.heap = h0 := by rw [← hh, Bd.state]; rfl
  have N0 := Fr.nil n0
  refine own_start (Q := Q8 z y h0 n0) (C := ({ frames := 6, cells := 0, slots := 0, locals := 120 } : Room).cells) (S := ({ frames := 6, cells := 0, slots := 0, locals := 120 } : Room).slots) ?_
  rw [ef_8 m a1]
  obtain ⟨SC, hw0, SF, hf0, SA, SH, SL⟩ := id sts
  refine Gen.on (b := s₁.setTop (mkF m 1 #[.val (.ref a1), .unset, .unset, .unset] [(.ref a1)])) ?_ (fun t k => XS.aloadN X0.here hx rfl (hb hby d8_0) rfl rfl k)
  obtain ⟨cq1, kq1, q1a, q1b, q1c⟩ := isOf hZ e0 P0
  obtain ⟨_, _, ⟨T1, L1, k1, n1⟩, -, X1, ⟨Lc1, hQ1, l1, y1, z1⟩, st1⟩ := X0.virtualBack hx (y := (⟨"java/lang/String", "length", "()I"⟩ : MethodName)) (z := (⟨"java/lang/String", "length", "()I"⟩ : MethodName)) hown (mvT hZ (hw _ (List.mem_of_getElem? (i := 39) rfl))) (mvT hZ (hw _ (List.mem_of_getElem? (i := 40) rfl))) (notFace_of_selects (args := #[]) (mvT hZ (hw _ (List.mem_of_getElem? (i := 42) rfl)))) (mvT hZ (hw _ (List.mem_of_getElem? (i := 42) rfl))) (mvT hZ (hw _ (List.mem_of_getElem? (i := 41) rfl))) (by decide) (backOf (W := 0) (rm9s l Z a0 hw [] a1 z y w0 f0 h0 n0 Z0 P0 hS OL sts) hZ (hw _ (List.mem_of_getElem? (i := 43) rfl)) (hw _ (List.mem_of_getElem? (i := 8) rfl)) (by decide) (by decide)) q1a q1c (g := (mkF m 1 #[.val (.ref a1), .unset, .unset, .unset] [(.ref a1)])) rfl (by rw [hml]; rfl) (Steps.refl _) (argsL := []) (rest := []) (lenOf pd_8_0 rfl) rfl (by show 2 * 0 + _ ≤ _; exact Nat.le_of_eq rfl) (hb hby d8_1) (fun _ _ => ⟨rfl, e0, (by decide : 0 + 0 ≤ _), (by decide : 0 + 0 ≤ _)⟩)
  dsimp only [Pt.U, Pt.locs, Pt.cells, Pt.slots] at X1 l1 y1 z1 st1 hQ1
  subst l1 y1 z1
  obtain ⟨rfl, N1q, e1⟩ := hQ1
  have N1 := Fr.app N0 N1q
  refine Gen.on (b := T1.setTop (mkF m 4 #[.val (.ref a1), .unset, .unset, .unset] [(.int z)])) ?_ (fun t k => st1.trans k)
  refine Gen.on (b := T1.setTop (mkF m 6 #[.val (.ref a1), .unset, .unset, .unset] [(.int (40 : Int32)), (.int z)])) ?_ (fun t k => XS.bipush X1.here hx rfl (hb hby d8_4) k)
  by_cases c6_1 : z = (40 : Int32)
  · refine Gen.on (b := T1.setTop (mkF m 9 #[.val (.ref a1), .unset, .unset, .unset] [])) ?_ (fun t k => XS.icmpNo X1.here hx rfl (hb hby d8_6) rfl (teq c6_1).2 k)
    refine Gen.on (b := T1.setTop (mkF m 10 #[.val (.ref a1), .unset, .unset, .unset] [(.int (1 : Int32))])) ?_ (fun t k => XS.iconst X1.here hx rfl (hb hby d8_9) k)
    refine Gen.on (b := T1.setTop (mkF m 14 #[.val (.ref a1), .unset, .unset, .unset] [(.int (1 : Int32))])) ?_ (fun t k => XS.goto X1.here hx rfl (pc0 := 10) (pc' := 14) rfl (hb hby d8_10) (by decide) (by decide) k)
    refine Gen.on (b := T1.setTop (mkF m 15 #[.val (.ref a1), .val (.int (1 : Int32)), .unset, .unset] [])) ?_ (fun t k => XS.istoreN X1.here hx rfl (hb hby d8_14) rfl (l' := #[.val (.ref a1), .val (.int (1 : Int32)), .unset, .unset]) rfl k)
    refine Gen.on (b := T1.setTop (mkF m 16 #[.val (.ref a1), .val (.int (1 : Int32)), .unset, .unset] [(.int (0 : Int32))])) ?_ (fun t k => XS.iconst X1.here hx rfl (hb hby d8_15) k)
    refine Gen.on (b := T1.setTop (mkF m 17 #[.val (.ref a1), .val (.int (1 : Int32)), .val (.int (0 : Int32)), .unset] [])) ?_ (fun t k => XS.istoreN X1.here hx rfl (hb hby d8_16) rfl (l' := #[.val (.ref a1), .val (.int (1 : Int32)), .val (.int (0 : Int32)), .unset]) rfl k)
    have hz40 : z = (40 : Int32) := c6_1
    have hz1000 : z.toInt < 1000 := by rw [hz40]; decide +kernel
    have loop : ∀ (kk : Nat) (i : Int32) (b : Int32) (s3 : Slot) (TL : State) (lL : List Loc), One s3 → ¬ i < 0 → ¬ (40 : Int32) < i → (40 : Int32).toInt - i.toInt ≤ (kk : Int) → Stand p l e ({ frames := 6, cells := 0, slots := 0, locals := 120 } : Room) s m #[(.ref a1)] below meth c TL lL 0 0 → TL.heap = h0 → Fr n0 lL → ((b = 1 ∧ ∀ j : Int32, ¬ j < 0 → j < i → own_hx (y j) = 1) ∨ (b = 0 ∧ ∃ j : Int32, ¬ j < 0 ∧ j < i ∧ ¬ own_hx (y j) = 1)) → Own p e below s (Q8 z y h0 n0) ({ frames := 6, cells := 0, slots := 0, locals := 120 } : Room).cells ({ frames := 6, cells := 0, slots := 0, locals := 120 } : Room).slots (TL.setTop (mkF m 17 #[.val (.ref a1), .val (.int b), .val (.int i), s3] [])) := by
      intro kk
      induction kk with
      | zero =>
        intro i b s3 TL lL hs3 hi0 hip hm XL eL NL hinv
        rcases hinv with ⟨rfl, hall⟩ | ⟨rfl, jx, hj0, hji, hjn⟩
        · refine Gen.on (b := TL.setTop (mkF m 18 #[.val (.ref a1), .val (.int (1 : Int32)), .val (.int i), s3] [(.int (1 : Int32))])) ?_ (fun t k => XS.iloadN XL.here hx rfl (hb hby d8_17) rfl k)
          refine Gen.on (b := TL.setTop (mkF m 21 #[.val (.ref a1), .val (.int (1 : Int32)), .val (.int i), s3] [])) ?_ (fun t k => XS.ifNo XL.here hx rfl (hb hby d8_18) rfl ((if0 _ _).trans (feq (by decide : ¬ ((1 : Int32) = (0 : Int32)))).1) k)
          refine Gen.on (b := TL.setTop (mkF m 22 #[.val (.ref a1), .val (.int (1 : Int32)), .val (.int i), s3] [(.int i)])) ?_ (fun t k => XS.iloadN XL.here hx rfl (hb hby d8_21) rfl k)
          refine Gen.on (b := TL.setTop (mkF m 24 #[.val (.ref a1), .val (.int (1 : Int32)), .val (.int i), s3] [(.int (40 : Int32)), (.int i)])) ?_ (fun t k => XS.bipush XL.here hx rfl (hb hby d8_22) k)
          refine Gen.on (b := TL.setTop (mkF m 69 #[.val (.ref a1), .val (.int (1 : Int32)), .val (.int i), s3] [])) ?_ (fun t k => XS.icmpYes XL.here hx rfl (pc0 := 24) (pc' := 69) rfl (hb hby d8_24) rfl (flt (own_z0 hm)).2.1 (by decide) (by decide) k)
          refine Gen.on (b := TL.setTop (mkF m 70 #[.val (.ref a1), .val (.int (1 : Int32)), .val (.int i), s3] [(.int (1 : Int32))])) ?_ (fun t k => XS.iloadN XL.here hx rfl (hb hby d8_69) rfl k)
          refine own_retN (t := .boolean) XL hx Bd.returns (by simp) (by decide) (hb hby d8_70) (by decide) (by decide) ?_
          show Q8 z y h0 n0 _ TL.heap _
          rw [eL]
          have hip' := own_top (own_z0 hm) hip
          subst hip'
          exact ⟨1, rfl, NL, rfl, Or.inl ⟨rfl, hz40, hall⟩⟩
        · refine Gen.on (b := TL.setTop (mkF m 18 #[.val (.ref a1), .val (.int (0 : Int32)), .val (.int i), s3] [(.int (0 : Int32))])) ?_ (fun t k => XS.iloadN XL.here hx rfl (hb hby d8_17) rfl k)
          refine Gen.on (b := TL.setTop (mkF m 69 #[.val (.ref a1), .val (.int (0 : Int32)), .val (.int i), s3] [])) ?_ (fun t k => XS.ifYes XL.here hx rfl (pc0 := 18) (pc' := 69) rfl (hb hby d8_18) rfl ((if0 _ _).trans (teq (by decide : (0 : Int32) = (0 : Int32))).1) (by decide) (by decide) k)
          refine Gen.on (b := TL.setTop (mkF m 70 #[.val (.ref a1), .val (.int (0 : Int32)), .val (.int i), s3] [(.int (0 : Int32))])) ?_ (fun t k => XS.iloadN XL.here hx rfl (hb hby d8_69) rfl k)
          refine own_retN (t := .boolean) XL hx Bd.returns (by simp) (by decide) (hb hby d8_70) (by decide) (by decide) ?_
          show Q8 z y h0 n0 _ TL.heap _
          rw [eL]
          exact ⟨0, rfl, NL, rfl, Or.inr ⟨rfl, fun q => hjn (q.2 jx hj0 (own_ltt hji hip))⟩⟩
      | succ kk ih =>
        intro i b s3 TL lL hs3 hi0 hip hm XL eL NL hinv
        rcases hinv with ⟨rfl, hall⟩ | ⟨rfl, jx, hj0, hji, hjn⟩
        · refine Gen.on (b := TL.setTop (mkF m 18 #[.val (.ref a1), .val (.int (1 : Int32)), .val (.int i), s3] [(.int (1 : Int32))])) ?_ (fun t k => XS.iloadN XL.here hx rfl (hb hby d8_17) rfl k)
          refine Gen.on (b := TL.setTop (mkF m 21 #[.val (.ref a1), .val (.int (1 : Int32)), .val (.int i), s3] [])) ?_ (fun t k => XS.ifNo XL.here hx rfl (hb hby d8_18) rfl ((if0 _ _).trans (feq (by decide : ¬ ((1 : Int32) = (0 : Int32)))).1) k)
          refine Gen.on (b := TL.setTop (mkF m 22 #[.val (.ref a1), .val (.int (1 : Int32)), .val (.int i), s3] [(.int i)])) ?_ (fun t k => XS.iloadN XL.here hx rfl (hb hby d8_21) rfl k)
          refine Gen.on (b := TL.setTop (mkF m 24 #[.val (.ref a1), .val (.int (1 : Int32)), .val (.int i), s3] [(.int (40 : Int32)), (.int i)])) ?_ (fun t k => XS.bipush XL.here hx rfl (hb hby d8_22) k)
          by_cases c24_2 : i < (40 : Int32)
          · refine Gen.on (b := TL.setTop (mkF m 27 #[.val (.ref a1), .val (.int (1 : Int32)), .val (.int i), s3] [])) ?_ (fun t k => XS.icmpNo XL.here hx rfl (hb hby d8_24) rfl (tlt c24_2).2.1 k)
            refine Gen.on (b := TL.setTop (mkF m 28 #[.val (.ref a1), .val (.int (1 : Int32)), .val (.int i), s3] [(.ref a1)])) ?_ (fun t k => XS.aloadN XL.here hx rfl (hb hby d8_27) rfl rfl k)
            refine Gen.on (b := TL.setTop (mkF m 29 #[.val (.ref a1), .val (.int (1 : Int32)), .val (.int i), s3] [(.int i), (.ref a1)])) ?_ (fun t k => XS.iloadN XL.here hx rfl (hb hby d8_28) rfl k)
            obtain ⟨cq2, kq2, q2a, q2b, q2c⟩ := isOf hZ eL P0
            obtain ⟨_, _, ⟨T2, L2, k2, n2⟩, -, X2, ⟨Lc2, hQ2, l2, y2, z2⟩, st2⟩ := XL.virtualBack hx (y := (⟨"java/lang/String", "charAt", "(I)C"⟩ : MethodName)) (z := (⟨"java/lang/String", "charAt", "(I)C"⟩ : MethodName)) hown (mvT hZ (hw _ (List.mem_of_getElem? (i := 49) rfl))) (mvT hZ (hw _ (List.mem_of_getElem? (i := 50) rfl))) (notFace_of_selects (args := #[]) (mvT hZ (hw _ (List.mem_of_getElem? (i := 52) rfl)))) (mvT hZ (hw _ (List.mem_of_getElem? (i := 52) rfl))) (mvT hZ (hw _ (List.mem_of_getElem? (i := 51) rfl))) (by decide) (backOf (W := 0) (rm11s l Z a0 hw [] a1 i z y w0 f0 h0 n0 Z0 P0 hS OL sts hi0 (hz40 ▸ c24_2) hz1000) hZ (hw _ (List.mem_of_getElem? (i := 53) rfl)) (hw _ (List.mem_of_getElem? (i := 8) rfl)) (by decide) (by decide)) q2a q2c (g := (mkF m 29 #[.val (.ref a1), .val (.int (1 : Int32)), .val (.int i), s3] [(.int i), (.ref a1)])) rfl (by rw [hml]; rfl) (Steps.refl _) (argsL := [(.int i)]) (rest := []) (lenOf pd_8_1 rfl) rfl (by show 2 * 0 + _ ≤ _; exact Nat.le_of_eq rfl) (hb hby d8_29) (fun _ _ => ⟨rfl, eL, (by decide : 0 + 0 ≤ _), (by decide : 0 + 0 ≤ _)⟩)
            dsimp only [Pt.U, Pt.locs, Pt.cells, Pt.slots] at X2 l2 y2 z2 st2 hQ2
            subst l2 y2 z2
            obtain ⟨rfl, N2q, e2⟩ := hQ2
            have N2 := Fr.app NL N2q
            refine Gen.on (b := T2.setTop (mkF m 32 #[.val (.ref a1), .val (.int (1 : Int32)), .val (.int i), s3] [(.int (y i))])) ?_ (fun t k => st2.trans k)
            refine Gen.on (b := T2.setTop (mkF m 33 #[.val (.ref a1), .val (.int (1 : Int32)), .val (.int i), .val (.int (y i))] [])) ?_ (fun t k => XS.istoreN X2.here hx rfl (hb hby d8_32) rfl (l' := #[.val (.ref a1), .val (.int (1 : Int32)), .val (.int i), .val (.int (y i))]) (own_os3 hs3) k)
            obtain ⟨_, st3, T3, X3, e3, rfl⟩ : Gen p e below (own_at X2 h0 (mkF m 62 #[.val (.ref a1), .val (.int (1 : Int32)), .val (.int i), .val (.int (y i))] [(.int (if (y i) < (48 : Int32) then (if (y i) < (97 : Int32) then (0 : Int32) else (if (102 : Int32) < (y i) then (0 : Int32) else (1 : Int32))) else (if (57 : Int32) < (y i) then (if (y i) < (97 : Int32) then (0 : Int32) else (if (102 : Int32) < (y i) then (0 : Int32) else (1 : Int32))) else (1 : Int32))))])) (T2.setTop (mkF m 33 #[.val (.ref a1), .val (.int (1 : Int32)), .val (.int i), .val (.int (y i))] [])) := by
              refine Gen.on (b := T2.setTop (mkF m 34 #[.val (.ref a1), .val (.int (1 : Int32)), .val (.int i), .val (.int (y i))] [(.int (y i))])) ?_ (fun t k => XS.iloadN X2.here hx rfl (hb hby d8_33) rfl k)
              refine Gen.on (b := T2.setTop (mkF m 36 #[.val (.ref a1), .val (.int (1 : Int32)), .val (.int i), .val (.int (y i))] [(.int (48 : Int32)), (.int (y i))])) ?_ (fun t k => XS.bipush X2.here hx rfl (hb hby d8_34) k)
              by_cases c36_3 : (y i) < (48 : Int32)
              · refine Gen.on (b := T2.setTop (mkF m 45 #[.val (.ref a1), .val (.int (1 : Int32)), .val (.int i), .val (.int (y i))] [])) ?_ (fun t k => XS.icmpYes X2.here hx rfl (pc0 := 36) (pc' := 45) rfl (hb hby d8_36) rfl (tlt c36_3).1 (by decide) (by decide) k)
                refine Gen.on (b := T2.setTop (mkF m 46 #[.val (.ref a1), .val (.int (1 : Int32)), .val (.int i), .val (.int (y i))] [(.int (y i))])) ?_ (fun t k => XS.iloadN X2.here hx rfl (hb hby d8_45) rfl k)
                refine Gen.on (b := T2.setTop (mkF m 48 #[.val (.ref a1), .val (.int (1 : Int32)), .val (.int i), .val (.int (y i))] [(.int (97 : Int32)), (.int (y i))])) ?_ (fun t k => XS.bipush X2.here hx rfl (hb hby d8_46) k)
                by_cases c48_4 : (y i) < (97 : Int32)
                · refine Gen.on (b := T2.setTop (mkF m 61 #[.val (.ref a1), .val (.int (1 : Int32)), .val (.int i), .val (.int (y i))] [])) ?_ (fun t k => XS.icmpYes X2.here hx rfl (pc0 := 48) (pc' := 61) rfl (hb hby d8_48) rfl (tlt c48_4).1 (by decide) (by decide) k)
                  refine Gen.on (b := T2.setTop (mkF m 62 #[.val (.ref a1), .val (.int (1 : Int32)), .val (.int i), .val (.int (y i))] [(.int (0 : Int32))])) ?_ (fun t k => XS.iconst X2.here hx rfl (hb hby d8_61) k)
                  exact ⟨_, Steps.refl _, T2, X2, e2, by simp only [if_pos c36_3, if_pos c48_4]⟩
                · refine Gen.on (b := T2.setTop (mkF m 51 #[.val (.ref a1), .val (.int (1 : Int32)), .val (.int i), .val (.int (y i))] [])) ?_ (fun t k => XS.icmpNo X2.here hx rfl (hb hby d8_48) rfl (flt c48_4).1 k)
                  refine Gen.on (b := T2.setTop (mkF m 52 #[.val (.ref a1), .val (.int (1 : Int32)), .val (.int i), .val (.int (y i))] [(.int (y i))])) ?_ (fun t k => XS.iloadN X2.here hx rfl (hb hby d8_51) rfl k)
                  refine Gen.on (b := T2.setTop (mkF m 54 #[.val (.ref a1), .val (.int (1 : Int32)), .val (.int i), .val (.int (y i))] [(.int (102 : Int32)), (.int (y i))])) ?_ (fun t k => XS.bipush X2.here hx rfl (hb hby d8_52) k)
                  by_cases c54_5 : (102 : Int32) < (y i)
                  · refine Gen.on (b := T2.setTop (mkF m 61 #[.val (.ref a1), .val (.int (1 : Int32)), .val (.int i), .val (.int (y i))] [])) ?_ (fun t k => XS.icmpYes X2.here hx rfl (pc0 := 54) (pc' := 61) rfl (hb hby d8_54) rfl (tlt c54_5).2.2.1 (by decide) (by decide) k)
                    refine Gen.on (b := T2.setTop (mkF m 62 #[.val (.ref a1), .val (.int (1 : Int32)), .val (.int i), .val (.int (y i))] [(.int (0 : Int32))])) ?_ (fun t k => XS.iconst X2.here hx rfl (hb hby d8_61) k)
                    exact ⟨_, Steps.refl _, T2, X2, e2, by simp only [if_pos c36_3, if_neg c48_4, if_pos c54_5]⟩
                  · refine Gen.on (b := T2.setTop (mkF m 57 #[.val (.ref a1), .val (.int (1 : Int32)), .val (.int i), .val (.int (y i))] [])) ?_ (fun t k => XS.icmpNo X2.here hx rfl (hb hby d8_54) rfl (flt c54_5).2.2.1 k)
                    refine Gen.on (b := T2.setTop (mkF m 58 #[.val (.ref a1), .val (.int (1 : Int32)), .val (.int i), .val (.int (y i))] [(.int (1 : Int32))])) ?_ (fun t k => XS.iconst X2.here hx rfl (hb hby d8_57) k)
                    refine Gen.on (b := T2.setTop (mkF m 62 #[.val (.ref a1), .val (.int (1 : Int32)), .val (.int i), .val (.int (y i))] [(.int (1 : Int32))])) ?_ (fun t k => XS.goto X2.here hx rfl (pc0 := 58) (pc' := 62) rfl (hb hby d8_58) (by decide) (by decide) k)
                    exact ⟨_, Steps.refl _, T2, X2, e2, by simp only [if_pos c36_3, if_neg c48_4, if_neg c54_5]⟩
              · refine Gen.on (b := T2.setTop (mkF m 39 #[.val (.ref a1), .val (.int (1 : Int32)), .val (.int i), .val (.int (y i))] [])) ?_ (fun t k => XS.icmpNo X2.here hx rfl (hb hby d8_36) rfl (flt c36_3).1 k)
                refine Gen.on (b := T2.setTop (mkF m 40 #[.val (.ref a1), .val (.int (1 : Int32)), .val (.int i), .val (.int (y i))] [(.int (y i))])) ?_ (fun t k => XS.iloadN X2.here hx rfl (hb hby d8_39) rfl k)
                refine Gen.on (b := T2.setTop (mkF m 42 #[.val (.ref a1), .val (.int (1 : Int32)), .val (.int i), .val (.int (y i))] [(.int (57 : Int32)), (.int (y i))])) ?_ (fun t k => XS.bipush X2.here hx rfl (hb hby d8_40) k)
                by_cases c42_6 : (57 : Int32) < (y i)
                · refine Gen.on (b := T2.setTop (mkF m 45 #[.val (.ref a1), .val (.int (1 : Int32)), .val (.int i), .val (.int (y i))] [])) ?_ (fun t k => XS.icmpNo X2.here hx rfl (hb hby d8_42) rfl (tlt c42_6).2.2.2 k)
                  refine Gen.on (b := T2.setTop (mkF m 46 #[.val (.ref a1), .val (.int (1 : Int32)), .val (.int i), .val (.int (y i))] [(.int (y i))])) ?_ (fun t k => XS.iloadN X2.here hx rfl (hb hby d8_45) rfl k)
                  refine Gen.on (b := T2.setTop (mkF m 48 #[.val (.ref a1), .val (.int (1 : Int32)), .val (.int i), .val (.int (y i))] [(.int (97 : Int32)), (.int (y i))])) ?_ (fun t k => XS.bipush X2.here hx rfl (hb hby d8_46) k)
                  by_cases c48_7 : (y i) < (97 : Int32)
                  · refine Gen.on (b := T2.setTop (mkF m 61 #[.val (.ref a1), .val (.int (1 : Int32)), .val (.int i), .val (.int (y i))] [])) ?_ (fun t k => XS.icmpYes X2.here hx rfl (pc0 := 48) (pc' := 61) rfl (hb hby d8_48) rfl (tlt c48_7).1 (by decide) (by decide) k)
                    refine Gen.on (b := T2.setTop (mkF m 62 #[.val (.ref a1), .val (.int (1 : Int32)), .val (.int i), .val (.int (y i))] [(.int (0 : Int32))])) ?_ (fun t k => XS.iconst X2.here hx rfl (hb hby d8_61) k)
                    exact ⟨_, Steps.refl _, T2, X2, e2, by simp only [if_neg c36_3, if_pos c42_6, if_pos c48_7]⟩
                  · refine Gen.on (b := T2.setTop (mkF m 51 #[.val (.ref a1), .val (.int (1 : Int32)), .val (.int i), .val (.int (y i))] [])) ?_ (fun t k => XS.icmpNo X2.here hx rfl (hb hby d8_48) rfl (flt c48_7).1 k)
                    refine Gen.on (b := T2.setTop (mkF m 52 #[.val (.ref a1), .val (.int (1 : Int32)), .val (.int i), .val (.int (y i))] [(.int (y i))])) ?_ (fun t k => XS.iloadN X2.here hx rfl (hb hby d8_51) rfl k)
                    refine Gen.on (b := T2.setTop (mkF m 54 #[.val (.ref a1), .val (.int (1 : Int32)), .val (.int i), .val (.int (y i))] [(.int (102 : Int32)), (.int (y i))])) ?_ (fun t k => XS.bipush X2.here hx rfl (hb hby d8_52) k)
                    by_cases c54_8 : (102 : Int32) < (y i)
                    · refine Gen.on (b := T2.setTop (mkF m 61 #[.val (.ref a1), .val (.int (1 : Int32)), .val (.int i), .val (.int (y i))] [])) ?_ (fun t k => XS.icmpYes X2.here hx rfl (pc0 := 54) (pc' := 61) rfl (hb hby d8_54) rfl (tlt c54_8).2.2.1 (by decide) (by decide) k)
                      refine Gen.on (b := T2.setTop (mkF m 62 #[.val (.ref a1), .val (.int (1 : Int32)), .val (.int i), .val (.int (y i))] [(.int (0 : Int32))])) ?_ (fun t k => XS.iconst X2.here hx rfl (hb hby d8_61) k)
                      exact ⟨_, Steps.refl _, T2, X2, e2, by simp only [if_neg c36_3, if_pos c42_6, if_neg c48_7, if_pos c54_8]⟩
                    · refine Gen.on (b := T2.setTop (mkF m 57 #[.val (.ref a1), .val (.int (1 : Int32)), .val (.int i), .val (.int (y i))] [])) ?_ (fun t k => XS.icmpNo X2.here hx rfl (hb hby d8_54) rfl (flt c54_8).2.2.1 k)
                      refine Gen.on (b := T2.setTop (mkF m 58 #[.val (.ref a1), .val (.int (1 : Int32)), .val (.int i), .val (.int (y i))] [(.int (1 : Int32))])) ?_ (fun t k => XS.iconst X2.here hx rfl (hb hby d8_57) k)
                      refine Gen.on (b := T2.setTop (mkF m 62 #[.val (.ref a1), .val (.int (1 : Int32)), .val (.int i), .val (.int (y i))] [(.int (1 : Int32))])) ?_ (fun t k => XS.goto X2.here hx rfl (pc0 := 58) (pc' := 62) rfl (hb hby d8_58) (by decide) (by decide) k)
                      exact ⟨_, Steps.refl _, T2, X2, e2, by simp only [if_neg c36_3, if_pos c42_6, if_neg c48_7, if_neg c54_8]⟩
                · refine Gen.on (b := T2.setTop (mkF m 57 #[.val (.ref a1), .val (.int (1 : Int32)), .val (.int i), .val (.int (y i))] [])) ?_ (fun t k => XS.icmpYes X2.here hx rfl (pc0 := 42) (pc' := 57) rfl (hb hby d8_42) rfl (flt c42_6).2.2.2 (by decide) (by decide) k)
                  refine Gen.on (b := T2.setTop (mkF m 58 #[.val (.ref a1), .val (.int (1 : Int32)), .val (.int i), .val (.int (y i))] [(.int (1 : Int32))])) ?_ (fun t k => XS.iconst X2.here hx rfl (hb hby d8_57) k)
                  refine Gen.on (b := T2.setTop (mkF m 62 #[.val (.ref a1), .val (.int (1 : Int32)), .val (.int i), .val (.int (y i))] [(.int (1 : Int32))])) ?_ (fun t k => XS.goto X2.here hx rfl (pc0 := 58) (pc' := 62) rfl (hb hby d8_58) (by decide) (by decide) k)
                  exact ⟨_, Steps.refl _, T2, X2, e2, by simp only [if_neg c36_3, if_neg c42_6]⟩
            refine Gen.on (b := T3.setTop (mkF m 62 #[.val (.ref a1), .val (.int (1 : Int32)), .val (.int i), .val (.int (y i))] [(.int (if (y i) < (48 : Int32) then (if (y i) < (97 : Int32) then (0 : Int32) else (if (102 : Int32) < (y i) then (0 : Int32) else (1 : Int32))) else (if (57 : Int32) < (y i) then (if (y i) < (97 : Int32) then (0 : Int32) else (if (102 : Int32) < (y i) then (0 : Int32) else (1 : Int32))) else (1 : Int32))))])) ?_ (fun t k => st3.trans k)
            refine Gen.on (b := T3.setTop (mkF m 63 #[.val (.ref a1), .val (.int (own_hx (y i))), .val (.int i), .val (.int (y i))] [])) ?_ (fun t k => XS.istoreN X3.here hx rfl (hb hby d8_62) rfl (l' := #[.val (.ref a1), .val (.int (own_hx (y i))), .val (.int i), .val (.int (y i))]) rfl k)
            refine Gen.on (b := T3.setTop (mkF m 66 #[.val (.ref a1), .val (.int (own_hx (y i))), .val (.int (i + (1 : Int32))), .val (.int (y i))] [])) ?_ (fun t k => XS.iinc X3.here hx rfl (hb hby d8_63) rfl (l' := #[.val (.ref a1), .val (.int (own_hx (y i))), .val (.int (i + (1 : Int32))), .val (.int (y i))]) rfl k)
            refine Gen.on (b := T3.setTop (mkF m 17 #[.val (.ref a1), .val (.int (own_hx (y i))), .val (.int (i + (1 : Int32))), .val (.int (y i))] [])) ?_ (fun t k => XS.goto X3.here hx rfl (pc0 := 66) (pc' := 17) rfl (hb hby d8_66) (by decide) (by decide) k)
            have hstp := own_step hi0 c24_2 hm
            refine ih (i + (1 : Int32)) _ _ _ _ (One.val rfl) hstp.1 hstp.2.1 hstp.2.2 X3 e3 N2 ?_
            by_cases hn : own_hx (y i) = 1
            · exact Or.inl ⟨hn, fun j h1 h2 => by
                rcases own_ltS hi0 c24_2 h2 with rfl | h3
                · exact hn
                · exact hall j h1 h3⟩
            · exact Or.inr ⟨own_hx01 _ hn, i, hi0, by rw [Int32.lt_iff_toInt_lt, own_inc hi0 c24_2]; omega, hn⟩
          · refine Gen.on (b := TL.setTop (mkF m 69 #[.val (.ref a1), .val (.int (1 : Int32)), .val (.int i), s3] [])) ?_ (fun t k => XS.icmpYes XL.here hx rfl (pc0 := 24) (pc' := 69) rfl (hb hby d8_24) rfl (flt c24_2).2.1 (by decide) (by decide) k)
            refine Gen.on (b := TL.setTop (mkF m 70 #[.val (.ref a1), .val (.int (1 : Int32)), .val (.int i), s3] [(.int (1 : Int32))])) ?_ (fun t k => XS.iloadN XL.here hx rfl (hb hby d8_69) rfl k)
            refine own_retN (t := .boolean) XL hx Bd.returns (by simp) (by decide) (hb hby d8_70) (by decide) (by decide) ?_
            show Q8 z y h0 n0 _ TL.heap _
            rw [eL]
            have hip' := own_top c24_2 hip
            subst hip'
            exact ⟨1, rfl, NL, rfl, Or.inl ⟨rfl, hz40, hall⟩⟩
        · refine Gen.on (b := TL.setTop (mkF m 18 #[.val (.ref a1), .val (.int (0 : Int32)), .val (.int i), s3] [(.int (0 : Int32))])) ?_ (fun t k => XS.iloadN XL.here hx rfl (hb hby d8_17) rfl k)
          refine Gen.on (b := TL.setTop (mkF m 69 #[.val (.ref a1), .val (.int (0 : Int32)), .val (.int i), s3] [])) ?_ (fun t k => XS.ifYes XL.here hx rfl (pc0 := 18) (pc' := 69) rfl (hb hby d8_18) rfl ((if0 _ _).trans (teq (by decide : (0 : Int32) = (0 : Int32))).1) (by decide) (by decide) k)
          refine Gen.on (b := TL.setTop (mkF m 70 #[.val (.ref a1), .val (.int (0 : Int32)), .val (.int i), s3] [(.int (0 : Int32))])) ?_ (fun t k => XS.iloadN XL.here hx rfl (hb hby d8_69) rfl k)
          refine own_retN (t := .boolean) XL hx Bd.returns (by simp) (by decide) (hb hby d8_70) (by decide) (by decide) ?_
          show Q8 z y h0 n0 _ TL.heap _
          rw [eL]
          exact ⟨0, rfl, NL, rfl, Or.inr ⟨rfl, fun q => hjn (q.2 jx hj0 (own_ltt hji hip))⟩⟩
    exact loop _ (0 : Int32) (1 : Int32) .unset _ _ One.u (by decide) (by decide) (Int.le_of_eq (Int.toNat_of_nonneg (by decide +kernel)).symm) X1 e1 N1 (Or.inl ⟨rfl, fun j h1 h2 => absurd h2 h1⟩)
  · refine Gen.on (b := T1.setTop (mkF m 13 #[.val (.ref a1), .unset, .unset, .unset] [])) ?_ (fun t k => XS.icmpYes X1.here hx rfl (pc0 := 6) (pc' := 13) rfl (hb hby d8_6) rfl (feq c6_1).2 (by decide) (by decide) k)
    refine Gen.on (b := T1.setTop (mkF m 14 #[.val (.ref a1), .unset, .unset, .unset] [(.int (0 : Int32))])) ?_ (fun t k => XS.iconst X1.here hx rfl (hb hby d8_13) k)
    refine Gen.on (b := T1.setTop (mkF m 15 #[.val (.ref a1), .val (.int (0 : Int32)), .unset, .unset] [])) ?_ (fun t k => XS.istoreN X1.here hx rfl (hb hby d8_14) rfl (l' := #[.val (.ref a1), .val (.int (0 : Int32)), .unset, .unset]) rfl k)
    refine Gen.on (b := T1.setTop (mkF m 16 #[.val (.ref a1), .val (.int (0 : Int32)), .unset, .unset] [(.int (0 : Int32))])) ?_ (fun t k => XS.iconst X1.here hx rfl (hb hby d8_15) k)
    refine Gen.on (b := T1.setTop (mkF m 17 #[.val (.ref a1), .val (.int (0 : Int32)), .val (.int (0 : Int32)), .unset] [])) ?_ (fun t k => XS.istoreN X1.here hx rfl (hb hby d8_16) rfl (l' := #[.val (.ref a1), .val (.int (0 : Int32)), .val (.int (0 : Int32)), .unset]) rfl k)
    refine Gen.on (b := T1.setTop (mkF m 18 #[.val (.ref a1), .val (.int (0 : Int32)), .val (.int (0 : Int32)), .unset] [(.int (0 : Int32))])) ?_ (fun t k => XS.iloadN X1.here hx rfl (hb hby d8_17) rfl k)
    refine Gen.on (b := T1.setTop (mkF m 69 #[.val (.ref a1), .val (.int (0 : Int32)), .val (.int (0 : Int32)), .unset] [])) ?_ (fun t k => XS.ifYes X1.here hx rfl (pc0 := 18) (pc' := 69) rfl (hb hby d8_18) rfl ((if0 _ _).trans (teq (by decide : (0 : Int32) = (0 : Int32))).1) (by decide) (by decide) k)
    refine Gen.on (b := T1.setTop (mkF m 70 #[.val (.ref a1), .val (.int (0 : Int32)), .val (.int (0 : Int32)), .unset] [(.int (0 : Int32))])) ?_ (fun t k => XS.iloadN X1.here hx rfl (hb hby d8_69) rfl k)
    refine own_retN (t := .boolean) X1 hx Bd.returns (by simp) (by decide) (hb hby d8_70) (by decide) (by decide) ?_
    show Q8 z y h0 n0 _ T1.heap _
    rw [e1]
    exact ⟨0, rfl, N1, rfl, Or.inr ⟨rfl, fun q => c6_1 q.1⟩⟩

theorem own_eqi {t : Term} {n : Int32} {args : Array Value} {s : State} (h : (Jvm.Cond.eq t (.int n)).value args s none s [] = some true) : t.eval args s none [] s = some (.int n) := by
  obtain ⟨x, y, e1, e2, k1, k2⟩ := cmp_v (Or.inl h)
  have e3 : y = .int n := by simpa [Term.eval] using e2.symm
  subst e3
  obtain ⟨z, rfl⟩ := k2
  simp only [Cond.value, e1, e2] at h
  have : z = n := by simpa using h
  rw [e1, this]


def own_pre (k x : Int32) : Int32 → Int32 := fun j => if j < k then x else 0
theorem own_pre0 (x j : Int32) (h : ¬ j < 0) : (0 : Int32) = own_pre 0 x j := by unfold own_pre; rw [if_neg h]
theorem own_pre_up (k k' x : Int32) (h : k'.toInt = k.toInt + 1) : own_upd (own_pre k x) k x = own_pre k' x := by
  funext j
  unfold own_upd own_pre
  by_cases e : j = k
  · subst e; rw [if_pos rfl, if_pos]; rw [Int32.lt_iff_toInt_lt]; omega
  · rw [if_neg e]
    have ne : ¬ j.toInt = k.toInt := fun q => e (Int32.toInt_inj.mp q)
    by_cases g : j < k
    · rw [if_pos g, if_pos]; rw [Int32.lt_iff_toInt_lt] at *; omega
    · rw [if_neg g, if_neg]; rw [Int32.lt_iff_toInt_lt] at *; omega
theorem own_mod (x n : Int32) (hn : 0 < n.toInt) : ¬ ((x &&& (2147483647 : Int32)) % n) < 0 ∧ ((x &&& (2147483647 : Int32)) % n) < n := by
  have e : (x &&& (2147483647 : Int32)).toInt = x.toInt % 2 ^ 31 := Jvm.Kit.i32_mask x 2147483647 (k := 31) (by decide) (by decide)
  have r := Jvm.Kit.i32_rem_nonneg (x := x &&& (2147483647 : Int32)) (y := n) (by rw [e]; omega)
  rw [Int32.lt_iff_toInt_lt, Int32.lt_iff_toInt_lt, r, own_e0]
  have h1 := Int.emod_nonneg ((x &&& (2147483647 : Int32)).toInt) (show n.toInt ≠ 0 by omega)
  have h2 := Int.emod_lt_of_pos ((x &&& (2147483647 : Int32)).toInt) hn
  omega
theorem own_chb (x : Int32) : ¬ (nar .char (own_i2c x)) < 0 ∧ ¬ (65535 : Int32) < (nar .char (own_i2c x)) := by
  rw [own_nar_i2c]
  have hlt : x.toUInt32.toUInt16.toNat < 65536 := x.toUInt32.toUInt16.toNat_lt
  have e : (own_i2c x).toInt = (x.toUInt32.toUInt16.toNat : Int) := by
    rw [← Int32.toInt_toBitVec, UInt32.toBitVec_toInt32, BitVec.toInt_eq_toNat_of_lt]
    · simp; rfl
    · simp only [UInt32.toNat_toBitVec, UInt16.toNat_toUInt32]; omega
  have e5 : (65535 : Int32).toInt = 65535 := by decide +kernel
  rw [Int32.lt_iff_toInt_lt, Int32.lt_iff_toInt_lt, e, own_e0, e5]
  omega
abbrev own_Y (x a b P Q : Int32) : Int32 → Int32 := own_upd (own_upd (fun _ => (nar .char (own_i2c x))) P (nar .char (own_i2c a))) Q (nar .char (own_i2c b))
theorem own_Yb (x a b P Q : Int32) (z : Int32) : ∀ j : Int32, ¬ j < 0 → j < z → ¬ own_Y x a b P Q j < 0 ∧ ¬ (65535 : Int32) < own_Y x a b P Q j := fun j _ _ => by
  unfold own_Y own_upd
  split
  · exact own_chb b
  · split
    · exact own_chb a
    · exact own_chb x
theorem own_okhx (c : Int32) : own_hx c = 1 ↔ ¬ f1 c = 0 := by
  unfold own_hx f1
  simp only [Int32.lt_iff_toInt_lt, Int32.reduceToInt]
  repeat' split
  all_goals first | (simp; done) | (exfalso; omega)
theorem own_all {x a b P Q : Int32} (hx : ¬ f1 (own_i2c x) = 0) (hb : ¬ f1 (own_i2c b) = 0) (ha : P = Q ∨ ¬ f1 (own_i2c a) = 0) : ∀ j : Int32, own_hx (own_Y x a b P Q j) = 1 := fun j => by
  unfold own_Y own_upd
  simp only [own_nar_i2c]
  by_cases h : j = Q
  · rw [if_pos h]; exact (own_okhx _).mpr hb
  · rw [if_neg h]
    by_cases g : j = P
    · rw [if_pos g]
      rcases ha with ha | ha
      · exact absurd (g.trans ha) h
      · exact (own_okhx _).mpr ha
    · rw [if_neg g]; exact (own_okhx _).mpr hx
theorem own_cx {x a b P Q : Int32} (hall : ∀ j : Int32, ¬ j < 0 → j < (40 : Int32) → own_hx (own_Y x a b P Q j) = 1) : ¬ f1 (own_i2c x) = 0 := by
  have k : ∃ j : Int32, ¬ j < 0 ∧ j < (40 : Int32) ∧ ¬ j = P ∧ ¬ j = Q := by
    by_cases a0 : (0 : Int32) = P ∨ (0 : Int32) = Q
    · by_cases a1 : (1 : Int32) = P ∨ (1 : Int32) = Q
      · refine ⟨2, by decide, by decide, fun h => ?_, fun h => ?_⟩
        · rcases a0 with h0 | h0 <;> rcases a1 with h1 | h1
          · exact absurd (h0.trans h1.symm) (by decide)
          · exact absurd (h0.trans h.symm) (by decide)
          · exact absurd (h1.trans h.symm) (by decide)
          · exact absurd (h0.trans h1.symm) (by decide)
        · rcases a0 with h0 | h0 <;> rcases a1 with h1 | h1
          · exact absurd (h0.trans h1.symm) (by decide)
          · exact absurd (h1.trans h.symm) (by decide)
          · exact absurd (h0.trans h.symm) (by decide)
          · exact absurd (h0.trans h1.symm) (by decide)
      · exact ⟨1, by decide, by decide, fun h => a1 (Or.inl h), fun h => a1 (Or.inr h)⟩
    · exact ⟨0, by decide, by decide, fun h => a0 (Or.inl h), fun h => a0 (Or.inr h)⟩
  obtain ⟨j, h0, h1, h2, h3⟩ := k
  have q := hall j h0 h1
  unfold own_Y own_upd at q
  rw [if_neg h3, if_neg h2, own_nar_i2c] at q
  exact (own_okhx _).mp q
theorem own_cb {x a b P Q : Int32} (hall : ∀ j : Int32, ¬ j < 0 → j < (40 : Int32) → own_hx (own_Y x a b P Q j) = 1) (h0 : ¬ Q < 0) (h1 : Q < (40 : Int32)) : ¬ f1 (own_i2c b) = 0 := by
  have q := hall Q h0 h1
  unfold own_Y own_upd at q
  rw [if_pos rfl, own_nar_i2c] at q
  exact (own_okhx _).mp q
theorem own_ca {x a b P Q : Int32} (hall : ∀ j : Int32, ¬ j < 0 → j < (40 : Int32) → own_hx (own_Y x a b P Q j) = 1) (h0 : ¬ P < 0) (h1 : P < (40 : Int32)) (hne : ¬ P = Q) : ¬ f1 (own_i2c a) = 0 := by
  have q := hall P h0 h1
  unfold own_Y own_upd at q
  rw [if_neg hne, if_pos rfl, own_nar_i2c] at q
  exact (own_okhx _).mp q

def own_pc (b j : Nat) : Nat := b + 5 * j + (j - 6)
set_option maxRecDepth 65536 in
set_option maxHeartbeats 40000000 in
theorem own_fill18p {p : Program} {l : Launch} {e : Env} {R : Room} {s : State} {m : MethodId} {args : Array Value} {below : List Frame} {meth : Method} {c : Code} (p1 p2 p3 p4 p5 p6 fc ca cb : Int32) (s9 s10 a : Addr) (hx : p.tables.exec = Jvm.exec) (hby : c.code = code) : ∀ (j : Nat), j < 39 → ∀ (T : State) (locs : List Loc) (cells slots : Nat), Stand p l e R s m args below meth c T locs cells slots → ∀ t, Steps p.tables e below (T.setTop (mkF m (own_pc 18 j + (if j < 6 then 4 else 5)) #[.val (.int p1), .val (.int p2), .val (.int p3), .val (.int p4), .val (.int p5), .val (.int p6), .val (.int fc), .val (.int ca), .val (.int cb), .unset, .unset, .unset, .unset, .unset, .unset, .unset, .unset, .unset, .unset] [.int fc, .int (Int32.ofNat j), .ref a, .ref a])) t → Steps p.tables e below (T.setTop (mkF m (own_pc 18 j) #[.val (.int p1), .val (.int p2), .val (.int p3), .val (.int p4), .val (.int p5), .val (.int p6), .val (.int fc), .val (.int ca), .val (.int cb), .unset, .unset, .unset, .unset, .unset, .unset, .unset, .unset, .unset, .unset] [.ref a])) t
  | 0, _, T, locs, cells, slots, X, t, k => XS.dup X.here hx rfl (hb hby (show decode code (own_pc 18 0) = _ from at_18)) rfl rfl (XS.iconst X.here hx rfl (hb hby (show decode code (own_pc 18 0 + 1) = _ from at_19)) (XS.iload X.here hx rfl (hb hby (show decode code (own_pc 18 0 + 1 + 1) = _ from at_20)) rfl k))
  | 1, _, T, locs, cells, slots, X, t, k => XS.dup X.here hx rfl (hb hby (show decode code (own_pc 18 1) = _ from at_23)) rfl rfl (XS.iconst X.here hx rfl (hb hby (show decode code (own_pc 18 1 + 1) = _ from at_24)) (XS.iload X.here hx rfl (hb hby (show decode code (own_pc 18 1 + 1 + 1) = _ from at_25)) rfl k))
  | 2, _, T, locs, cells, slots, X, t, k => XS.dup X.here hx rfl (hb hby (show decode code (own_pc 18 2) = _ from at_28)) rfl rfl (XS.iconst X.here hx rfl (hb hby (show decode code (own_pc 18 2 + 1) = _ from at_29)) (XS.iload X.here hx rfl (hb hby (show decode code (own_pc 18 2 + 1 + 1) = _ from at_30)) rfl k))
  | 3, _, T, locs, cells, slots, X, t, k => XS.dup X.here hx rfl (hb hby (show decode code (own_pc 18 3) = _ from at_33)) rfl rfl (XS.iconst X.here hx rfl (hb hby (show decode code (own_pc 18 3 + 1) = _ from at_34)) (XS.iload X.here hx rfl (hb hby (show decode code (own_pc 18 3 + 1 + 1) = _ from at_35)) rfl k))
  | 4, _, T, locs, cells, slots, X, t, k => XS.dup X.here hx rfl (hb hby (show decode code (own_pc 18 4) = _ from at_38)) rfl rfl (XS.iconst X.here hx rfl (hb hby (show decode code (own_pc 18 4 + 1) = _ from at_39)) (XS.iload X.here hx rfl (hb hby (show decode code (own_pc 18 4 + 1 + 1) = _ from at_40)) rfl k))
  | 5, _, T, locs, cells, slots, X, t, k => XS.dup X.here hx rfl (hb hby (show decode code (own_pc 18 5) = _ from at_43)) rfl rfl (XS.iconst X.here hx rfl (hb hby (show decode code (own_pc 18 5 + 1) = _ from at_44)) (XS.iload X.here hx rfl (hb hby (show decode code (own_pc 18 5 + 1 + 1) = _ from at_45)) rfl k))
  | 6, _, T, locs, cells, slots, X, t, k => XS.dup X.here hx rfl (hb hby (show decode code (own_pc 18 6) = _ from at_48)) rfl rfl (XS.bipush X.here hx rfl (hb hby (show decode code (own_pc 18 6 + 1) = _ from at_49)) (XS.iload X.here hx rfl (hb hby (show decode code (own_pc 18 6 + 1 + 2) = _ from at_51)) rfl k))
  | 7, _, T, locs, cells, slots, X, t, k => XS.dup X.here hx rfl (hb hby (show decode code (own_pc 18 7) = _ from at_54)) rfl rfl (XS.bipush X.here hx rfl (hb hby (show decode code (own_pc 18 7 + 1) = _ from at_55)) (XS.iload X.here hx rfl (hb hby (show decode code (own_pc 18 7 + 1 + 2) = _ from at_57)) rfl k))
  | 8, _, T, locs, cells, slots, X, t, k => XS.dup X.here hx rfl (hb hby (show decode code (own_pc 18 8) = _ from at_60)) rfl rfl (XS.bipush X.here hx rfl (hb hby (show decode code (own_pc 18 8 + 1) = _ from at_61)) (XS.iload X.here hx rfl (hb hby (show decode code (own_pc 18 8 + 1 + 2) = _ from at_63)) rfl k))
  | 9, _, T, locs, cells, slots, X, t, k => XS.dup X.here hx rfl (hb hby (show decode code (own_pc 18 9) = _ from at_66)) rfl rfl (XS.bipush X.here hx rfl (hb hby (show decode code (own_pc 18 9 + 1) = _ from at_67)) (XS.iload X.here hx rfl (hb hby (show decode code (own_pc 18 9 + 1 + 2) = _ from at_69)) rfl k))
  | 10, _, T, locs, cells, slots, X, t, k => XS.dup X.here hx rfl (hb hby (show decode code (own_pc 18 10) = _ from at_72)) rfl rfl (XS.bipush X.here hx rfl (hb hby (show decode code (own_pc 18 10 + 1) = _ from at_73)) (XS.iload X.here hx rfl (hb hby (show decode code (own_pc 18 10 + 1 + 2) = _ from at_75)) rfl k))
  | 11, _, T, locs, cells, slots, X, t, k => XS.dup X.here hx rfl (hb hby (show decode code (own_pc 18 11) = _ from at_78)) rfl rfl (XS.bipush X.here hx rfl (hb hby (show decode code (own_pc 18 11 + 1) = _ from at_79)) (XS.iload X.here hx rfl (hb hby (show decode code (own_pc 18 11 + 1 + 2) = _ from at_81)) rfl k))
  | 12, _, T, locs, cells, slots, X, t, k => XS.dup X.here hx rfl (hb hby (show decode code (own_pc 18 12) = _ from at_84)) rfl rfl (XS.bipush X.here hx rfl (hb hby (show decode code (own_pc 18 12 + 1) = _ from at_85)) (XS.iload X.here hx rfl (hb hby (show decode code (own_pc 18 12 + 1 + 2) = _ from at_87)) rfl k))
  | 13, _, T, locs, cells, slots, X, t, k => XS.dup X.here hx rfl (hb hby (show decode code (own_pc 18 13) = _ from at_90)) rfl rfl (XS.bipush X.here hx rfl (hb hby (show decode code (own_pc 18 13 + 1) = _ from at_91)) (XS.iload X.here hx rfl (hb hby (show decode code (own_pc 18 13 + 1 + 2) = _ from at_93)) rfl k))
  | 14, _, T, locs, cells, slots, X, t, k => XS.dup X.here hx rfl (hb hby (show decode code (own_pc 18 14) = _ from at_96)) rfl rfl (XS.bipush X.here hx rfl (hb hby (show decode code (own_pc 18 14 + 1) = _ from at_97)) (XS.iload X.here hx rfl (hb hby (show decode code (own_pc 18 14 + 1 + 2) = _ from at_99)) rfl k))
  | 15, _, T, locs, cells, slots, X, t, k => XS.dup X.here hx rfl (hb hby (show decode code (own_pc 18 15) = _ from at_102)) rfl rfl (XS.bipush X.here hx rfl (hb hby (show decode code (own_pc 18 15 + 1) = _ from at_103)) (XS.iload X.here hx rfl (hb hby (show decode code (own_pc 18 15 + 1 + 2) = _ from at_105)) rfl k))
  | 16, _, T, locs, cells, slots, X, t, k => XS.dup X.here hx rfl (hb hby (show decode code (own_pc 18 16) = _ from at_108)) rfl rfl (XS.bipush X.here hx rfl (hb hby (show decode code (own_pc 18 16 + 1) = _ from at_109)) (XS.iload X.here hx rfl (hb hby (show decode code (own_pc 18 16 + 1 + 2) = _ from at_111)) rfl k))
  | 17, _, T, locs, cells, slots, X, t, k => XS.dup X.here hx rfl (hb hby (show decode code (own_pc 18 17) = _ from at_114)) rfl rfl (XS.bipush X.here hx rfl (hb hby (show decode code (own_pc 18 17 + 1) = _ from at_115)) (XS.iload X.here hx rfl (hb hby (show decode code (own_pc 18 17 + 1 + 2) = _ from at_117)) rfl k))
  | 18, _, T, locs, cells, slots, X, t, k => XS.dup X.here hx rfl (hb hby (show decode code (own_pc 18 18) = _ from at_120)) rfl rfl (XS.bipush X.here hx rfl (hb hby (show decode code (own_pc 18 18 + 1) = _ from at_121)) (XS.iload X.here hx rfl (hb hby (show decode code (own_pc 18 18 + 1 + 2) = _ from at_123)) rfl k))
  | 19, _, T, locs, cells, slots, X, t, k => XS.dup X.here hx rfl (hb hby (show decode code (own_pc 18 19) = _ from at_126)) rfl rfl (XS.bipush X.here hx rfl (hb hby (show decode code (own_pc 18 19 + 1) = _ from at_127)) (XS.iload X.here hx rfl (hb hby (show decode code (own_pc 18 19 + 1 + 2) = _ from at_129)) rfl k))
  | 20, _, T, locs, cells, slots, X, t, k => XS.dup X.here hx rfl (hb hby (show decode code (own_pc 18 20) = _ from at_132)) rfl rfl (XS.bipush X.here hx rfl (hb hby (show decode code (own_pc 18 20 + 1) = _ from at_133)) (XS.iload X.here hx rfl (hb hby (show decode code (own_pc 18 20 + 1 + 2) = _ from at_135)) rfl k))
  | 21, _, T, locs, cells, slots, X, t, k => XS.dup X.here hx rfl (hb hby (show decode code (own_pc 18 21) = _ from at_138)) rfl rfl (XS.bipush X.here hx rfl (hb hby (show decode code (own_pc 18 21 + 1) = _ from at_139)) (XS.iload X.here hx rfl (hb hby (show decode code (own_pc 18 21 + 1 + 2) = _ from at_141)) rfl k))
  | 22, _, T, locs, cells, slots, X, t, k => XS.dup X.here hx rfl (hb hby (show decode code (own_pc 18 22) = _ from at_144)) rfl rfl (XS.bipush X.here hx rfl (hb hby (show decode code (own_pc 18 22 + 1) = _ from at_145)) (XS.iload X.here hx rfl (hb hby (show decode code (own_pc 18 22 + 1 + 2) = _ from at_147)) rfl k))
  | 23, _, T, locs, cells, slots, X, t, k => XS.dup X.here hx rfl (hb hby (show decode code (own_pc 18 23) = _ from at_150)) rfl rfl (XS.bipush X.here hx rfl (hb hby (show decode code (own_pc 18 23 + 1) = _ from at_151)) (XS.iload X.here hx rfl (hb hby (show decode code (own_pc 18 23 + 1 + 2) = _ from at_153)) rfl k))
  | 24, _, T, locs, cells, slots, X, t, k => XS.dup X.here hx rfl (hb hby (show decode code (own_pc 18 24) = _ from at_156)) rfl rfl (XS.bipush X.here hx rfl (hb hby (show decode code (own_pc 18 24 + 1) = _ from at_157)) (XS.iload X.here hx rfl (hb hby (show decode code (own_pc 18 24 + 1 + 2) = _ from at_159)) rfl k))
  | 25, _, T, locs, cells, slots, X, t, k => XS.dup X.here hx rfl (hb hby (show decode code (own_pc 18 25) = _ from at_162)) rfl rfl (XS.bipush X.here hx rfl (hb hby (show decode code (own_pc 18 25 + 1) = _ from at_163)) (XS.iload X.here hx rfl (hb hby (show decode code (own_pc 18 25 + 1 + 2) = _ from at_165)) rfl k))
  | 26, _, T, locs, cells, slots, X, t, k => XS.dup X.here hx rfl (hb hby (show decode code (own_pc 18 26) = _ from at_168)) rfl rfl (XS.bipush X.here hx rfl (hb hby (show decode code (own_pc 18 26 + 1) = _ from at_169)) (XS.iload X.here hx rfl (hb hby (show decode code (own_pc 18 26 + 1 + 2) = _ from at_171)) rfl k))
  | 27, _, T, locs, cells, slots, X, t, k => XS.dup X.here hx rfl (hb hby (show decode code (own_pc 18 27) = _ from at_174)) rfl rfl (XS.bipush X.here hx rfl (hb hby (show decode code (own_pc 18 27 + 1) = _ from at_175)) (XS.iload X.here hx rfl (hb hby (show decode code (own_pc 18 27 + 1 + 2) = _ from at_177)) rfl k))
  | 28, _, T, locs, cells, slots, X, t, k => XS.dup X.here hx rfl (hb hby (show decode code (own_pc 18 28) = _ from at_180)) rfl rfl (XS.bipush X.here hx rfl (hb hby (show decode code (own_pc 18 28 + 1) = _ from at_181)) (XS.iload X.here hx rfl (hb hby (show decode code (own_pc 18 28 + 1 + 2) = _ from at_183)) rfl k))
  | 29, _, T, locs, cells, slots, X, t, k => XS.dup X.here hx rfl (hb hby (show decode code (own_pc 18 29) = _ from at_186)) rfl rfl (XS.bipush X.here hx rfl (hb hby (show decode code (own_pc 18 29 + 1) = _ from at_187)) (XS.iload X.here hx rfl (hb hby (show decode code (own_pc 18 29 + 1 + 2) = _ from at_189)) rfl k))
  | 30, _, T, locs, cells, slots, X, t, k => XS.dup X.here hx rfl (hb hby (show decode code (own_pc 18 30) = _ from at_192)) rfl rfl (XS.bipush X.here hx rfl (hb hby (show decode code (own_pc 18 30 + 1) = _ from at_193)) (XS.iload X.here hx rfl (hb hby (show decode code (own_pc 18 30 + 1 + 2) = _ from at_195)) rfl k))
  | 31, _, T, locs, cells, slots, X, t, k => XS.dup X.here hx rfl (hb hby (show decode code (own_pc 18 31) = _ from at_198)) rfl rfl (XS.bipush X.here hx rfl (hb hby (show decode code (own_pc 18 31 + 1) = _ from at_199)) (XS.iload X.here hx rfl (hb hby (show decode code (own_pc 18 31 + 1 + 2) = _ from at_201)) rfl k))
  | 32, _, T, locs, cells, slots, X, t, k => XS.dup X.here hx rfl (hb hby (show decode code (own_pc 18 32) = _ from at_204)) rfl rfl (XS.bipush X.here hx rfl (hb hby (show decode code (own_pc 18 32 + 1) = _ from at_205)) (XS.iload X.here hx rfl (hb hby (show decode code (own_pc 18 32 + 1 + 2) = _ from at_207)) rfl k))
  | 33, _, T, locs, cells, slots, X, t, k => XS.dup X.here hx rfl (hb hby (show decode code (own_pc 18 33) = _ from at_210)) rfl rfl (XS.bipush X.here hx rfl (hb hby (show decode code (own_pc 18 33 + 1) = _ from at_211)) (XS.iload X.here hx rfl (hb hby (show decode code (own_pc 18 33 + 1 + 2) = _ from at_213)) rfl k))
  | 34, _, T, locs, cells, slots, X, t, k => XS.dup X.here hx rfl (hb hby (show decode code (own_pc 18 34) = _ from at_216)) rfl rfl (XS.bipush X.here hx rfl (hb hby (show decode code (own_pc 18 34 + 1) = _ from at_217)) (XS.iload X.here hx rfl (hb hby (show decode code (own_pc 18 34 + 1 + 2) = _ from at_219)) rfl k))
  | 35, _, T, locs, cells, slots, X, t, k => XS.dup X.here hx rfl (hb hby (show decode code (own_pc 18 35) = _ from at_222)) rfl rfl (XS.bipush X.here hx rfl (hb hby (show decode code (own_pc 18 35 + 1) = _ from at_223)) (XS.iload X.here hx rfl (hb hby (show decode code (own_pc 18 35 + 1 + 2) = _ from at_225)) rfl k))
  | 36, _, T, locs, cells, slots, X, t, k => XS.dup X.here hx rfl (hb hby (show decode code (own_pc 18 36) = _ from at_228)) rfl rfl (XS.bipush X.here hx rfl (hb hby (show decode code (own_pc 18 36 + 1) = _ from at_229)) (XS.iload X.here hx rfl (hb hby (show decode code (own_pc 18 36 + 1 + 2) = _ from at_231)) rfl k))
  | 37, _, T, locs, cells, slots, X, t, k => XS.dup X.here hx rfl (hb hby (show decode code (own_pc 18 37) = _ from at_234)) rfl rfl (XS.bipush X.here hx rfl (hb hby (show decode code (own_pc 18 37 + 1) = _ from at_235)) (XS.iload X.here hx rfl (hb hby (show decode code (own_pc 18 37 + 1 + 2) = _ from at_237)) rfl k))
  | 38, _, T, locs, cells, slots, X, t, k => XS.dup X.here hx rfl (hb hby (show decode code (own_pc 18 38) = _ from at_240)) rfl rfl (XS.bipush X.here hx rfl (hb hby (show decode code (own_pc 18 38 + 1) = _ from at_241)) (XS.iload X.here hx rfl (hb hby (show decode code (own_pc 18 38 + 1 + 2) = _ from at_243)) rfl k))
  | j + 39, h, _, _, _, _, _, _, _ => absurd h (by omega)
set_option maxRecDepth 65536 in
theorem own_fill18c {c : Code} (hby : c.code = code) : ∀ (j : Nat), j < 39 → decode c.code (own_pc 18 j + (if j < 6 then 4 else 5)) = .ok (.castore, 1)
  | 0, _ => hb hby (show decode code (own_pc 18 0 + (if 0 < 6 then 4 else 5)) = _ from at_22)
  | 1, _ => hb hby (show decode code (own_pc 18 1 + (if 1 < 6 then 4 else 5)) = _ from at_27)
  | 2, _ => hb hby (show decode code (own_pc 18 2 + (if 2 < 6 then 4 else 5)) = _ from at_32)
  | 3, _ => hb hby (show decode code (own_pc 18 3 + (if 3 < 6 then 4 else 5)) = _ from at_37)
  | 4, _ => hb hby (show decode code (own_pc 18 4 + (if 4 < 6 then 4 else 5)) = _ from at_42)
  | 5, _ => hb hby (show decode code (own_pc 18 5 + (if 5 < 6 then 4 else 5)) = _ from at_47)
  | 6, _ => hb hby (show decode code (own_pc 18 6 + (if 6 < 6 then 4 else 5)) = _ from at_53)
  | 7, _ => hb hby (show decode code (own_pc 18 7 + (if 7 < 6 then 4 else 5)) = _ from at_59)
  | 8, _ => hb hby (show decode code (own_pc 18 8 + (if 8 < 6 then 4 else 5)) = _ from at_65)
  | 9, _ => hb hby (show decode code (own_pc 18 9 + (if 9 < 6 then 4 else 5)) = _ from at_71)
  | 10, _ => hb hby (show decode code (own_pc 18 10 + (if 10 < 6 then 4 else 5)) = _ from at_77)
  | 11, _ => hb hby (show decode code (own_pc 18 11 + (if 11 < 6 then 4 else 5)) = _ from at_83)
  | 12, _ => hb hby (show decode code (own_pc 18 12 + (if 12 < 6 then 4 else 5)) = _ from at_89)
  | 13, _ => hb hby (show decode code (own_pc 18 13 + (if 13 < 6 then 4 else 5)) = _ from at_95)
  | 14, _ => hb hby (show decode code (own_pc 18 14 + (if 14 < 6 then 4 else 5)) = _ from at_101)
  | 15, _ => hb hby (show decode code (own_pc 18 15 + (if 15 < 6 then 4 else 5)) = _ from at_107)
  | 16, _ => hb hby (show decode code (own_pc 18 16 + (if 16 < 6 then 4 else 5)) = _ from at_113)
  | 17, _ => hb hby (show decode code (own_pc 18 17 + (if 17 < 6 then 4 else 5)) = _ from at_119)
  | 18, _ => hb hby (show decode code (own_pc 18 18 + (if 18 < 6 then 4 else 5)) = _ from at_125)
  | 19, _ => hb hby (show decode code (own_pc 18 19 + (if 19 < 6 then 4 else 5)) = _ from at_131)
  | 20, _ => hb hby (show decode code (own_pc 18 20 + (if 20 < 6 then 4 else 5)) = _ from at_137)
  | 21, _ => hb hby (show decode code (own_pc 18 21 + (if 21 < 6 then 4 else 5)) = _ from at_143)
  | 22, _ => hb hby (show decode code (own_pc 18 22 + (if 22 < 6 then 4 else 5)) = _ from at_149)
  | 23, _ => hb hby (show decode code (own_pc 18 23 + (if 23 < 6 then 4 else 5)) = _ from at_155)
  | 24, _ => hb hby (show decode code (own_pc 18 24 + (if 24 < 6 then 4 else 5)) = _ from at_161)
  | 25, _ => hb hby (show decode code (own_pc 18 25 + (if 25 < 6 then 4 else 5)) = _ from at_167)
  | 26, _ => hb hby (show decode code (own_pc 18 26 + (if 26 < 6 then 4 else 5)) = _ from at_173)
  | 27, _ => hb hby (show decode code (own_pc 18 27 + (if 27 < 6 then 4 else 5)) = _ from at_179)
  | 28, _ => hb hby (show decode code (own_pc 18 28 + (if 28 < 6 then 4 else 5)) = _ from at_185)
  | 29, _ => hb hby (show decode code (own_pc 18 29 + (if 29 < 6 then 4 else 5)) = _ from at_191)
  | 30, _ => hb hby (show decode code (own_pc 18 30 + (if 30 < 6 then 4 else 5)) = _ from at_197)
  | 31, _ => hb hby (show decode code (own_pc 18 31 + (if 31 < 6 then 4 else 5)) = _ from at_203)
  | 32, _ => hb hby (show decode code (own_pc 18 32 + (if 32 < 6 then 4 else 5)) = _ from at_209)
  | 33, _ => hb hby (show decode code (own_pc 18 33 + (if 33 < 6 then 4 else 5)) = _ from at_215)
  | 34, _ => hb hby (show decode code (own_pc 18 34 + (if 34 < 6 then 4 else 5)) = _ from at_221)
  | 35, _ => hb hby (show decode code (own_pc 18 35 + (if 35 < 6 then 4 else 5)) = _ from at_227)
  | 36, _ => hb hby (show decode code (own_pc 18 36 + (if 36 < 6 then 4 else 5)) = _ from at_233)
  | 37, _ => hb hby (show decode code (own_pc 18 37 + (if 37 < 6 then 4 else 5)) = _ from at_239)
  | 38, _ => hb hby (show decode code (own_pc 18 38 + (if 38 < 6 then 4 else 5)) = _ from at_245)
  | j + 39, h => absurd h (by omega)
set_option maxRecDepth 65536 in
set_option maxHeartbeats 40000000 in
theorem own_fill18 {p : Program} {l : Launch} {e : Env} {R : Room} {s : State} {m : MethodId} {args : Array Value} {below : List Frame} {meth : Method} {c : Code} (p1 p2 p3 p4 p5 p6 fc ca cb : Int32) (s9 s10 a : Addr) {cells slots n0 : Nat} {Z : State} (hx : p.tables.exec = Jvm.exec) (hby : c.code = code) (hZ : Z.Warmed39 s.vm) (g_a : n0 ≤ a) : ∀ (k j : Nat), j + k = 39 → ∀ (T : State) (locs : List Loc) (h : Heap), Stand p l e R s m args below meth c T locs cells slots → T.heap = h → Fr n0 locs → n0 ≤ h.size → Afn Z h a .char (39 : Int32) (own_pre (Int32.ofNat j) (nar .char fc)) → ∃ (T' : State) (locs' : List Loc) (h' : Heap), Stand p l e R s m args below meth c T' locs' cells slots ∧ T'.heap = h' ∧ Fr n0 locs' ∧ n0 ≤ h'.size ∧ Keep h h' [a] ∧ Afn Z h' a .char (39 : Int32) (own_pre (Int32.ofNat 39) (nar .char fc)) ∧ ∀ t, Steps p.tables e below (T'.setTop (mkF m (own_pc 18 39) #[.val (.int p1), .val (.int p2), .val (.int p3), .val (.int p4), .val (.int p5), .val (.int p6), .val (.int fc), .val (.int ca), .val (.int cb), .unset, .unset, .unset, .unset, .unset, .unset, .unset, .unset, .unset, .unset] [.ref a])) t → Steps p.tables e below (T.setTop (mkF m (own_pc 18 j) #[.val (.int p1), .val (.int p2), .val (.int p3), .val (.int p4), .val (.int p5), .val (.int p6), .val (.int fc), .val (.int ca), .val (.int cb), .unset, .unset, .unset, .unset, .unset, .unset, .unset, .unset, .unset, .unset] [.ref a])) t
  | 0, j, hj, T, locs, h, X, eT, N, Zh, Y => by
    obtain rfl : j = 39 := by omega
    exact ⟨T, locs, h, X, eT, N, Zh, Keep.refl h [a], Y, fun t k => k⟩
  | k + 1, j, hj, T, locs, h, X, eT, N, Zh, Y => by
    have hjn : j < 39 := by omega
    obtain ⟨cl, Ar, SA, NA, HA⟩ := id Y
    have hjt : (Int32.ofNat j).toInt = (j : Int) := Int32.toInt_ofNat_small (by omega)
    have hj1 : (Int32.ofNat (j + 1)).toInt = ((j + 1 : Nat) : Int) := Int32.toInt_ofNat_small (by omega)
    have hn : ((39 : Int32)).toInt = 39 := by decide +kernel
    have h0 : ¬ Int32.ofNat j < 0 := by rw [Int32.lt_iff_toInt_lt, hjt, own_e0]; omega
    have hlt : Int32.ofNat j < (39 : Int32) := by rw [Int32.lt_iff_toInt_lt, hjt, hn]; omega
    have hin := inb_of SA ⟨h0, hlt⟩
    obtain ⟨T1, h1, X1, e1, W1, st1⟩ := stC X hx hZ eT Ar (j := Int32.ofNat j) hin (g := mkF m (own_pc 18 j + (if j < 6 then 4 else 5)) #[.val (.int p1), .val (.int p2), .val (.int p3), .val (.int p4), .val (.int p5), .val (.int p6), .val (.int fc), .val (.int ca), .val (.int cb), .unset, .unset, .unset, .unset, .unset, .unset, .unset, .unset, .unset, .unset] [.int fc, .int (Int32.ofNat j), .ref a, .ref a]) rfl rfl (own_fill18c hby j hjn)
    have Y1 := Afn.put Ar SA NA HA W1 h0
    rw [own_pre_up (Int32.ofNat j) (Int32.ofNat (j + 1)) _ (by rw [hjt, hj1]; omega)] at Y1
    have N1 := Fr.snoc X1 N g_a
    obtain ⟨T', l', h', X', e', N', Z', K', Y', st'⟩ := own_fill18 p1 p2 p3 p4 p5 p6 fc ca cb s9 s10 a hx hby hZ g_a k (j + 1) (by omega) T1 _ h1 X1 e1 N1 (Nat.le_trans Zh (Keep.of_wr W1).1) Y1
    refine ⟨T', l', h', X', e', N', Z', (Keep.of_wr W1).trans K' (fun x hx => Or.inl hx), Y', fun t kt => ?_⟩
    refine own_fill18p p1 p2 p3 p4 p5 p6 fc ca cb s9 s10 a hx hby j hjn T locs cells slots X t (st1 t ?_)
    have q : own_pc 18 (j + 1) = own_pc 18 j + (if j < 6 then 4 else 5) + 1 := by unfold own_pc; split <;> omega
    have r := st' t kt
    rw [q] at r
    exact r
set_option maxRecDepth 65536 in
set_option maxHeartbeats 40000000 in
theorem own_fill252p {p : Program} {l : Launch} {e : Env} {R : Room} {s : State} {m : MethodId} {args : Array Value} {below : List Frame} {meth : Method} {c : Code} (p1 p2 p3 p4 p5 p6 fc ca cb : Int32) (s9 s10 a : Addr) (hx : p.tables.exec = Jvm.exec) (hby : c.code = code) : ∀ (j : Nat), j < 40 → ∀ (T : State) (locs : List Loc) (cells slots : Nat), Stand p l e R s m args below meth c T locs cells slots → ∀ t, Steps p.tables e below (T.setTop (mkF m (own_pc 252 j + (if j < 6 then 4 else 5)) #[.val (.int p1), .val (.int p2), .val (.int p3), .val (.int p4), .val (.int p5), .val (.int p6), .val (.int fc), .val (.int ca), .val (.int cb), .val (.ref s9), .unset, .unset, .unset, .unset, .unset, .unset, .unset, .unset, .unset] [.int fc, .int (Int32.ofNat j), .ref a, .ref a])) t → Steps p.tables e below (T.setTop (mkF m (own_pc 252 j) #[.val (.int p1), .val (.int p2), .val (.int p3), .val (.int p4), .val (.int p5), .val (.int p6), .val (.int fc), .val (.int ca), .val (.int cb), .val (.ref s9), .unset, .unset, .unset, .unset, .unset, .unset, .unset, .unset, .unset] [.ref a])) t
  | 0, _, T, locs, cells, slots, X, t, k => XS.dup X.here hx rfl (hb hby (show decode code (own_pc 252 0) = _ from at_252)) rfl rfl (XS.iconst X.here hx rfl (hb hby (show decode code (own_pc 252 0 + 1) = _ from at_253)) (XS.iload X.here hx rfl (hb hby (show decode code (own_pc 252 0 + 1 + 1) = _ from at_254)) rfl k))
  | 1, _, T, locs, cells, slots, X, t, k => XS.dup X.here hx rfl (hb hby (show decode code (own_pc 252 1) = _ from at_257)) rfl rfl (XS.iconst X.here hx rfl (hb hby (show decode code (own_pc 252 1 + 1) = _ from at_258)) (XS.iload X.here hx rfl (hb hby (show decode code (own_pc 252 1 + 1 + 1) = _ from at_259)) rfl k))
  | 2, _, T, locs, cells, slots, X, t, k => XS.dup X.here hx rfl (hb hby (show decode code (own_pc 252 2) = _ from at_262)) rfl rfl (XS.iconst X.here hx rfl (hb hby (show decode code (own_pc 252 2 + 1) = _ from at_263)) (XS.iload X.here hx rfl (hb hby (show decode code (own_pc 252 2 + 1 + 1) = _ from at_264)) rfl k))
  | 3, _, T, locs, cells, slots, X, t, k => XS.dup X.here hx rfl (hb hby (show decode code (own_pc 252 3) = _ from at_267)) rfl rfl (XS.iconst X.here hx rfl (hb hby (show decode code (own_pc 252 3 + 1) = _ from at_268)) (XS.iload X.here hx rfl (hb hby (show decode code (own_pc 252 3 + 1 + 1) = _ from at_269)) rfl k))
  | 4, _, T, locs, cells, slots, X, t, k => XS.dup X.here hx rfl (hb hby (show decode code (own_pc 252 4) = _ from at_272)) rfl rfl (XS.iconst X.here hx rfl (hb hby (show decode code (own_pc 252 4 + 1) = _ from at_273)) (XS.iload X.here hx rfl (hb hby (show decode code (own_pc 252 4 + 1 + 1) = _ from at_274)) rfl k))
  | 5, _, T, locs, cells, slots, X, t, k => XS.dup X.here hx rfl (hb hby (show decode code (own_pc 252 5) = _ from at_277)) rfl rfl (XS.iconst X.here hx rfl (hb hby (show decode code (own_pc 252 5 + 1) = _ from at_278)) (XS.iload X.here hx rfl (hb hby (show decode code (own_pc 252 5 + 1 + 1) = _ from at_279)) rfl k))
  | 6, _, T, locs, cells, slots, X, t, k => XS.dup X.here hx rfl (hb hby (show decode code (own_pc 252 6) = _ from at_282)) rfl rfl (XS.bipush X.here hx rfl (hb hby (show decode code (own_pc 252 6 + 1) = _ from at_283)) (XS.iload X.here hx rfl (hb hby (show decode code (own_pc 252 6 + 1 + 2) = _ from at_285)) rfl k))
  | 7, _, T, locs, cells, slots, X, t, k => XS.dup X.here hx rfl (hb hby (show decode code (own_pc 252 7) = _ from at_288)) rfl rfl (XS.bipush X.here hx rfl (hb hby (show decode code (own_pc 252 7 + 1) = _ from at_289)) (XS.iload X.here hx rfl (hb hby (show decode code (own_pc 252 7 + 1 + 2) = _ from at_291)) rfl k))
  | 8, _, T, locs, cells, slots, X, t, k => XS.dup X.here hx rfl (hb hby (show decode code (own_pc 252 8) = _ from at_294)) rfl rfl (XS.bipush X.here hx rfl (hb hby (show decode code (own_pc 252 8 + 1) = _ from at_295)) (XS.iload X.here hx rfl (hb hby (show decode code (own_pc 252 8 + 1 + 2) = _ from at_297)) rfl k))
  | 9, _, T, locs, cells, slots, X, t, k => XS.dup X.here hx rfl (hb hby (show decode code (own_pc 252 9) = _ from at_300)) rfl rfl (XS.bipush X.here hx rfl (hb hby (show decode code (own_pc 252 9 + 1) = _ from at_301)) (XS.iload X.here hx rfl (hb hby (show decode code (own_pc 252 9 + 1 + 2) = _ from at_303)) rfl k))
  | 10, _, T, locs, cells, slots, X, t, k => XS.dup X.here hx rfl (hb hby (show decode code (own_pc 252 10) = _ from at_306)) rfl rfl (XS.bipush X.here hx rfl (hb hby (show decode code (own_pc 252 10 + 1) = _ from at_307)) (XS.iload X.here hx rfl (hb hby (show decode code (own_pc 252 10 + 1 + 2) = _ from at_309)) rfl k))
  | 11, _, T, locs, cells, slots, X, t, k => XS.dup X.here hx rfl (hb hby (show decode code (own_pc 252 11) = _ from at_312)) rfl rfl (XS.bipush X.here hx rfl (hb hby (show decode code (own_pc 252 11 + 1) = _ from at_313)) (XS.iload X.here hx rfl (hb hby (show decode code (own_pc 252 11 + 1 + 2) = _ from at_315)) rfl k))
  | 12, _, T, locs, cells, slots, X, t, k => XS.dup X.here hx rfl (hb hby (show decode code (own_pc 252 12) = _ from at_318)) rfl rfl (XS.bipush X.here hx rfl (hb hby (show decode code (own_pc 252 12 + 1) = _ from at_319)) (XS.iload X.here hx rfl (hb hby (show decode code (own_pc 252 12 + 1 + 2) = _ from at_321)) rfl k))
  | 13, _, T, locs, cells, slots, X, t, k => XS.dup X.here hx rfl (hb hby (show decode code (own_pc 252 13) = _ from at_324)) rfl rfl (XS.bipush X.here hx rfl (hb hby (show decode code (own_pc 252 13 + 1) = _ from at_325)) (XS.iload X.here hx rfl (hb hby (show decode code (own_pc 252 13 + 1 + 2) = _ from at_327)) rfl k))
  | 14, _, T, locs, cells, slots, X, t, k => XS.dup X.here hx rfl (hb hby (show decode code (own_pc 252 14) = _ from at_330)) rfl rfl (XS.bipush X.here hx rfl (hb hby (show decode code (own_pc 252 14 + 1) = _ from at_331)) (XS.iload X.here hx rfl (hb hby (show decode code (own_pc 252 14 + 1 + 2) = _ from at_333)) rfl k))
  | 15, _, T, locs, cells, slots, X, t, k => XS.dup X.here hx rfl (hb hby (show decode code (own_pc 252 15) = _ from at_336)) rfl rfl (XS.bipush X.here hx rfl (hb hby (show decode code (own_pc 252 15 + 1) = _ from at_337)) (XS.iload X.here hx rfl (hb hby (show decode code (own_pc 252 15 + 1 + 2) = _ from at_339)) rfl k))
  | 16, _, T, locs, cells, slots, X, t, k => XS.dup X.here hx rfl (hb hby (show decode code (own_pc 252 16) = _ from at_342)) rfl rfl (XS.bipush X.here hx rfl (hb hby (show decode code (own_pc 252 16 + 1) = _ from at_343)) (XS.iload X.here hx rfl (hb hby (show decode code (own_pc 252 16 + 1 + 2) = _ from at_345)) rfl k))
  | 17, _, T, locs, cells, slots, X, t, k => XS.dup X.here hx rfl (hb hby (show decode code (own_pc 252 17) = _ from at_348)) rfl rfl (XS.bipush X.here hx rfl (hb hby (show decode code (own_pc 252 17 + 1) = _ from at_349)) (XS.iload X.here hx rfl (hb hby (show decode code (own_pc 252 17 + 1 + 2) = _ from at_351)) rfl k))
  | 18, _, T, locs, cells, slots, X, t, k => XS.dup X.here hx rfl (hb hby (show decode code (own_pc 252 18) = _ from at_354)) rfl rfl (XS.bipush X.here hx rfl (hb hby (show decode code (own_pc 252 18 + 1) = _ from at_355)) (XS.iload X.here hx rfl (hb hby (show decode code (own_pc 252 18 + 1 + 2) = _ from at_357)) rfl k))
  | 19, _, T, locs, cells, slots, X, t, k => XS.dup X.here hx rfl (hb hby (show decode code (own_pc 252 19) = _ from at_360)) rfl rfl (XS.bipush X.here hx rfl (hb hby (show decode code (own_pc 252 19 + 1) = _ from at_361)) (XS.iload X.here hx rfl (hb hby (show decode code (own_pc 252 19 + 1 + 2) = _ from at_363)) rfl k))
  | 20, _, T, locs, cells, slots, X, t, k => XS.dup X.here hx rfl (hb hby (show decode code (own_pc 252 20) = _ from at_366)) rfl rfl (XS.bipush X.here hx rfl (hb hby (show decode code (own_pc 252 20 + 1) = _ from at_367)) (XS.iload X.here hx rfl (hb hby (show decode code (own_pc 252 20 + 1 + 2) = _ from at_369)) rfl k))
  | 21, _, T, locs, cells, slots, X, t, k => XS.dup X.here hx rfl (hb hby (show decode code (own_pc 252 21) = _ from at_372)) rfl rfl (XS.bipush X.here hx rfl (hb hby (show decode code (own_pc 252 21 + 1) = _ from at_373)) (XS.iload X.here hx rfl (hb hby (show decode code (own_pc 252 21 + 1 + 2) = _ from at_375)) rfl k))
  | 22, _, T, locs, cells, slots, X, t, k => XS.dup X.here hx rfl (hb hby (show decode code (own_pc 252 22) = _ from at_378)) rfl rfl (XS.bipush X.here hx rfl (hb hby (show decode code (own_pc 252 22 + 1) = _ from at_379)) (XS.iload X.here hx rfl (hb hby (show decode code (own_pc 252 22 + 1 + 2) = _ from at_381)) rfl k))
  | 23, _, T, locs, cells, slots, X, t, k => XS.dup X.here hx rfl (hb hby (show decode code (own_pc 252 23) = _ from at_384)) rfl rfl (XS.bipush X.here hx rfl (hb hby (show decode code (own_pc 252 23 + 1) = _ from at_385)) (XS.iload X.here hx rfl (hb hby (show decode code (own_pc 252 23 + 1 + 2) = _ from at_387)) rfl k))
  | 24, _, T, locs, cells, slots, X, t, k => XS.dup X.here hx rfl (hb hby (show decode code (own_pc 252 24) = _ from at_390)) rfl rfl (XS.bipush X.here hx rfl (hb hby (show decode code (own_pc 252 24 + 1) = _ from at_391)) (XS.iload X.here hx rfl (hb hby (show decode code (own_pc 252 24 + 1 + 2) = _ from at_393)) rfl k))
  | 25, _, T, locs, cells, slots, X, t, k => XS.dup X.here hx rfl (hb hby (show decode code (own_pc 252 25) = _ from at_396)) rfl rfl (XS.bipush X.here hx rfl (hb hby (show decode code (own_pc 252 25 + 1) = _ from at_397)) (XS.iload X.here hx rfl (hb hby (show decode code (own_pc 252 25 + 1 + 2) = _ from at_399)) rfl k))
  | 26, _, T, locs, cells, slots, X, t, k => XS.dup X.here hx rfl (hb hby (show decode code (own_pc 252 26) = _ from at_402)) rfl rfl (XS.bipush X.here hx rfl (hb hby (show decode code (own_pc 252 26 + 1) = _ from at_403)) (XS.iload X.here hx rfl (hb hby (show decode code (own_pc 252 26 + 1 + 2) = _ from at_405)) rfl k))
  | 27, _, T, locs, cells, slots, X, t, k => XS.dup X.here hx rfl (hb hby (show decode code (own_pc 252 27) = _ from at_408)) rfl rfl (XS.bipush X.here hx rfl (hb hby (show decode code (own_pc 252 27 + 1) = _ from at_409)) (XS.iload X.here hx rfl (hb hby (show decode code (own_pc 252 27 + 1 + 2) = _ from at_411)) rfl k))
  | 28, _, T, locs, cells, slots, X, t, k => XS.dup X.here hx rfl (hb hby (show decode code (own_pc 252 28) = _ from at_414)) rfl rfl (XS.bipush X.here hx rfl (hb hby (show decode code (own_pc 252 28 + 1) = _ from at_415)) (XS.iload X.here hx rfl (hb hby (show decode code (own_pc 252 28 + 1 + 2) = _ from at_417)) rfl k))
  | 29, _, T, locs, cells, slots, X, t, k => XS.dup X.here hx rfl (hb hby (show decode code (own_pc 252 29) = _ from at_420)) rfl rfl (XS.bipush X.here hx rfl (hb hby (show decode code (own_pc 252 29 + 1) = _ from at_421)) (XS.iload X.here hx rfl (hb hby (show decode code (own_pc 252 29 + 1 + 2) = _ from at_423)) rfl k))
  | 30, _, T, locs, cells, slots, X, t, k => XS.dup X.here hx rfl (hb hby (show decode code (own_pc 252 30) = _ from at_426)) rfl rfl (XS.bipush X.here hx rfl (hb hby (show decode code (own_pc 252 30 + 1) = _ from at_427)) (XS.iload X.here hx rfl (hb hby (show decode code (own_pc 252 30 + 1 + 2) = _ from at_429)) rfl k))
  | 31, _, T, locs, cells, slots, X, t, k => XS.dup X.here hx rfl (hb hby (show decode code (own_pc 252 31) = _ from at_432)) rfl rfl (XS.bipush X.here hx rfl (hb hby (show decode code (own_pc 252 31 + 1) = _ from at_433)) (XS.iload X.here hx rfl (hb hby (show decode code (own_pc 252 31 + 1 + 2) = _ from at_435)) rfl k))
  | 32, _, T, locs, cells, slots, X, t, k => XS.dup X.here hx rfl (hb hby (show decode code (own_pc 252 32) = _ from at_438)) rfl rfl (XS.bipush X.here hx rfl (hb hby (show decode code (own_pc 252 32 + 1) = _ from at_439)) (XS.iload X.here hx rfl (hb hby (show decode code (own_pc 252 32 + 1 + 2) = _ from at_441)) rfl k))
  | 33, _, T, locs, cells, slots, X, t, k => XS.dup X.here hx rfl (hb hby (show decode code (own_pc 252 33) = _ from at_444)) rfl rfl (XS.bipush X.here hx rfl (hb hby (show decode code (own_pc 252 33 + 1) = _ from at_445)) (XS.iload X.here hx rfl (hb hby (show decode code (own_pc 252 33 + 1 + 2) = _ from at_447)) rfl k))
  | 34, _, T, locs, cells, slots, X, t, k => XS.dup X.here hx rfl (hb hby (show decode code (own_pc 252 34) = _ from at_450)) rfl rfl (XS.bipush X.here hx rfl (hb hby (show decode code (own_pc 252 34 + 1) = _ from at_451)) (XS.iload X.here hx rfl (hb hby (show decode code (own_pc 252 34 + 1 + 2) = _ from at_453)) rfl k))
  | 35, _, T, locs, cells, slots, X, t, k => XS.dup X.here hx rfl (hb hby (show decode code (own_pc 252 35) = _ from at_456)) rfl rfl (XS.bipush X.here hx rfl (hb hby (show decode code (own_pc 252 35 + 1) = _ from at_457)) (XS.iload X.here hx rfl (hb hby (show decode code (own_pc 252 35 + 1 + 2) = _ from at_459)) rfl k))
  | 36, _, T, locs, cells, slots, X, t, k => XS.dup X.here hx rfl (hb hby (show decode code (own_pc 252 36) = _ from at_462)) rfl rfl (XS.bipush X.here hx rfl (hb hby (show decode code (own_pc 252 36 + 1) = _ from at_463)) (XS.iload X.here hx rfl (hb hby (show decode code (own_pc 252 36 + 1 + 2) = _ from at_465)) rfl k))
  | 37, _, T, locs, cells, slots, X, t, k => XS.dup X.here hx rfl (hb hby (show decode code (own_pc 252 37) = _ from at_468)) rfl rfl (XS.bipush X.here hx rfl (hb hby (show decode code (own_pc 252 37 + 1) = _ from at_469)) (XS.iload X.here hx rfl (hb hby (show decode code (own_pc 252 37 + 1 + 2) = _ from at_471)) rfl k))
  | 38, _, T, locs, cells, slots, X, t, k => XS.dup X.here hx rfl (hb hby (show decode code (own_pc 252 38) = _ from at_474)) rfl rfl (XS.bipush X.here hx rfl (hb hby (show decode code (own_pc 252 38 + 1) = _ from at_475)) (XS.iload X.here hx rfl (hb hby (show decode code (own_pc 252 38 + 1 + 2) = _ from at_477)) rfl k))
  | 39, _, T, locs, cells, slots, X, t, k => XS.dup X.here hx rfl (hb hby (show decode code (own_pc 252 39) = _ from at_480)) rfl rfl (XS.bipush X.here hx rfl (hb hby (show decode code (own_pc 252 39 + 1) = _ from at_481)) (XS.iload X.here hx rfl (hb hby (show decode code (own_pc 252 39 + 1 + 2) = _ from at_483)) rfl k))
  | j + 40, h, _, _, _, _, _, _, _ => absurd h (by omega)
set_option maxRecDepth 65536 in
theorem own_fill252c {c : Code} (hby : c.code = code) : ∀ (j : Nat), j < 40 → decode c.code (own_pc 252 j + (if j < 6 then 4 else 5)) = .ok (.castore, 1)
  | 0, _ => hb hby (show decode code (own_pc 252 0 + (if 0 < 6 then 4 else 5)) = _ from at_256)
  | 1, _ => hb hby (show decode code (own_pc 252 1 + (if 1 < 6 then 4 else 5)) = _ from at_261)
  | 2, _ => hb hby (show decode code (own_pc 252 2 + (if 2 < 6 then 4 else 5)) = _ from at_266)
  | 3, _ => hb hby (show decode code (own_pc 252 3 + (if 3 < 6 then 4 else 5)) = _ from at_271)
  | 4, _ => hb hby (show decode code (own_pc 252 4 + (if 4 < 6 then 4 else 5)) = _ from at_276)
  | 5, _ => hb hby (show decode code (own_pc 252 5 + (if 5 < 6 then 4 else 5)) = _ from at_281)
  | 6, _ => hb hby (show decode code (own_pc 252 6 + (if 6 < 6 then 4 else 5)) = _ from at_287)
  | 7, _ => hb hby (show decode code (own_pc 252 7 + (if 7 < 6 then 4 else 5)) = _ from at_293)
  | 8, _ => hb hby (show decode code (own_pc 252 8 + (if 8 < 6 then 4 else 5)) = _ from at_299)
  | 9, _ => hb hby (show decode code (own_pc 252 9 + (if 9 < 6 then 4 else 5)) = _ from at_305)
  | 10, _ => hb hby (show decode code (own_pc 252 10 + (if 10 < 6 then 4 else 5)) = _ from at_311)
  | 11, _ => hb hby (show decode code (own_pc 252 11 + (if 11 < 6 then 4 else 5)) = _ from at_317)
  | 12, _ => hb hby (show decode code (own_pc 252 12 + (if 12 < 6 then 4 else 5)) = _ from at_323)
  | 13, _ => hb hby (show decode code (own_pc 252 13 + (if 13 < 6 then 4 else 5)) = _ from at_329)
  | 14, _ => hb hby (show decode code (own_pc 252 14 + (if 14 < 6 then 4 else 5)) = _ from at_335)
  | 15, _ => hb hby (show decode code (own_pc 252 15 + (if 15 < 6 then 4 else 5)) = _ from at_341)
  | 16, _ => hb hby (show decode code (own_pc 252 16 + (if 16 < 6 then 4 else 5)) = _ from at_347)
  | 17, _ => hb hby (show decode code (own_pc 252 17 + (if 17 < 6 then 4 else 5)) = _ from at_353)
  | 18, _ => hb hby (show decode code (own_pc 252 18 + (if 18 < 6 then 4 else 5)) = _ from at_359)
  | 19, _ => hb hby (show decode code (own_pc 252 19 + (if 19 < 6 then 4 else 5)) = _ from at_365)
  | 20, _ => hb hby (show decode code (own_pc 252 20 + (if 20 < 6 then 4 else 5)) = _ from at_371)
  | 21, _ => hb hby (show decode code (own_pc 252 21 + (if 21 < 6 then 4 else 5)) = _ from at_377)
  | 22, _ => hb hby (show decode code (own_pc 252 22 + (if 22 < 6 then 4 else 5)) = _ from at_383)
  | 23, _ => hb hby (show decode code (own_pc 252 23 + (if 23 < 6 then 4 else 5)) = _ from at_389)
  | 24, _ => hb hby (show decode code (own_pc 252 24 + (if 24 < 6 then 4 else 5)) = _ from at_395)
  | 25, _ => hb hby (show decode code (own_pc 252 25 + (if 25 < 6 then 4 else 5)) = _ from at_401)
  | 26, _ => hb hby (show decode code (own_pc 252 26 + (if 26 < 6 then 4 else 5)) = _ from at_407)
  | 27, _ => hb hby (show decode code (own_pc 252 27 + (if 27 < 6 then 4 else 5)) = _ from at_413)
  | 28, _ => hb hby (show decode code (own_pc 252 28 + (if 28 < 6 then 4 else 5)) = _ from at_419)
  | 29, _ => hb hby (show decode code (own_pc 252 29 + (if 29 < 6 then 4 else 5)) = _ from at_425)
  | 30, _ => hb hby (show decode code (own_pc 252 30 + (if 30 < 6 then 4 else 5)) = _ from at_431)
  | 31, _ => hb hby (show decode code (own_pc 252 31 + (if 31 < 6 then 4 else 5)) = _ from at_437)
  | 32, _ => hb hby (show decode code (own_pc 252 32 + (if 32 < 6 then 4 else 5)) = _ from at_443)
  | 33, _ => hb hby (show decode code (own_pc 252 33 + (if 33 < 6 then 4 else 5)) = _ from at_449)
  | 34, _ => hb hby (show decode code (own_pc 252 34 + (if 34 < 6 then 4 else 5)) = _ from at_455)
  | 35, _ => hb hby (show decode code (own_pc 252 35 + (if 35 < 6 then 4 else 5)) = _ from at_461)
  | 36, _ => hb hby (show decode code (own_pc 252 36 + (if 36 < 6 then 4 else 5)) = _ from at_467)
  | 37, _ => hb hby (show decode code (own_pc 252 37 + (if 37 < 6 then 4 else 5)) = _ from at_473)
  | 38, _ => hb hby (show decode code (own_pc 252 38 + (if 38 < 6 then 4 else 5)) = _ from at_479)
  | 39, _ => hb hby (show decode code (own_pc 252 39 + (if 39 < 6 then 4 else 5)) = _ from at_485)
  | j + 40, h => absurd h (by omega)
set_option maxRecDepth 65536 in
set_option maxHeartbeats 40000000 in
theorem own_fill252 {p : Program} {l : Launch} {e : Env} {R : Room} {s : State} {m : MethodId} {args : Array Value} {below : List Frame} {meth : Method} {c : Code} (p1 p2 p3 p4 p5 p6 fc ca cb : Int32) (s9 s10 a : Addr) {cells slots n0 : Nat} {Z : State} (hx : p.tables.exec = Jvm.exec) (hby : c.code = code) (hZ : Z.Warmed39 s.vm) (g_a : n0 ≤ a) : ∀ (k j : Nat), j + k = 40 → ∀ (T : State) (locs : List Loc) (h : Heap), Stand p l e R s m args below meth c T locs cells slots → T.heap = h → Fr n0 locs → n0 ≤ h.size → Afn Z h a .char (40 : Int32) (own_pre (Int32.ofNat j) (nar .char fc)) → ∃ (T' : State) (locs' : List Loc) (h' : Heap), Stand p l e R s m args below meth c T' locs' cells slots ∧ T'.heap = h' ∧ Fr n0 locs' ∧ n0 ≤ h'.size ∧ Keep h h' [a] ∧ Afn Z h' a .char (40 : Int32) (own_pre (Int32.ofNat 40) (nar .char fc)) ∧ ∀ t, Steps p.tables e below (T'.setTop (mkF m (own_pc 252 40) #[.val (.int p1), .val (.int p2), .val (.int p3), .val (.int p4), .val (.int p5), .val (.int p6), .val (.int fc), .val (.int ca), .val (.int cb), .val (.ref s9), .unset, .unset, .unset, .unset, .unset, .unset, .unset, .unset, .unset] [.ref a])) t → Steps p.tables e below (T.setTop (mkF m (own_pc 252 j) #[.val (.int p1), .val (.int p2), .val (.int p3), .val (.int p4), .val (.int p5), .val (.int p6), .val (.int fc), .val (.int ca), .val (.int cb), .val (.ref s9), .unset, .unset, .unset, .unset, .unset, .unset, .unset, .unset, .unset] [.ref a])) t
  | 0, j, hj, T, locs, h, X, eT, N, Zh, Y => by
    obtain rfl : j = 40 := by omega
    exact ⟨T, locs, h, X, eT, N, Zh, Keep.refl h [a], Y, fun t k => k⟩
  | k + 1, j, hj, T, locs, h, X, eT, N, Zh, Y => by
    have hjn : j < 40 := by omega
    obtain ⟨cl, Ar, SA, NA, HA⟩ := id Y
    have hjt : (Int32.ofNat j).toInt = (j : Int) := Int32.toInt_ofNat_small (by omega)
    have hj1 : (Int32.ofNat (j + 1)).toInt = ((j + 1 : Nat) : Int) := Int32.toInt_ofNat_small (by omega)
    have hn : ((40 : Int32)).toInt = 40 := by decide +kernel
    have h0 : ¬ Int32.ofNat j < 0 := by rw [Int32.lt_iff_toInt_lt, hjt, own_e0]; omega
    have hlt : Int32.ofNat j < (40 : Int32) := by rw [Int32.lt_iff_toInt_lt, hjt, hn]; omega
    have hin := inb_of SA ⟨h0, hlt⟩
    obtain ⟨T1, h1, X1, e1, W1, st1⟩ := stC X hx hZ eT Ar (j := Int32.ofNat j) hin (g := mkF m (own_pc 252 j + (if j < 6 then 4 else 5)) #[.val (.int p1), .val (.int p2), .val (.int p3), .val (.int p4), .val (.int p5), .val (.int p6), .val (.int fc), .val (.int ca), .val (.int cb), .val (.ref s9), .unset, .unset, .unset, .unset, .unset, .unset, .unset, .unset, .unset] [.int fc, .int (Int32.ofNat j), .ref a, .ref a]) rfl rfl (own_fill252c hby j hjn)
    have Y1 := Afn.put Ar SA NA HA W1 h0
    rw [own_pre_up (Int32.ofNat j) (Int32.ofNat (j + 1)) _ (by rw [hjt, hj1]; omega)] at Y1
    have N1 := Fr.snoc X1 N g_a
    obtain ⟨T', l', h', X', e', N', Z', K', Y', st'⟩ := own_fill252 p1 p2 p3 p4 p5 p6 fc ca cb s9 s10 a hx hby hZ g_a k (j + 1) (by omega) T1 _ h1 X1 e1 N1 (Nat.le_trans Zh (Keep.of_wr W1).1) Y1
    refine ⟨T', l', h', X', e', N', Z', (Keep.of_wr W1).trans K' (fun x hx => Or.inl hx), Y', fun t kt => ?_⟩
    refine own_fill252p p1 p2 p3 p4 p5 p6 fc ca cb s9 s10 a hx hby j hjn T locs cells slots X t (st1 t ?_)
    have q : own_pc 252 (j + 1) = own_pc 252 j + (if j < 6 then 4 else 5) + 1 := by unfold own_pc; split <;> omega
    have r := st' t kt
    rw [q] at r
    exact r
set_option maxRecDepth 65536 in
set_option maxHeartbeats 40000000 in
theorem own_fill492p {p : Program} {l : Launch} {e : Env} {R : Room} {s : State} {m : MethodId} {args : Array Value} {below : List Frame} {meth : Method} {c : Code} (p1 p2 p3 p4 p5 p6 fc ca cb : Int32) (s9 s10 a : Addr) (hx : p.tables.exec = Jvm.exec) (hby : c.code = code) : ∀ (j : Nat), j < 41 → ∀ (T : State) (locs : List Loc) (cells slots : Nat), Stand p l e R s m args below meth c T locs cells slots → ∀ t, Steps p.tables e below (T.setTop (mkF m (own_pc 492 j + (if j < 6 then 4 else 5)) #[.val (.int p1), .val (.int p2), .val (.int p3), .val (.int p4), .val (.int p5), .val (.int p6), .val (.int fc), .val (.int ca), .val (.int cb), .val (.ref s9), .val (.ref s10), .unset, .unset, .unset, .unset, .unset, .unset, .unset, .unset] [.int fc, .int (Int32.ofNat j), .ref a, .ref a])) t → Steps p.tables e below (T.setTop (mkF m (own_pc 492 j) #[.val (.int p1), .val (.int p2), .val (.int p3), .val (.int p4), .val (.int p5), .val (.int p6), .val (.int fc), .val (.int ca), .val (.int cb), .val (.ref s9), .val (.ref s10), .unset, .unset, .unset, .unset, .unset, .unset, .unset, .unset] [.ref a])) t
  | 0, _, T, locs, cells, slots, X, t, k => XS.dup X.here hx rfl (hb hby (show decode code (own_pc 492 0) = _ from at_492)) rfl rfl (XS.iconst X.here hx rfl (hb hby (show decode code (own_pc 492 0 + 1) = _ from at_493)) (XS.iload X.here hx rfl (hb hby (show decode code (own_pc 492 0 + 1 + 1) = _ from at_494)) rfl k))
  | 1, _, T, locs, cells, slots, X, t, k => XS.dup X.here hx rfl (hb hby (show decode code (own_pc 492 1) = _ from at_497)) rfl rfl (XS.iconst X.here hx rfl (hb hby (show decode code (own_pc 492 1 + 1) = _ from at_498)) (XS.iload X.here hx rfl (hb hby (show decode code (own_pc 492 1 + 1 + 1) = _ from at_499)) rfl k))
  | 2, _, T, locs, cells, slots, X, t, k => XS.dup X.here hx rfl (hb hby (show decode code (own_pc 492 2) = _ from at_502)) rfl rfl (XS.iconst X.here hx rfl (hb hby (show decode code (own_pc 492 2 + 1) = _ from at_503)) (XS.iload X.here hx rfl (hb hby (show decode code (own_pc 492 2 + 1 + 1) = _ from at_504)) rfl k))
  | 3, _, T, locs, cells, slots, X, t, k => XS.dup X.here hx rfl (hb hby (show decode code (own_pc 492 3) = _ from at_507)) rfl rfl (XS.iconst X.here hx rfl (hb hby (show decode code (own_pc 492 3 + 1) = _ from at_508)) (XS.iload X.here hx rfl (hb hby (show decode code (own_pc 492 3 + 1 + 1) = _ from at_509)) rfl k))
  | 4, _, T, locs, cells, slots, X, t, k => XS.dup X.here hx rfl (hb hby (show decode code (own_pc 492 4) = _ from at_512)) rfl rfl (XS.iconst X.here hx rfl (hb hby (show decode code (own_pc 492 4 + 1) = _ from at_513)) (XS.iload X.here hx rfl (hb hby (show decode code (own_pc 492 4 + 1 + 1) = _ from at_514)) rfl k))
  | 5, _, T, locs, cells, slots, X, t, k => XS.dup X.here hx rfl (hb hby (show decode code (own_pc 492 5) = _ from at_517)) rfl rfl (XS.iconst X.here hx rfl (hb hby (show decode code (own_pc 492 5 + 1) = _ from at_518)) (XS.iload X.here hx rfl (hb hby (show decode code (own_pc 492 5 + 1 + 1) = _ from at_519)) rfl k))
  | 6, _, T, locs, cells, slots, X, t, k => XS.dup X.here hx rfl (hb hby (show decode code (own_pc 492 6) = _ from at_522)) rfl rfl (XS.bipush X.here hx rfl (hb hby (show decode code (own_pc 492 6 + 1) = _ from at_523)) (XS.iload X.here hx rfl (hb hby (show decode code (own_pc 492 6 + 1 + 2) = _ from at_525)) rfl k))
  | 7, _, T, locs, cells, slots, X, t, k => XS.dup X.here hx rfl (hb hby (show decode code (own_pc 492 7) = _ from at_528)) rfl rfl (XS.bipush X.here hx rfl (hb hby (show decode code (own_pc 492 7 + 1) = _ from at_529)) (XS.iload X.here hx rfl (hb hby (show decode code (own_pc 492 7 + 1 + 2) = _ from at_531)) rfl k))
  | 8, _, T, locs, cells, slots, X, t, k => XS.dup X.here hx rfl (hb hby (show decode code (own_pc 492 8) = _ from at_534)) rfl rfl (XS.bipush X.here hx rfl (hb hby (show decode code (own_pc 492 8 + 1) = _ from at_535)) (XS.iload X.here hx rfl (hb hby (show decode code (own_pc 492 8 + 1 + 2) = _ from at_537)) rfl k))
  | 9, _, T, locs, cells, slots, X, t, k => XS.dup X.here hx rfl (hb hby (show decode code (own_pc 492 9) = _ from at_540)) rfl rfl (XS.bipush X.here hx rfl (hb hby (show decode code (own_pc 492 9 + 1) = _ from at_541)) (XS.iload X.here hx rfl (hb hby (show decode code (own_pc 492 9 + 1 + 2) = _ from at_543)) rfl k))
  | 10, _, T, locs, cells, slots, X, t, k => XS.dup X.here hx rfl (hb hby (show decode code (own_pc 492 10) = _ from at_546)) rfl rfl (XS.bipush X.here hx rfl (hb hby (show decode code (own_pc 492 10 + 1) = _ from at_547)) (XS.iload X.here hx rfl (hb hby (show decode code (own_pc 492 10 + 1 + 2) = _ from at_549)) rfl k))
  | 11, _, T, locs, cells, slots, X, t, k => XS.dup X.here hx rfl (hb hby (show decode code (own_pc 492 11) = _ from at_552)) rfl rfl (XS.bipush X.here hx rfl (hb hby (show decode code (own_pc 492 11 + 1) = _ from at_553)) (XS.iload X.here hx rfl (hb hby (show decode code (own_pc 492 11 + 1 + 2) = _ from at_555)) rfl k))
  | 12, _, T, locs, cells, slots, X, t, k => XS.dup X.here hx rfl (hb hby (show decode code (own_pc 492 12) = _ from at_558)) rfl rfl (XS.bipush X.here hx rfl (hb hby (show decode code (own_pc 492 12 + 1) = _ from at_559)) (XS.iload X.here hx rfl (hb hby (show decode code (own_pc 492 12 + 1 + 2) = _ from at_561)) rfl k))
  | 13, _, T, locs, cells, slots, X, t, k => XS.dup X.here hx rfl (hb hby (show decode code (own_pc 492 13) = _ from at_564)) rfl rfl (XS.bipush X.here hx rfl (hb hby (show decode code (own_pc 492 13 + 1) = _ from at_565)) (XS.iload X.here hx rfl (hb hby (show decode code (own_pc 492 13 + 1 + 2) = _ from at_567)) rfl k))
  | 14, _, T, locs, cells, slots, X, t, k => XS.dup X.here hx rfl (hb hby (show decode code (own_pc 492 14) = _ from at_570)) rfl rfl (XS.bipush X.here hx rfl (hb hby (show decode code (own_pc 492 14 + 1) = _ from at_571)) (XS.iload X.here hx rfl (hb hby (show decode code (own_pc 492 14 + 1 + 2) = _ from at_573)) rfl k))
  | 15, _, T, locs, cells, slots, X, t, k => XS.dup X.here hx rfl (hb hby (show decode code (own_pc 492 15) = _ from at_576)) rfl rfl (XS.bipush X.here hx rfl (hb hby (show decode code (own_pc 492 15 + 1) = _ from at_577)) (XS.iload X.here hx rfl (hb hby (show decode code (own_pc 492 15 + 1 + 2) = _ from at_579)) rfl k))
  | 16, _, T, locs, cells, slots, X, t, k => XS.dup X.here hx rfl (hb hby (show decode code (own_pc 492 16) = _ from at_582)) rfl rfl (XS.bipush X.here hx rfl (hb hby (show decode code (own_pc 492 16 + 1) = _ from at_583)) (XS.iload X.here hx rfl (hb hby (show decode code (own_pc 492 16 + 1 + 2) = _ from at_585)) rfl k))
  | 17, _, T, locs, cells, slots, X, t, k => XS.dup X.here hx rfl (hb hby (show decode code (own_pc 492 17) = _ from at_588)) rfl rfl (XS.bipush X.here hx rfl (hb hby (show decode code (own_pc 492 17 + 1) = _ from at_589)) (XS.iload X.here hx rfl (hb hby (show decode code (own_pc 492 17 + 1 + 2) = _ from at_591)) rfl k))
  | 18, _, T, locs, cells, slots, X, t, k => XS.dup X.here hx rfl (hb hby (show decode code (own_pc 492 18) = _ from at_594)) rfl rfl (XS.bipush X.here hx rfl (hb hby (show decode code (own_pc 492 18 + 1) = _ from at_595)) (XS.iload X.here hx rfl (hb hby (show decode code (own_pc 492 18 + 1 + 2) = _ from at_597)) rfl k))
  | 19, _, T, locs, cells, slots, X, t, k => XS.dup X.here hx rfl (hb hby (show decode code (own_pc 492 19) = _ from at_600)) rfl rfl (XS.bipush X.here hx rfl (hb hby (show decode code (own_pc 492 19 + 1) = _ from at_601)) (XS.iload X.here hx rfl (hb hby (show decode code (own_pc 492 19 + 1 + 2) = _ from at_603)) rfl k))
  | 20, _, T, locs, cells, slots, X, t, k => XS.dup X.here hx rfl (hb hby (show decode code (own_pc 492 20) = _ from at_606)) rfl rfl (XS.bipush X.here hx rfl (hb hby (show decode code (own_pc 492 20 + 1) = _ from at_607)) (XS.iload X.here hx rfl (hb hby (show decode code (own_pc 492 20 + 1 + 2) = _ from at_609)) rfl k))
  | 21, _, T, locs, cells, slots, X, t, k => XS.dup X.here hx rfl (hb hby (show decode code (own_pc 492 21) = _ from at_612)) rfl rfl (XS.bipush X.here hx rfl (hb hby (show decode code (own_pc 492 21 + 1) = _ from at_613)) (XS.iload X.here hx rfl (hb hby (show decode code (own_pc 492 21 + 1 + 2) = _ from at_615)) rfl k))
  | 22, _, T, locs, cells, slots, X, t, k => XS.dup X.here hx rfl (hb hby (show decode code (own_pc 492 22) = _ from at_618)) rfl rfl (XS.bipush X.here hx rfl (hb hby (show decode code (own_pc 492 22 + 1) = _ from at_619)) (XS.iload X.here hx rfl (hb hby (show decode code (own_pc 492 22 + 1 + 2) = _ from at_621)) rfl k))
  | 23, _, T, locs, cells, slots, X, t, k => XS.dup X.here hx rfl (hb hby (show decode code (own_pc 492 23) = _ from at_624)) rfl rfl (XS.bipush X.here hx rfl (hb hby (show decode code (own_pc 492 23 + 1) = _ from at_625)) (XS.iload X.here hx rfl (hb hby (show decode code (own_pc 492 23 + 1 + 2) = _ from at_627)) rfl k))
  | 24, _, T, locs, cells, slots, X, t, k => XS.dup X.here hx rfl (hb hby (show decode code (own_pc 492 24) = _ from at_630)) rfl rfl (XS.bipush X.here hx rfl (hb hby (show decode code (own_pc 492 24 + 1) = _ from at_631)) (XS.iload X.here hx rfl (hb hby (show decode code (own_pc 492 24 + 1 + 2) = _ from at_633)) rfl k))
  | 25, _, T, locs, cells, slots, X, t, k => XS.dup X.here hx rfl (hb hby (show decode code (own_pc 492 25) = _ from at_636)) rfl rfl (XS.bipush X.here hx rfl (hb hby (show decode code (own_pc 492 25 + 1) = _ from at_637)) (XS.iload X.here hx rfl (hb hby (show decode code (own_pc 492 25 + 1 + 2) = _ from at_639)) rfl k))
  | 26, _, T, locs, cells, slots, X, t, k => XS.dup X.here hx rfl (hb hby (show decode code (own_pc 492 26) = _ from at_642)) rfl rfl (XS.bipush X.here hx rfl (hb hby (show decode code (own_pc 492 26 + 1) = _ from at_643)) (XS.iload X.here hx rfl (hb hby (show decode code (own_pc 492 26 + 1 + 2) = _ from at_645)) rfl k))
  | 27, _, T, locs, cells, slots, X, t, k => XS.dup X.here hx rfl (hb hby (show decode code (own_pc 492 27) = _ from at_648)) rfl rfl (XS.bipush X.here hx rfl (hb hby (show decode code (own_pc 492 27 + 1) = _ from at_649)) (XS.iload X.here hx rfl (hb hby (show decode code (own_pc 492 27 + 1 + 2) = _ from at_651)) rfl k))
  | 28, _, T, locs, cells, slots, X, t, k => XS.dup X.here hx rfl (hb hby (show decode code (own_pc 492 28) = _ from at_654)) rfl rfl (XS.bipush X.here hx rfl (hb hby (show decode code (own_pc 492 28 + 1) = _ from at_655)) (XS.iload X.here hx rfl (hb hby (show decode code (own_pc 492 28 + 1 + 2) = _ from at_657)) rfl k))
  | 29, _, T, locs, cells, slots, X, t, k => XS.dup X.here hx rfl (hb hby (show decode code (own_pc 492 29) = _ from at_660)) rfl rfl (XS.bipush X.here hx rfl (hb hby (show decode code (own_pc 492 29 + 1) = _ from at_661)) (XS.iload X.here hx rfl (hb hby (show decode code (own_pc 492 29 + 1 + 2) = _ from at_663)) rfl k))
  | 30, _, T, locs, cells, slots, X, t, k => XS.dup X.here hx rfl (hb hby (show decode code (own_pc 492 30) = _ from at_666)) rfl rfl (XS.bipush X.here hx rfl (hb hby (show decode code (own_pc 492 30 + 1) = _ from at_667)) (XS.iload X.here hx rfl (hb hby (show decode code (own_pc 492 30 + 1 + 2) = _ from at_669)) rfl k))
  | 31, _, T, locs, cells, slots, X, t, k => XS.dup X.here hx rfl (hb hby (show decode code (own_pc 492 31) = _ from at_672)) rfl rfl (XS.bipush X.here hx rfl (hb hby (show decode code (own_pc 492 31 + 1) = _ from at_673)) (XS.iload X.here hx rfl (hb hby (show decode code (own_pc 492 31 + 1 + 2) = _ from at_675)) rfl k))
  | 32, _, T, locs, cells, slots, X, t, k => XS.dup X.here hx rfl (hb hby (show decode code (own_pc 492 32) = _ from at_678)) rfl rfl (XS.bipush X.here hx rfl (hb hby (show decode code (own_pc 492 32 + 1) = _ from at_679)) (XS.iload X.here hx rfl (hb hby (show decode code (own_pc 492 32 + 1 + 2) = _ from at_681)) rfl k))
  | 33, _, T, locs, cells, slots, X, t, k => XS.dup X.here hx rfl (hb hby (show decode code (own_pc 492 33) = _ from at_684)) rfl rfl (XS.bipush X.here hx rfl (hb hby (show decode code (own_pc 492 33 + 1) = _ from at_685)) (XS.iload X.here hx rfl (hb hby (show decode code (own_pc 492 33 + 1 + 2) = _ from at_687)) rfl k))
  | 34, _, T, locs, cells, slots, X, t, k => XS.dup X.here hx rfl (hb hby (show decode code (own_pc 492 34) = _ from at_690)) rfl rfl (XS.bipush X.here hx rfl (hb hby (show decode code (own_pc 492 34 + 1) = _ from at_691)) (XS.iload X.here hx rfl (hb hby (show decode code (own_pc 492 34 + 1 + 2) = _ from at_693)) rfl k))
  | 35, _, T, locs, cells, slots, X, t, k => XS.dup X.here hx rfl (hb hby (show decode code (own_pc 492 35) = _ from at_696)) rfl rfl (XS.bipush X.here hx rfl (hb hby (show decode code (own_pc 492 35 + 1) = _ from at_697)) (XS.iload X.here hx rfl (hb hby (show decode code (own_pc 492 35 + 1 + 2) = _ from at_699)) rfl k))
  | 36, _, T, locs, cells, slots, X, t, k => XS.dup X.here hx rfl (hb hby (show decode code (own_pc 492 36) = _ from at_702)) rfl rfl (XS.bipush X.here hx rfl (hb hby (show decode code (own_pc 492 36 + 1) = _ from at_703)) (XS.iload X.here hx rfl (hb hby (show decode code (own_pc 492 36 + 1 + 2) = _ from at_705)) rfl k))
  | 37, _, T, locs, cells, slots, X, t, k => XS.dup X.here hx rfl (hb hby (show decode code (own_pc 492 37) = _ from at_708)) rfl rfl (XS.bipush X.here hx rfl (hb hby (show decode code (own_pc 492 37 + 1) = _ from at_709)) (XS.iload X.here hx rfl (hb hby (show decode code (own_pc 492 37 + 1 + 2) = _ from at_711)) rfl k))
  | 38, _, T, locs, cells, slots, X, t, k => XS.dup X.here hx rfl (hb hby (show decode code (own_pc 492 38) = _ from at_714)) rfl rfl (XS.bipush X.here hx rfl (hb hby (show decode code (own_pc 492 38 + 1) = _ from at_715)) (XS.iload X.here hx rfl (hb hby (show decode code (own_pc 492 38 + 1 + 2) = _ from at_717)) rfl k))
  | 39, _, T, locs, cells, slots, X, t, k => XS.dup X.here hx rfl (hb hby (show decode code (own_pc 492 39) = _ from at_720)) rfl rfl (XS.bipush X.here hx rfl (hb hby (show decode code (own_pc 492 39 + 1) = _ from at_721)) (XS.iload X.here hx rfl (hb hby (show decode code (own_pc 492 39 + 1 + 2) = _ from at_723)) rfl k))
  | 40, _, T, locs, cells, slots, X, t, k => XS.dup X.here hx rfl (hb hby (show decode code (own_pc 492 40) = _ from at_726)) rfl rfl (XS.bipush X.here hx rfl (hb hby (show decode code (own_pc 492 40 + 1) = _ from at_727)) (XS.iload X.here hx rfl (hb hby (show decode code (own_pc 492 40 + 1 + 2) = _ from at_729)) rfl k))
  | j + 41, h, _, _, _, _, _, _, _ => absurd h (by omega)
set_option maxRecDepth 65536 in
theorem own_fill492c {c : Code} (hby : c.code = code) : ∀ (j : Nat), j < 41 → decode c.code (own_pc 492 j + (if j < 6 then 4 else 5)) = .ok (.castore, 1)
  | 0, _ => hb hby (show decode code (own_pc 492 0 + (if 0 < 6 then 4 else 5)) = _ from at_496)
  | 1, _ => hb hby (show decode code (own_pc 492 1 + (if 1 < 6 then 4 else 5)) = _ from at_501)
  | 2, _ => hb hby (show decode code (own_pc 492 2 + (if 2 < 6 then 4 else 5)) = _ from at_506)
  | 3, _ => hb hby (show decode code (own_pc 492 3 + (if 3 < 6 then 4 else 5)) = _ from at_511)
  | 4, _ => hb hby (show decode code (own_pc 492 4 + (if 4 < 6 then 4 else 5)) = _ from at_516)
  | 5, _ => hb hby (show decode code (own_pc 492 5 + (if 5 < 6 then 4 else 5)) = _ from at_521)
  | 6, _ => hb hby (show decode code (own_pc 492 6 + (if 6 < 6 then 4 else 5)) = _ from at_527)
  | 7, _ => hb hby (show decode code (own_pc 492 7 + (if 7 < 6 then 4 else 5)) = _ from at_533)
  | 8, _ => hb hby (show decode code (own_pc 492 8 + (if 8 < 6 then 4 else 5)) = _ from at_539)
  | 9, _ => hb hby (show decode code (own_pc 492 9 + (if 9 < 6 then 4 else 5)) = _ from at_545)
  | 10, _ => hb hby (show decode code (own_pc 492 10 + (if 10 < 6 then 4 else 5)) = _ from at_551)
  | 11, _ => hb hby (show decode code (own_pc 492 11 + (if 11 < 6 then 4 else 5)) = _ from at_557)
  | 12, _ => hb hby (show decode code (own_pc 492 12 + (if 12 < 6 then 4 else 5)) = _ from at_563)
  | 13, _ => hb hby (show decode code (own_pc 492 13 + (if 13 < 6 then 4 else 5)) = _ from at_569)
  | 14, _ => hb hby (show decode code (own_pc 492 14 + (if 14 < 6 then 4 else 5)) = _ from at_575)
  | 15, _ => hb hby (show decode code (own_pc 492 15 + (if 15 < 6 then 4 else 5)) = _ from at_581)
  | 16, _ => hb hby (show decode code (own_pc 492 16 + (if 16 < 6 then 4 else 5)) = _ from at_587)
  | 17, _ => hb hby (show decode code (own_pc 492 17 + (if 17 < 6 then 4 else 5)) = _ from at_593)
  | 18, _ => hb hby (show decode code (own_pc 492 18 + (if 18 < 6 then 4 else 5)) = _ from at_599)
  | 19, _ => hb hby (show decode code (own_pc 492 19 + (if 19 < 6 then 4 else 5)) = _ from at_605)
  | 20, _ => hb hby (show decode code (own_pc 492 20 + (if 20 < 6 then 4 else 5)) = _ from at_611)
  | 21, _ => hb hby (show decode code (own_pc 492 21 + (if 21 < 6 then 4 else 5)) = _ from at_617)
  | 22, _ => hb hby (show decode code (own_pc 492 22 + (if 22 < 6 then 4 else 5)) = _ from at_623)
  | 23, _ => hb hby (show decode code (own_pc 492 23 + (if 23 < 6 then 4 else 5)) = _ from at_629)
  | 24, _ => hb hby (show decode code (own_pc 492 24 + (if 24 < 6 then 4 else 5)) = _ from at_635)
  | 25, _ => hb hby (show decode code (own_pc 492 25 + (if 25 < 6 then 4 else 5)) = _ from at_641)
  | 26, _ => hb hby (show decode code (own_pc 492 26 + (if 26 < 6 then 4 else 5)) = _ from at_647)
  | 27, _ => hb hby (show decode code (own_pc 492 27 + (if 27 < 6 then 4 else 5)) = _ from at_653)
  | 28, _ => hb hby (show decode code (own_pc 492 28 + (if 28 < 6 then 4 else 5)) = _ from at_659)
  | 29, _ => hb hby (show decode code (own_pc 492 29 + (if 29 < 6 then 4 else 5)) = _ from at_665)
  | 30, _ => hb hby (show decode code (own_pc 492 30 + (if 30 < 6 then 4 else 5)) = _ from at_671)
  | 31, _ => hb hby (show decode code (own_pc 492 31 + (if 31 < 6 then 4 else 5)) = _ from at_677)
  | 32, _ => hb hby (show decode code (own_pc 492 32 + (if 32 < 6 then 4 else 5)) = _ from at_683)
  | 33, _ => hb hby (show decode code (own_pc 492 33 + (if 33 < 6 then 4 else 5)) = _ from at_689)
  | 34, _ => hb hby (show decode code (own_pc 492 34 + (if 34 < 6 then 4 else 5)) = _ from at_695)
  | 35, _ => hb hby (show decode code (own_pc 492 35 + (if 35 < 6 then 4 else 5)) = _ from at_701)
  | 36, _ => hb hby (show decode code (own_pc 492 36 + (if 36 < 6 then 4 else 5)) = _ from at_707)
  | 37, _ => hb hby (show decode code (own_pc 492 37 + (if 37 < 6 then 4 else 5)) = _ from at_713)
  | 38, _ => hb hby (show decode code (own_pc 492 38 + (if 38 < 6 then 4 else 5)) = _ from at_719)
  | 39, _ => hb hby (show decode code (own_pc 492 39 + (if 39 < 6 then 4 else 5)) = _ from at_725)
  | 40, _ => hb hby (show decode code (own_pc 492 40 + (if 40 < 6 then 4 else 5)) = _ from at_731)
  | j + 41, h => absurd h (by omega)
set_option maxRecDepth 65536 in
set_option maxHeartbeats 40000000 in
theorem own_fill492 {p : Program} {l : Launch} {e : Env} {R : Room} {s : State} {m : MethodId} {args : Array Value} {below : List Frame} {meth : Method} {c : Code} (p1 p2 p3 p4 p5 p6 fc ca cb : Int32) (s9 s10 a : Addr) {cells slots n0 : Nat} {Z : State} (hx : p.tables.exec = Jvm.exec) (hby : c.code = code) (hZ : Z.Warmed39 s.vm) (g_a : n0 ≤ a) : ∀ (k j : Nat), j + k = 41 → ∀ (T : State) (locs : List Loc) (h : Heap), Stand p l e R s m args below meth c T locs cells slots → T.heap = h → Fr n0 locs → n0 ≤ h.size → Afn Z h a .char (41 : Int32) (own_pre (Int32.ofNat j) (nar .char fc)) → ∃ (T' : State) (locs' : List Loc) (h' : Heap), Stand p l e R s m args below meth c T' locs' cells slots ∧ T'.heap = h' ∧ Fr n0 locs' ∧ n0 ≤ h'.size ∧ Keep h h' [a] ∧ Afn Z h' a .char (41 : Int32) (own_pre (Int32.ofNat 41) (nar .char fc)) ∧ ∀ t, Steps p.tables e below (T'.setTop (mkF m (own_pc 492 41) #[.val (.int p1), .val (.int p2), .val (.int p3), .val (.int p4), .val (.int p5), .val (.int p6), .val (.int fc), .val (.int ca), .val (.int cb), .val (.ref s9), .val (.ref s10), .unset, .unset, .unset, .unset, .unset, .unset, .unset, .unset] [.ref a])) t → Steps p.tables e below (T.setTop (mkF m (own_pc 492 j) #[.val (.int p1), .val (.int p2), .val (.int p3), .val (.int p4), .val (.int p5), .val (.int p6), .val (.int fc), .val (.int ca), .val (.int cb), .val (.ref s9), .val (.ref s10), .unset, .unset, .unset, .unset, .unset, .unset, .unset, .unset] [.ref a])) t
  | 0, j, hj, T, locs, h, X, eT, N, Zh, Y => by
    obtain rfl : j = 41 := by omega
    exact ⟨T, locs, h, X, eT, N, Zh, Keep.refl h [a], Y, fun t k => k⟩
  | k + 1, j, hj, T, locs, h, X, eT, N, Zh, Y => by
    have hjn : j < 41 := by omega
    obtain ⟨cl, Ar, SA, NA, HA⟩ := id Y
    have hjt : (Int32.ofNat j).toInt = (j : Int) := Int32.toInt_ofNat_small (by omega)
    have hj1 : (Int32.ofNat (j + 1)).toInt = ((j + 1 : Nat) : Int) := Int32.toInt_ofNat_small (by omega)
    have hn : ((41 : Int32)).toInt = 41 := by decide +kernel
    have h0 : ¬ Int32.ofNat j < 0 := by rw [Int32.lt_iff_toInt_lt, hjt, own_e0]; omega
    have hlt : Int32.ofNat j < (41 : Int32) := by rw [Int32.lt_iff_toInt_lt, hjt, hn]; omega
    have hin := inb_of SA ⟨h0, hlt⟩
    obtain ⟨T1, h1, X1, e1, W1, st1⟩ := stC X hx hZ eT Ar (j := Int32.ofNat j) hin (g := mkF m (own_pc 492 j + (if j < 6 then 4 else 5)) #[.val (.int p1), .val (.int p2), .val (.int p3), .val (.int p4), .val (.int p5), .val (.int p6), .val (.int fc), .val (.int ca), .val (.int cb), .val (.ref s9), .val (.ref s10), .unset, .unset, .unset, .unset, .unset, .unset, .unset, .unset] [.int fc, .int (Int32.ofNat j), .ref a, .ref a]) rfl rfl (own_fill492c hby j hjn)
    have Y1 := Afn.put Ar SA NA HA W1 h0
    rw [own_pre_up (Int32.ofNat j) (Int32.ofNat (j + 1)) _ (by rw [hjt, hj1]; omega)] at Y1
    have N1 := Fr.snoc X1 N g_a
    obtain ⟨T', l', h', X', e', N', Z', K', Y', st'⟩ := own_fill492 p1 p2 p3 p4 p5 p6 fc ca cb s9 s10 a hx hby hZ g_a k (j + 1) (by omega) T1 _ h1 X1 e1 N1 (Nat.le_trans Zh (Keep.of_wr W1).1) Y1
    refine ⟨T', l', h', X', e', N', Z', (Keep.of_wr W1).trans K' (fun x hx => Or.inl hx), Y', fun t kt => ?_⟩
    refine own_fill492p p1 p2 p3 p4 p5 p6 fc ca cb s9 s10 a hx hby j hjn T locs cells slots X t (st1 t ?_)
    have q : own_pc 492 (j + 1) = own_pc 492 j + (if j < 6 then 4 else 5) + 1 := by unfold own_pc; split <;> omega
    have r := st' t kt
    rw [q] at r
    exact r

theorem pn_0 : plainName "com/example/bandwarden/bandwarden/protocol/Sha1IsHexPinLaw" = true := by first | (simp [plainName, overriddenIn]; done) | decide +kernel
theorem pd_0_0 : parseMethodDescriptor "([C)V" = some ⟨[(.array .char)], none⟩ := by decide +kernel
theorem pd_0_1 : parseMethodDescriptor "(Ljava/lang/String;)Z" = some ⟨[(.object "java/lang/String")], some .boolean⟩ := by decide +kernel
theorem pd_0_2 : parseMethodDescriptor "(C)Z" = some ⟨[.char], some .boolean⟩ := by decide +kernel
theorem ef_0 (m : MethodId) (x0 : Int32) (x1 : Int32) (x2 : Int32) (x3 : Int32) (x4 : Int32) (x5 : Int32) : entryFrame m #[(.int x0), (.int x1), (.int x2), (.int x3), (.int x4), (.int x5)] maxLocals = mkF m 0 #[.val (.int x0), .val (.int x1), .val (.int x2), .val (.int x3), .val (.int x4), .val (.int x5), .unset, .unset, .unset, .unset, .unset, .unset, .unset, .unset, .unset, .unset, .unset, .unset, .unset] [] := by first | (simp [entryFrame, mkF, argsToLocals, Value.category, maxLocals]; done) | rfl
def Q0 (n0 : Nat) (v : Option Value) (h : Heap) (L : List Loc) : Prop := v = some (.int 1) ∧ Fr n0 L
set_option maxRecDepth 65536 in
set_option maxHeartbeats 40000000 in
theorem rm0 (l : Launch) (Z : State) (a0 : Array Value) (hw : ∀ d ∈ tables_1, d.before a0 Z = true) (wds : List Jvm.Cond) (p1 : Int32) (p2 : Int32) (p3 : Int32) (p4 : Int32) (p5 : Int32) (p6 : Int32) (w0 : Int32) (f0 : Value) (h0 : Heap) (n0 : Nat) (Z0 : n0 ≤ h0.size) (OL : Old Z n0 h0) (sts : Sts Z w0 f0) :
    MetFree l x (head1 (Jvm.Cond.code x code maxLocals ret :: wds) room_1) (fun a U => a = #[(.int p1), (.int p2), (.int p3), (.int p4), (.int p5), (.int p6)] ∧ Z.Warmed39 U.vm ∧ U.heap = h0) (fun _ _ _ _ _ => True) (fun _ U o U' => ∃ v L, o = .returned v ∧ Q0 n0 v U'.heap L ∧ FrameEnd U o U' L room_1.cells room_1.slots) := by
  refine MetFree.of_bodySF (plainFor_of_name pn_0) hisR ?_
  intro p e s m args below meth c s₁ Bd hml0 hP hK
  obtain ⟨rfl, hZ, hh⟩ := hP
  have hx := Bd.exec
  have hby := Bd.bytes
  have hml : c.maxLocals = 19 := hml0
  have hown : s.vm.findClass "com/example/bandwarden/bandwarden/protocol/Sha1IsHexPinLaw" = some m.cls := findClass_of_methodNamed Bd.named
  have hnm := (name_of_methodNamed Bd.named Bd.method).1
  have X0 : Stand p l e room_1 s m #[(.int p1), (.int p2), (.int p3), (.int p4), (.int p5), (.int p6)] below meth c s₁ [] 0 0 := Stand.of_body Bd
  have e0 : s₁.heap = h0 := by rw [← hh, Bd.state]; rfl
  have N0 := Fr.nil n0
  refine own_start (Q := Q0 n0) (C := room_1.cells) (S := room_1.slots) ?_
  rw [ef_0 m p1 p2 p3 p4 p5 p6]
  obtain ⟨SC, hw0, SF, hf0, SA, SH, SL⟩ := id sts
  refine Gen.on (b := s₁.setTop (mkF m 2 #[.val (.int p1), .val (.int p2), .val (.int p3), .val (.int p4), .val (.int p5), .val (.int p6), .unset, .unset, .unset, .unset, .unset, .unset, .unset, .unset, .unset, .unset, .unset, .unset, .unset] [(.int p6)])) ?_ (fun t k => XS.iload X0.here hx rfl (hb hby at_0) rfl k)
  refine Gen.on (b := s₁.setTop (mkF m 3 #[.val (.int p1), .val (.int p2), .val (.int p3), .val (.int p4), .val (.int p5), .val (.int p6), .unset, .unset, .unset, .unset, .unset, .unset, .unset, .unset, .unset, .unset, .unset, .unset, .unset] [(.int p6.toUInt32.toUInt16.toUInt32.toInt32)])) ?_ (fun t k => XS.i2c X0.here hx rfl (hb hby at_2) rfl k)
  refine Gen.on (b := s₁.setTop (mkF m 5 #[.val (.int p1), .val (.int p2), .val (.int p3), .val (.int p4), .val (.int p5), .val (.int p6), .val (.int p6.toUInt32.toUInt16.toUInt32.toInt32), .unset, .unset, .unset, .unset, .unset, .unset, .unset, .unset, .unset, .unset, .unset, .unset] [])) ?_ (fun t k => XS.istore X0.here hx rfl (hb hby at_3) rfl (l' := #[.val (.int p1), .val (.int p2), .val (.int p3), .val (.int p4), .val (.int p5), .val (.int p6), .val (.int p6.toUInt32.toUInt16.toUInt32.toInt32), .unset, .unset, .unset, .unset, .unset, .unset, .unset, .unset, .unset, .unset, .unset, .unset]) rfl k)
  refine Gen.on (b := s₁.setTop (mkF m 6 #[.val (.int p1), .val (.int p2), .val (.int p3), .val (.int p4), .val (.int p5), .val (.int p6), .val (.int (own_i2c p6)), .unset, .unset, .unset, .unset, .unset, .unset, .unset, .unset, .unset, .unset, .unset, .unset] [(.int p4)])) ?_ (fun t k => XS.iloadN X0.here hx rfl (hb hby at_5) rfl k)
  refine Gen.on (b := s₁.setTop (mkF m 7 #[.val (.int p1), .val (.int p2), .val (.int p3), .val (.int p4), .val (.int p5), .val (.int p6), .val (.int (own_i2c p6)), .unset, .unset, .unset, .unset, .unset, .unset, .unset, .unset, .unset, .unset, .unset, .unset] [(.int p4.toUInt32.toUInt16.toUInt32.toInt32)])) ?_ (fun t k => XS.i2c X0.here hx rfl (hb hby at_6) rfl k)
  refine Gen.on (b := s₁.setTop (mkF m 9 #[.val (.int p1), .val (.int p2), .val (.int p3), .val (.int p4), .val (.int p5), .val (.int p6), .val (.int (own_i2c p6)), .val (.int p4.toUInt32.toUInt16.toUInt32.toInt32), .unset, .unset, .unset, .unset, .unset, .unset, .unset, .unset, .unset, .unset, .unset] [])) ?_ (fun t k => XS.istore X0.here hx rfl (hb hby at_7) rfl (l' := #[.val (.int p1), .val (.int p2), .val (.int p3), .val (.int p4), .val (.int p5), .val (.int p6), .val (.int (own_i2c p6)), .val (.int p4.toUInt32.toUInt16.toUInt32.toInt32), .unset, .unset, .unset, .unset, .unset, .unset, .unset, .unset, .unset, .unset, .unset]) rfl k)
  refine Gen.on (b := s₁.setTop (mkF m 11 #[.val (.int p1), .val (.int p2), .val (.int p3), .val (.int p4), .val (.int p5), .val (.int p6), .val (.int (own_i2c p6)), .val (.int (own_i2c p4)), .unset, .unset, .unset, .unset, .unset, .unset, .unset, .unset, .unset, .unset, .unset] [(.int p5)])) ?_ (fun t k => XS.iload X0.here hx rfl (hb hby at_9) rfl k)
  refine Gen.on (b := s₁.setTop (mkF m 12 #[.val (.int p1), .val (.int p2), .val (.int p3), .val (.int p4), .val (.int p5), .val (.int p6), .val (.int (own_i2c p6)), .val (.int (own_i2c p4)), .unset, .unset, .unset, .unset, .unset, .unset, .unset, .unset, .unset, .unset, .unset] [(.int p5.toUInt32.toUInt16.toUInt32.toInt32)])) ?_ (fun t k => XS.i2c X0.here hx rfl (hb hby at_11) rfl k)
  refine Gen.on (b := s₁.setTop (mkF m 14 #[.val (.int p1), .val (.int p2), .val (.int p3), .val (.int p4), .val (.int p5), .val (.int p6), .val (.int (own_i2c p6)), .val (.int (own_i2c p4)), .val (.int p5.toUInt32.toUInt16.toUInt32.toInt32), .unset, .unset, .unset, .unset, .unset, .unset, .unset, .unset, .unset, .unset] [])) ?_ (fun t k => XS.istore X0.here hx rfl (hb hby at_12) rfl (l' := #[.val (.int p1), .val (.int p2), .val (.int p3), .val (.int p4), .val (.int p5), .val (.int p6), .val (.int (own_i2c p6)), .val (.int (own_i2c p4)), .val (.int p5.toUInt32.toUInt16.toUInt32.toInt32), .unset, .unset, .unset, .unset, .unset, .unset, .unset, .unset, .unset, .unset]) rfl k)
  refine Gen.on (b := s₁.setTop (mkF m 16 #[.val (.int p1), .val (.int p2), .val (.int p3), .val (.int p4), .val (.int p5), .val (.int p6), .val (.int (own_i2c p6)), .val (.int (own_i2c p4)), .val (.int (own_i2c p5)), .unset, .unset, .unset, .unset, .unset, .unset, .unset, .unset, .unset, .unset] [(.int (39 : Int32))])) ?_ (fun t k => XS.bipush X0.here hx rfl (hb hby at_14) k)
  obtain ⟨b1, g1⟩ : ∃ z, z = h0.size := ⟨_, rfl⟩
  have g_b1 : n0 ≤ b1 := Nat.le_trans Z0 (Nat.le_of_eq g1.symm)
  obtain ⟨T1, h1, k1, X1, e1, E1, A1, st1⟩ := newP X0 hx hZ (hw _ (List.mem_of_getElem? (i := 0) rfl)) e0 (g := (mkF m 16 #[.val (.int p1), .val (.int p2), .val (.int p3), .val (.int p4), .val (.int p5), .val (.int p6), .val (.int (own_i2c p6)), .val (.int (own_i2c p4)), .val (.int (own_i2c p5)), .unset, .unset, .unset, .unset, .unset, .unset, .unset, .unset, .unset, .unset] [(.int (39 : Int32))])) rfl (hb hby at_16) rfl (by decide) (cap := 39) (by decide) (by decide) (by decide) (by decide)
  rw [← g1] at A1 st1
  have Z1 : n0 ≤ h1.size := Nat.le_trans Z0 E1.1
  have V1 : Afn Z h1 b1 .char (39 : Int32) (fun _ => 0) := Afn.new A1 (by decide) rfl
  refine Gen.on (b := T1.setTop (mkF m 18 #[.val (.int p1), .val (.int p2), .val (.int p3), .val (.int p4), .val (.int p5), .val (.int p6), .val (.int (own_i2c p6)), .val (.int (own_i2c p4)), .val (.int (own_i2c p5)), .unset, .unset, .unset, .unset, .unset, .unset, .unset, .unset, .unset, .unset] [(.ref b1)])) ?_ (fun t k => st1 t k)
  have Yp2 : Afn Z h1 b1 .char (39 : Int32) (own_pre (0 : Int32) (nar .char (own_i2c p6))) := Afn.congr V1 (fun j h1 _ => own_pre0 _ j h1)
  obtain ⟨T3, L3, h3, X3, e3, N3, Z3, Kc3, Y3, st3⟩ := own_fill18 p1 p2 p3 p4 p5 p6 (own_i2c p6) (own_i2c p4) (own_i2c p5) 0 0 b1 hx hby hZ g_b1 39 0 rfl T1 _ h1 X1 e1 N0 Z1 Yp2
  refine Gen.on (b := T3.setTop (mkF m 246 #[.val (.int p1), .val (.int p2), .val (.int p3), .val (.int p4), .val (.int p5), .val (.int p6), .val (.int (own_i2c p6)), .val (.int (own_i2c p4)), .val (.int (own_i2c p5)), .unset, .unset, .unset, .unset, .unset, .unset, .unset, .unset, .unset, .unset] [(.ref b1)])) ?_ (fun t k => st3 t k)
  refine Gen.on (b := T3.setTop (mkF m 248 #[.val (.int p1), .val (.int p2), .val (.int p3), .val (.int p4), .val (.int p5), .val (.int p6), .val (.int (own_i2c p6)), .val (.int (own_i2c p4)), .val (.int (own_i2c p5)), .val (.ref b1), .unset, .unset, .unset, .unset, .unset, .unset, .unset, .unset, .unset] [])) ?_ (fun t k => XS.astore X3.here hx rfl (hb hby at_246) rfl rfl (l' := #[.val (.int p1), .val (.int p2), .val (.int p3), .val (.int p4), .val (.int p5), .val (.int p6), .val (.int (own_i2c p6)), .val (.int (own_i2c p4)), .val (.int (own_i2c p5)), .val (.ref b1), .unset, .unset, .unset, .unset, .unset, .unset, .unset, .unset, .unset]) rfl k)
  refine Gen.on (b := T3.setTop (mkF m 250 #[.val (.int p1), .val (.int p2), .val (.int p3), .val (.int p4), .val (.int p5), .val (.int p6), .val (.int (own_i2c p6)), .val (.int (own_i2c p4)), .val (.int (own_i2c p5)), .val (.ref b1), .unset, .unset, .unset, .unset, .unset, .unset, .unset, .unset, .unset] [(.int (40 : Int32))])) ?_ (fun t k => XS.bipush X3.here hx rfl (hb hby at_248) k)
  obtain ⟨b4, g4⟩ : ∃ z, z = h3.size := ⟨_, rfl⟩
  have ne_b1_b4 : b1 ≠ b4 := Nat.ne_of_lt (Nat.lt_of_lt_of_le Y3.lt (Nat.le_of_eq g4.symm))
  have g_b4 : n0 ≤ b4 := Nat.le_trans Z3 (Nat.le_of_eq g4.symm)
  obtain ⟨T4, h4, k4, X4, e4, E4, A4, st4⟩ := newP X3 hx hZ (hw _ (List.mem_of_getElem? (i := 0) rfl)) e3 (g := (mkF m 250 #[.val (.int p1), .val (.int p2), .val (.int p3), .val (.int p4), .val (.int p5), .val (.int p6), .val (.int (own_i2c p6)), .val (.int (own_i2c p4)), .val (.int (own_i2c p5)), .val (.ref b1), .unset, .unset, .unset, .unset, .unset, .unset, .unset, .unset, .unset] [(.int (40 : Int32))])) rfl (hb hby at_250) rfl (by decide) (cap := 40) (by decide) (by decide) (by decide) (by decide)
  rw [← g4] at A4 st4
  have Z4 : n0 ≤ h4.size := Nat.le_trans Z3 E4.1
  have V4 : Afn Z h4 b4 .char (40 : Int32) (fun _ => 0) := Afn.new A4 (by decide) rfl
  refine Gen.on (b := T4.setTop (mkF m 252 #[.val (.int p1), .val (.int p2), .val (.int p3), .val (.int p4), .val (.int p5), .val (.int p6), .val (.int (own_i2c p6)), .val (.int (own_i2c p4)), .val (.int (own_i2c p5)), .val (.ref b1), .unset, .unset, .unset, .unset, .unset, .unset, .unset, .unset, .unset] [(.ref b4)])) ?_ (fun t k => st4 t k)
  have Yp5 : Afn Z h4 b4 .char (40 : Int32) (own_pre (0 : Int32) (nar .char (own_i2c p6))) := Afn.congr V4 (fun j h1 _ => own_pre0 _ j h1)
  obtain ⟨T6, L6, h6, X6, e6, N6, Z6, Kc6, Y6, st6⟩ := own_fill252 p1 p2 p3 p4 p5 p6 (own_i2c p6) (own_i2c p4) (own_i2c p5) b1 0 b4 hx hby hZ g_b4 40 0 rfl T4 _ h4 X4 e4 N3 Z4 Yp5
  refine Gen.on (b := T6.setTop (mkF m 486 #[.val (.int p1), .val (.int p2), .val (.int p3), .val (.int p4), .val (.int p5), .val (.int p6), .val (.int (own_i2c p6)), .val (.int (own_i2c p4)), .val (.int (own_i2c p5)), .val (.ref b1), .unset, .unset, .unset, .unset, .unset, .unset, .unset, .unset, .unset] [(.ref b4)])) ?_ (fun t k => st6 t k)
  refine Gen.on (b := T6.setTop (mkF m 488 #[.val (.int p1), .val (.int p2), .val (.int p3), .val (.int p4), .val (.int p5), .val (.int p6), .val (.int (own_i2c p6)), .val (.int (own_i2c p4)), .val (.int (own_i2c p5)), .val (.ref b1), .val (.ref b4), .unset, .unset, .unset, .unset, .unset, .unset, .unset, .unset] [])) ?_ (fun t k => XS.astore X6.here hx rfl (hb hby at_486) rfl rfl (l' := #[.val (.int p1), .val (.int p2), .val (.int p3), .val (.int p4), .val (.int p5), .val (.int p6), .val (.int (own_i2c p6)), .val (.int (own_i2c p4)), .val (.int (own_i2c p5)), .val (.ref b1), .val (.ref b4), .unset, .unset, .unset, .unset, .unset, .unset, .unset, .unset]) rfl k)
  refine Gen.on (b := T6.setTop (mkF m 490 #[.val (.int p1), .val (.int p2), .val (.int p3), .val (.int p4), .val (.int p5), .val (.int p6), .val (.int (own_i2c p6)), .val (.int (own_i2c p4)), .val (.int (own_i2c p5)), .val (.ref b1), .val (.ref b4), .unset, .unset, .unset, .unset, .unset, .unset, .unset, .unset] [(.int (41 : Int32))])) ?_ (fun t k => XS.bipush X6.here hx rfl (hb hby at_488) k)
  have fa8 := ((Y3.ext E4).keep Kc6 (ninS ne_b1_b4 nin0))
  obtain ⟨b7, g7⟩ : ∃ z, z = h6.size := ⟨_, rfl⟩
  have ne_b1_b7 : b1 ≠ b7 := Nat.ne_of_lt (Nat.lt_of_lt_of_le fa8.lt (Nat.le_of_eq g7.symm))
  have ne_b4_b7 : b4 ≠ b7 := Nat.ne_of_lt (Nat.lt_of_lt_of_le Y6.lt (Nat.le_of_eq g7.symm))
  have g_b7 : n0 ≤ b7 := Nat.le_trans Z6 (Nat.le_of_eq g7.symm)
  obtain ⟨T7, h7, k7, X7, e7, E7, A7, st7⟩ := newP X6 hx hZ (hw _ (List.mem_of_getElem? (i := 0) rfl)) e6 (g := (mkF m 490 #[.val (.int p1), .val (.int p2), .val (.int p3), .val (.int p4), .val (.int p5), .val (.int p6), .val (.int (own_i2c p6)), .val (.int (own_i2c p4)), .val (.int (own_i2c p5)), .val (.ref b1), .val (.ref b4), .unset, .unset, .unset, .unset, .unset, .unset, .unset, .unset] [(.int (41 : Int32))])) rfl (hb hby at_490) rfl (by decide) (cap := 41) (by decide) (by decide) (by decide) (by decide)
  rw [← g7] at A7 st7
  have Z7 : n0 ≤ h7.size := Nat.le_trans Z6 E7.1
  have V7 : Afn Z h7 b7 .char (41 : Int32) (fun _ => 0) := Afn.new A7 (by decide) rfl
  refine Gen.on (b := T7.setTop (mkF m 492 #[.val (.int p1), .val (.int p2), .val (.int p3), .val (.int p4), .val (.int p5), .val (.int p6), .val (.int (own_i2c p6)), .val (.int (own_i2c p4)), .val (.int (own_i2c p5)), .val (.ref b1), .val (.ref b4), .unset, .unset, .unset, .unset, .unset, .unset, .unset, .unset] [(.ref b7)])) ?_ (fun t k => st7 t k)
  have Yp9 : Afn Z h7 b7 .char (41 : Int32) (own_pre (0 : Int32) (nar .char (own_i2c p6))) := Afn.congr V7 (fun j h1 _ => own_pre0 _ j h1)
  obtain ⟨T10, L10, h10, X10, e10, N10, Z10, Kc10, Y10, st10⟩ := own_fill492 p1 p2 p3 p4 p5 p6 (own_i2c p6) (own_i2c p4) (own_i2c p5) b1 b4 b7 hx hby hZ g_b7 41 0 rfl T7 _ h7 X7 e7 N6 Z7 Yp9
  refine Gen.on (b := T10.setTop (mkF m 732 #[.val (.int p1), .val (.int p2), .val (.int p3), .val (.int p4), .val (.int p5), .val (.int p6), .val (.int (own_i2c p6)), .val (.int (own_i2c p4)), .val (.int (own_i2c p5)), .val (.ref b1), .val (.ref b4), .unset, .unset, .unset, .unset, .unset, .unset, .unset, .unset] [(.ref b7)])) ?_ (fun t k => st10 t k)
  refine Gen.on (b := T10.setTop (mkF m 734 #[.val (.int p1), .val (.int p2), .val (.int p3), .val (.int p4), .val (.int p5), .val (.int p6), .val (.int (own_i2c p6)), .val (.int (own_i2c p4)), .val (.int (own_i2c p5)), .val (.ref b1), .val (.ref b4), .val (.ref b7), .unset, .unset, .unset, .unset, .unset, .unset, .unset] [])) ?_ (fun t k => XS.astore X10.here hx rfl (hb hby at_732) rfl rfl (l' := #[.val (.int p1), .val (.int p2), .val (.int p3), .val (.int p4), .val (.int p5), .val (.int p6), .val (.int (own_i2c p6)), .val (.int (own_i2c p4)), .val (.int (own_i2c p5)), .val (.ref b1), .val (.ref b4), .val (.ref b7), .unset, .unset, .unset, .unset, .unset, .unset, .unset]) rfl k)
  refine Gen.on (b := T10.setTop (mkF m 735 #[.val (.int p1), .val (.int p2), .val (.int p3), .val (.int p4), .val (.int p5), .val (.int p6), .val (.int (own_i2c p6)), .val (.int (own_i2c p4)), .val (.int (own_i2c p5)), .val (.ref b1), .val (.ref b4), .val (.ref b7), .unset, .unset, .unset, .unset, .unset, .unset, .unset] [(.int p1)])) ?_ (fun t k => XS.iloadN X10.here hx rfl (hb hby at_734) rfl k)
  refine Gen.on (b := T10.setTop (mkF m 736 #[.val (.int p1), .val (.int p2), .val (.int p3), .val (.int p4), .val (.int p5), .val (.int p6), .val (.int (own_i2c p6)), .val (.int (own_i2c p4)), .val (.int (own_i2c p5)), .val (.ref b1), .val (.ref b4), .val (.ref b7), .unset, .unset, .unset, .unset, .unset, .unset, .unset] [(.int (3 : Int32)), (.int p1)])) ?_ (fun t k => XS.iconst X10.here hx rfl (hb hby at_735) k)
  refine Gen.on (b := T10.setTop (mkF m 737 #[.val (.int p1), .val (.int p2), .val (.int p3), .val (.int p4), .val (.int p5), .val (.int p6), .val (.int (own_i2c p6)), .val (.int (own_i2c p4)), .val (.int (own_i2c p5)), .val (.ref b1), .val (.ref b4), .val (.ref b7), .unset, .unset, .unset, .unset, .unset, .unset, .unset] [(.int (p1 &&& (3 : Int32)))])) ?_ (fun t k => XS.iand X10.here hx rfl (hb hby at_736) rfl k)
  refine Gen.on (b := T10.setTop (mkF m 739 #[.val (.int p1), .val (.int p2), .val (.int p3), .val (.int p4), .val (.int p5), .val (.int p6), .val (.int (own_i2c p6)), .val (.int (own_i2c p4)), .val (.int (own_i2c p5)), .val (.ref b1), .val (.ref b4), .val (.ref b7), .val (.int (p1 &&& (3 : Int32))), .unset, .unset, .unset, .unset, .unset, .unset] [])) ?_ (fun t k => XS.istore X10.here hx rfl (hb hby at_737) rfl (l' := #[.val (.int p1), .val (.int p2), .val (.int p3), .val (.int p4), .val (.int p5), .val (.int p6), .val (.int (own_i2c p6)), .val (.int (own_i2c p4)), .val (.int (own_i2c p5)), .val (.ref b1), .val (.ref b4), .val (.ref b7), .val (.int (p1 &&& (3 : Int32))), .unset, .unset, .unset, .unset, .unset, .unset]) rfl k)
  refine Gen.on (b := T10.setTop (mkF m 741 #[.val (.int p1), .val (.int p2), .val (.int p3), .val (.int p4), .val (.int p5), .val (.int p6), .val (.int (own_i2c p6)), .val (.int (own_i2c p4)), .val (.int (own_i2c p5)), .val (.ref b1), .val (.ref b4), .val (.ref b7), .val (.int (p1 &&& (3 : Int32))), .unset, .unset, .unset, .unset, .unset, .unset] [(.ref b4)])) ?_ (fun t k => XS.aload X10.here hx rfl (hb hby at_739) rfl rfl k)
  refine Gen.on (b := T10.setTop (mkF m 743 #[.val (.int p1), .val (.int p2), .val (.int p3), .val (.int p4), .val (.int p5), .val (.int p6), .val (.int (own_i2c p6)), .val (.int (own_i2c p4)), .val (.int (own_i2c p5)), .val (.ref b1), .val (.ref b4), .val (.ref b7), .val (.int (p1 &&& (3 : Int32))), .val (.ref b4), .unset, .unset, .unset, .unset, .unset] [])) ?_ (fun t k => XS.astore X10.here hx rfl (hb hby at_741) rfl rfl (l' := #[.val (.int p1), .val (.int p2), .val (.int p3), .val (.int p4), .val (.int p5), .val (.int p6), .val (.int (own_i2c p6)), .val (.int (own_i2c p4)), .val (.int (own_i2c p5)), .val (.ref b1), .val (.ref b4), .val (.ref b7), .val (.int (p1 &&& (3 : Int32))), .val (.ref b4), .unset, .unset, .unset, .unset, .unset]) rfl k)
  refine Gen.on (b := T10.setTop (mkF m 745 #[.val (.int p1), .val (.int p2), .val (.int p3), .val (.int p4), .val (.int p5), .val (.int p6), .val (.int (own_i2c p6)), .val (.int (own_i2c p4)), .val (.int (own_i2c p5)), .val (.ref b1), .val (.ref b4), .val (.ref b7), .val (.int (p1 &&& (3 : Int32))), .val (.ref b4), .unset, .unset, .unset, .unset, .unset] [(.int (p1 &&& (3 : Int32)))])) ?_ (fun t k => XS.iload X10.here hx rfl (hb hby at_743) rfl k)
  refine Gen.on (b := T10.setTop (mkF m 746 #[.val (.int p1), .val (.int p2), .val (.int p3), .val (.int p4), .val (.int p5), .val (.int p6), .val (.int (own_i2c p6)), .val (.int (own_i2c p4)), .val (.int (own_i2c p5)), .val (.ref b1), .val (.ref b4), .val (.ref b7), .val (.int (p1 &&& (3 : Int32))), .val (.ref b4), .unset, .unset, .unset, .unset, .unset] [(.int (1 : Int32)), (.int (p1 &&& (3 : Int32)))])) ?_ (fun t k => XS.iconst X10.here hx rfl (hb hby at_745) k)
  by_cases c746_1 : (p1 &&& (3 : Int32)) = (1 : Int32)
  · refine Gen.on (b := T10.setTop (mkF m 749 #[.val (.int p1), .val (.int p2), .val (.int p3), .val (.int p4), .val (.int p5), .val (.int p6), .val (.int (own_i2c p6)), .val (.int (own_i2c p4)), .val (.int (own_i2c p5)), .val (.ref b1), .val (.ref b4), .val (.ref b7), .val (.int (p1 &&& (3 : Int32))), .val (.ref b4), .unset, .unset, .unset, .unset, .unset] [])) ?_ (fun t k => XS.icmpNo X10.here hx rfl (hb hby at_746) rfl (teq c746_1).2 k)
    refine Gen.on (b := T10.setTop (mkF m 751 #[.val (.int p1), .val (.int p2), .val (.int p3), .val (.int p4), .val (.int p5), .val (.int p6), .val (.int (own_i2c p6)), .val (.int (own_i2c p4)), .val (.int (own_i2c p5)), .val (.ref b1), .val (.ref b4), .val (.ref b7), .val (.int (p1 &&& (3 : Int32))), .val (.ref b4), .unset, .unset, .unset, .unset, .unset] [(.ref b1)])) ?_ (fun t k => XS.aload X10.here hx rfl (hb hby at_749) rfl rfl k)
    refine Gen.on (b := T10.setTop (mkF m 753 #[.val (.int p1), .val (.int p2), .val (.int p3), .val (.int p4), .val (.int p5), .val (.int p6), .val (.int (own_i2c p6)), .val (.int (own_i2c p4)), .val (.int (own_i2c p5)), .val (.ref b1), .val (.ref b4), .val (.ref b7), .val (.int (p1 &&& (3 : Int32))), .val (.ref b1), .unset, .unset, .unset, .unset, .unset] [])) ?_ (fun t k => XS.astore X10.here hx rfl (hb hby at_751) rfl rfl (l' := #[.val (.int p1), .val (.int p2), .val (.int p3), .val (.int p4), .val (.int p5), .val (.int p6), .val (.int (own_i2c p6)), .val (.int (own_i2c p4)), .val (.int (own_i2c p5)), .val (.ref b1), .val (.ref b4), .val (.ref b7), .val (.int (p1 &&& (3 : Int32))), .val (.ref b1), .unset, .unset, .unset, .unset, .unset]) rfl k)
    refine Gen.on (b := T10.setTop (mkF m 766 #[.val (.int p1), .val (.int p2), .val (.int p3), .val (.int p4), .val (.int p5), .val (.int p6), .val (.int (own_i2c p6)), .val (.int (own_i2c p4)), .val (.int (own_i2c p5)), .val (.ref b1), .val (.ref b4), .val (.ref b7), .val (.int (p1 &&& (3 : Int32))), .val (.ref b1), .unset, .unset, .unset, .unset, .unset] [])) ?_ (fun t k => XS.goto X10.here hx rfl (pc0 := 753) (pc' := 766) rfl (hb hby at_753) (by decide) (by decide) k)
    have fa11 := ((fa8.ext E7).keep Kc10 (ninS ne_b1_b7 nin0))
    have Yc12 : Afn Z h10 b1 .char (39 : Int32) (fun _ => (nar .char (own_i2c p6))) := Afn.congr fa11 (fun j _ h2 => by unfold own_pre; exact if_pos h2)
    refine Gen.on (b := T10.setTop (mkF m 768 #[.val (.int p1), .val (.int p2), .val (.int p3), .val (.int p4), .val (.int p5), .val (.int p6), .val (.int (own_i2c p6)), .val (.int (own_i2c p4)), .val (.int (own_i2c p5)), .val (.ref b1), .val (.ref b4), .val (.ref b7), .val (.int (p1 &&& (3 : Int32))), .val (.ref b1), .unset, .unset, .unset, .unset, .unset] [(.ref b1)])) ?_ (fun t k => XS.aload X10.here hx rfl (hb hby at_766) rfl rfl k)
    obtain ⟨cl13, Ar13, SA13, NA13, HA13⟩ := id Yc12
    refine Gen.on (b := T10.setTop (mkF m 769 #[.val (.int p1), .val (.int p2), .val (.int p3), .val (.int p4), .val (.int p5), .val (.int p6), .val (.int (own_i2c p6)), .val (.int (own_i2c p4)), .val (.int (own_i2c p5)), .val (.ref b1), .val (.ref b4), .val (.ref b7), .val (.int (p1 &&& (3 : Int32))), .val (.ref b1), .unset, .unset, .unset, .unset, .unset] [(.int (39 : Int32))])) ?_ (fun t k => X10.arraylength hx (by rw [e10]; exact Ar13.1) (State.isArrayOf_alike hZ.alike Ar13.2.1) (g := (mkF m 768 #[.val (.int p1), .val (.int p2), .val (.int p3), .val (.int p4), .val (.int p5), .val (.int p6), .val (.int (own_i2c p6)), .val (.int (own_i2c p4)), .val (.int (own_i2c p5)), .val (.ref b1), .val (.ref b4), .val (.ref b7), .val (.int (p1 &&& (3 : Int32))), .val (.ref b1), .unset, .unset, .unset, .unset, .unset] [(.ref b1)])) rfl rfl (hb hby at_768) t (by rw [len_of SA13 NA13]; exact k))
    refine Gen.on (b := T10.setTop (mkF m 771 #[.val (.int p1), .val (.int p2), .val (.int p3), .val (.int p4), .val (.int p5), .val (.int p6), .val (.int (own_i2c p6)), .val (.int (own_i2c p4)), .val (.int (own_i2c p5)), .val (.ref b1), .val (.ref b4), .val (.ref b7), .val (.int (p1 &&& (3 : Int32))), .val (.ref b1), .val (.int (39 : Int32)), .unset, .unset, .unset, .unset] [])) ?_ (fun t k => XS.istore X10.here hx rfl (hb hby at_769) rfl (l' := #[.val (.int p1), .val (.int p2), .val (.int p3), .val (.int p4), .val (.int p5), .val (.int p6), .val (.int (own_i2c p6)), .val (.int (own_i2c p4)), .val (.int (own_i2c p5)), .val (.ref b1), .val (.ref b4), .val (.ref b7), .val (.int (p1 &&& (3 : Int32))), .val (.ref b1), .val (.int (39 : Int32)), .unset, .unset, .unset, .unset]) rfl k)
    refine Gen.on (b := T10.setTop (mkF m 772 #[.val (.int p1), .val (.int p2), .val (.int p3), .val (.int p4), .val (.int p5), .val (.int p6), .val (.int (own_i2c p6)), .val (.int (own_i2c p4)), .val (.int (own_i2c p5)), .val (.ref b1), .val (.ref b4), .val (.ref b7), .val (.int (p1 &&& (3 : Int32))), .val (.ref b1), .val (.int (39 : Int32)), .unset, .unset, .unset, .unset] [(.int p2)])) ?_ (fun t k => XS.iloadN X10.here hx rfl (hb hby at_771) rfl k)
    refine Gen.on (b := T10.setTop (mkF m 774 #[.val (.int p1), .val (.int p2), .val (.int p3), .val (.int p4), .val (.int p5), .val (.int p6), .val (.int (own_i2c p6)), .val (.int (own_i2c p4)), .val (.int (own_i2c p5)), .val (.ref b1), .val (.ref b4), .val (.ref b7), .val (.int (p1 &&& (3 : Int32))), .val (.ref b1), .val (.int (39 : Int32)), .unset, .unset, .unset, .unset] [(.int (2147483647 : Int32)), (.int p2)])) ?_ (fun t k => X10.ldcInt hx hown (mvT hZ (hw _ (List.mem_of_getElem? (i := 1) rfl))) (g := (mkF m 772 #[.val (.int p1), .val (.int p2), .val (.int p3), .val (.int p4), .val (.int p5), .val (.int p6), .val (.int (own_i2c p6)), .val (.int (own_i2c p4)), .val (.int (own_i2c p5)), .val (.ref b1), .val (.ref b4), .val (.ref b7), .val (.int (p1 &&& (3 : Int32))), .val (.ref b1), .val (.int (39 : Int32)), .unset, .unset, .unset, .unset] [(.int p2)])) rfl (hb hby at_772) t k)
    refine Gen.on (b := T10.setTop (mkF m 775 #[.val (.int p1), .val (.int p2), .val (.int p3), .val (.int p4), .val (.int p5), .val (.int p6), .val (.int (own_i2c p6)), .val (.int (own_i2c p4)), .val (.int (own_i2c p5)), .val (.ref b1), .val (.ref b4), .val (.ref b7), .val (.int (p1 &&& (3 : Int32))), .val (.ref b1), .val (.int (39 : Int32)), .unset, .unset, .unset, .unset] [(.int (p2 &&& (2147483647 : Int32)))])) ?_ (fun t k => XS.iand X10.here hx rfl (hb hby at_774) rfl k)
    refine Gen.on (b := T10.setTop (mkF m 777 #[.val (.int p1), .val (.int p2), .val (.int p3), .val (.int p4), .val (.int p5), .val (.int p6), .val (.int (own_i2c p6)), .val (.int (own_i2c p4)), .val (.int (own_i2c p5)), .val (.ref b1), .val (.ref b4), .val (.ref b7), .val (.int (p1 &&& (3 : Int32))), .val (.ref b1), .val (.int (39 : Int32)), .unset, .unset, .unset, .unset] [(.int (39 : Int32)), (.int (p2 &&& (2147483647 : Int32)))])) ?_ (fun t k => XS.iload X10.here hx rfl (hb hby at_775) rfl k)
    refine Gen.on (b := T10.setTop (mkF m 778 #[.val (.int p1), .val (.int p2), .val (.int p3), .val (.int p4), .val (.int p5), .val (.int p6), .val (.int (own_i2c p6)), .val (.int (own_i2c p4)), .val (.int (own_i2c p5)), .val (.ref b1), .val (.ref b4), .val (.ref b7), .val (.int (p1 &&& (3 : Int32))), .val (.ref b1), .val (.int (39 : Int32)), .unset, .unset, .unset, .unset] [(.int ((p2 &&& (2147483647 : Int32)) % (39 : Int32)))])) ?_ (fun t k => iremM X10 hx rfl (hb hby at_777) rfl (by decide) k)
    refine Gen.on (b := T10.setTop (mkF m 780 #[.val (.int p1), .val (.int p2), .val (.int p3), .val (.int p4), .val (.int p5), .val (.int p6), .val (.int (own_i2c p6)), .val (.int (own_i2c p4)), .val (.int (own_i2c p5)), .val (.ref b1), .val (.ref b4), .val (.ref b7), .val (.int (p1 &&& (3 : Int32))), .val (.ref b1), .val (.int (39 : Int32)), .val (.int ((p2 &&& (2147483647 : Int32)) % (39 : Int32))), .unset, .unset, .unset] [])) ?_ (fun t k => XS.istore X10.here hx rfl (hb hby at_778) rfl (l' := #[.val (.int p1), .val (.int p2), .val (.int p3), .val (.int p4), .val (.int p5), .val (.int p6), .val (.int (own_i2c p6)), .val (.int (own_i2c p4)), .val (.int (own_i2c p5)), .val (.ref b1), .val (.ref b4), .val (.ref b7), .val (.int (p1 &&& (3 : Int32))), .val (.ref b1), .val (.int (39 : Int32)), .val (.int ((p2 &&& (2147483647 : Int32)) % (39 : Int32))), .unset, .unset, .unset]) rfl k)
    refine Gen.on (b := T10.setTop (mkF m 781 #[.val (.int p1), .val (.int p2), .val (.int p3), .val (.int p4), .val (.int p5), .val (.int p6), .val (.int (own_i2c p6)), .val (.int (own_i2c p4)), .val (.int (own_i2c p5)), .val (.ref b1), .val (.ref b4), .val (.ref b7), .val (.int (p1 &&& (3 : Int32))), .val (.ref b1), .val (.int (39 : Int32)), .val (.int ((p2 &&& (2147483647 : Int32)) % (39 : Int32))), .unset, .unset, .unset] [(.int p3)])) ?_ (fun t k => XS.iloadN X10.here hx rfl (hb hby at_780) rfl k)
    refine Gen.on (b := T10.setTop (mkF m 783 #[.val (.int p1), .val (.int p2), .val (.int p3), .val (.int p4), .val (.int p5), .val (.int p6), .val (.int (own_i2c p6)), .val (.int (own_i2c p4)), .val (.int (own_i2c p5)), .val (.ref b1), .val (.ref b4), .val (.ref b7), .val (.int (p1 &&& (3 : Int32))), .val (.ref b1), .val (.int (39 : Int32)), .val (.int ((p2 &&& (2147483647 : Int32)) % (39 : Int32))), .unset, .unset, .unset] [(.int (2147483647 : Int32)), (.int p3)])) ?_ (fun t k => X10.ldcInt hx hown (mvT hZ (hw _ (List.mem_of_getElem? (i := 1) rfl))) (g := (mkF m 781 #[.val (.int p1), .val (.int p2), .val (.int p3), .val (.int p4), .val (.int p5), .val (.int p6), .val (.int (own_i2c p6)), .val (.int (own_i2c p4)), .val (.int (own_i2c p5)), .val (.ref b1), .val (.ref b4), .val (.ref b7), .val (.int (p1 &&& (3 : Int32))), .val (.ref b1), .val (.int (39 : Int32)), .val (.int ((p2 &&& (2147483647 : Int32)) % (39 : Int32))), .unset, .unset, .unset] [(.int p3)])) rfl (hb hby at_781) t k)
    refine Gen.on (b := T10.setTop (mkF m 784 #[.val (.int p1), .val (.int p2), .val (.int p3), .val (.int p4), .val (.int p5), .val (.int p6), .val (.int (own_i2c p6)), .val (.int (own_i2c p4)), .val (.int (own_i2c p5)), .val (.ref b1), .val (.ref b4), .val (.ref b7), .val (.int (p1 &&& (3 : Int32))), .val (.ref b1), .val (.int (39 : Int32)), .val (.int ((p2 &&& (2147483647 : Int32)) % (39 : Int32))), .unset, .unset, .unset] [(.int (p3 &&& (2147483647 : Int32)))])) ?_ (fun t k => XS.iand X10.here hx rfl (hb hby at_783) rfl k)
    refine Gen.on (b := T10.setTop (mkF m 786 #[.val (.int p1), .val (.int p2), .val (.int p3), .val (.int p4), .val (.int p5), .val (.int p6), .val (.int (own_i2c p6)), .val (.int (own_i2c p4)), .val (.int (own_i2c p5)), .val (.ref b1), .val (.ref b4), .val (.ref b7), .val (.int (p1 &&& (3 : Int32))), .val (.ref b1), .val (.int (39 : Int32)), .val (.int ((p2 &&& (2147483647 : Int32)) % (39 : Int32))), .unset, .unset, .unset] [(.int (39 : Int32)), (.int (p3 &&& (2147483647 : Int32)))])) ?_ (fun t k => XS.iload X10.here hx rfl (hb hby at_784) rfl k)
    refine Gen.on (b := T10.setTop (mkF m 787 #[.val (.int p1), .val (.int p2), .val (.int p3), .val (.int p4), .val (.int p5), .val (.int p6), .val (.int (own_i2c p6)), .val (.int (own_i2c p4)), .val (.int (own_i2c p5)), .val (.ref b1), .val (.ref b4), .val (.ref b7), .val (.int (p1 &&& (3 : Int32))), .val (.ref b1), .val (.int (39 : Int32)), .val (.int ((p2 &&& (2147483647 : Int32)) % (39 : Int32))), .unset, .unset, .unset] [(.int ((p3 &&& (2147483647 : Int32)) % (39 : Int32)))])) ?_ (fun t k => iremM X10 hx rfl (hb hby at_786) rfl (by decide) k)
    refine Gen.on (b := T10.setTop (mkF m 789 #[.val (.int p1), .val (.int p2), .val (.int p3), .val (.int p4), .val (.int p5), .val (.int p6), .val (.int (own_i2c p6)), .val (.int (own_i2c p4)), .val (.int (own_i2c p5)), .val (.ref b1), .val (.ref b4), .val (.ref b7), .val (.int (p1 &&& (3 : Int32))), .val (.ref b1), .val (.int (39 : Int32)), .val (.int ((p2 &&& (2147483647 : Int32)) % (39 : Int32))), .val (.int ((p3 &&& (2147483647 : Int32)) % (39 : Int32))), .unset, .unset] [])) ?_ (fun t k => XS.istore X10.here hx rfl (hb hby at_787) rfl (l' := #[.val (.int p1), .val (.int p2), .val (.int p3), .val (.int p4), .val (.int p5), .val (.int p6), .val (.int (own_i2c p6)), .val (.int (own_i2c p4)), .val (.int (own_i2c p5)), .val (.ref b1), .val (.ref b4), .val (.ref b7), .val (.int (p1 &&& (3 : Int32))), .val (.ref b1), .val (.int (39 : Int32)), .val (.int ((p2 &&& (2147483647 : Int32)) % (39 : Int32))), .val (.int ((p3 &&& (2147483647 : Int32)) % (39 : Int32))), .unset, .unset]) rfl k)
    refine Gen.on (b := T10.setTop (mkF m 791 #[.val (.int p1), .val (.int p2), .val (.int p3), .val (.int p4), .val (.int p5), .val (.int p6), .val (.int (own_i2c p6)), .val (.int (own_i2c p4)), .val (.int (own_i2c p5)), .val (.ref b1), .val (.ref b4), .val (.ref b7), .val (.int (p1 &&& (3 : Int32))), .val (.ref b1), .val (.int (39 : Int32)), .val (.int ((p2 &&& (2147483647 : Int32)) % (39 : Int32))), .val (.int ((p3 &&& (2147483647 : Int32)) % (39 : Int32))), .unset, .unset] [(.ref b1)])) ?_ (fun t k => XS.aload X10.here hx rfl (hb hby at_789) rfl rfl k)
    refine Gen.on (b := T10.setTop (mkF m 793 #[.val (.int p1), .val (.int p2), .val (.int p3), .val (.int p4), .val (.int p5), .val (.int p6), .val (.int (own_i2c p6)), .val (.int (own_i2c p4)), .val (.int (own_i2c p5)), .val (.ref b1), .val (.ref b4), .val (.ref b7), .val (.int (p1 &&& (3 : Int32))), .val (.ref b1), .val (.int (39 : Int32)), .val (.int ((p2 &&& (2147483647 : Int32)) % (39 : Int32))), .val (.int ((p3 &&& (2147483647 : Int32)) % (39 : Int32))), .unset, .unset] [(.int ((p2 &&& (2147483647 : Int32)) % (39 : Int32))), (.ref b1)])) ?_ (fun t k => XS.iload X10.here hx rfl (hb hby at_791) rfl k)
    refine Gen.on (b := T10.setTop (mkF m 795 #[.val (.int p1), .val (.int p2), .val (.int p3), .val (.int p4), .val (.int p5), .val (.int p6), .val (.int (own_i2c p6)), .val (.int (own_i2c p4)), .val (.int (own_i2c p5)), .val (.ref b1), .val (.ref b4), .val (.ref b7), .val (.int (p1 &&& (3 : Int32))), .val (.ref b1), .val (.int (39 : Int32)), .val (.int ((p2 &&& (2147483647 : Int32)) % (39 : Int32))), .val (.int ((p3 &&& (2147483647 : Int32)) % (39 : Int32))), .unset, .unset] [(.int (own_i2c p4)), (.int ((p2 &&& (2147483647 : Int32)) % (39 : Int32))), (.ref b1)])) ?_ (fun t k => XS.iload X10.here hx rfl (hb hby at_793) rfl k)
    obtain ⟨cl14, Ar14, SA14, NA14, HA14⟩ := id Yc12
    have hin14 : ¬ (((p2 &&& (2147483647 : Int32)) % (39 : Int32)) < 0 ∨ cl14.slots.size ≤ (((p2 &&& (2147483647 : Int32)) % (39 : Int32))).toNatClampNeg) := inb_of SA14 ⟨(own_mod p2 (39 : Int32) (by decide +kernel)).1, (own_mod p2 (39 : Int32) (by decide +kernel)).2⟩
    obtain ⟨T14, h14, X14, e14, W14, st14⟩ := stC X10 hx hZ e10 Ar14 (j := ((p2 &&& (2147483647 : Int32)) % (39 : Int32))) hin14 (g := (mkF m 795 #[.val (.int p1), .val (.int p2), .val (.int p3), .val (.int p4), .val (.int p5), .val (.int p6), .val (.int (own_i2c p6)), .val (.int (own_i2c p4)), .val (.int (own_i2c p5)), .val (.ref b1), .val (.ref b4), .val (.ref b7), .val (.int (p1 &&& (3 : Int32))), .val (.ref b1), .val (.int (39 : Int32)), .val (.int ((p2 &&& (2147483647 : Int32)) % (39 : Int32))), .val (.int ((p3 &&& (2147483647 : Int32)) % (39 : Int32))), .unset, .unset] [(.int (own_i2c p4)), (.int ((p2 &&& (2147483647 : Int32)) % (39 : Int32))), (.ref b1)])) rfl rfl (hb hby at_795)
    have Y14 := Afn.put Ar14 SA14 NA14 HA14 W14 (own_mod p2 (39 : Int32) (by decide +kernel)).1
    have Z14 : n0 ≤ h14.size := Nat.le_trans Z10 (Keep.of_wr W14).1
    have N14 := Fr.snoc X14 N10 g_b1
    refine Gen.on (b := T14.setTop (mkF m 796 #[.val (.int p1), .val (.int p2), .val (.int p3), .val (.int p4), .val (.int p5), .val (.int p6), .val (.int (own_i2c p6)), .val (.int (own_i2c p4)), .val (.int (own_i2c p5)), .val (.ref b1), .val (.ref b4), .val (.ref b7), .val (.int (p1 &&& (3 : Int32))), .val (.ref b1), .val (.int (39 : Int32)), .val (.int ((p2 &&& (2147483647 : Int32)) % (39 : Int32))), .val (.int ((p3 &&& (2147483647 : Int32)) % (39 : Int32))), .unset, .unset] [])) ?_ (fun t k => st14 t k)
    refine Gen.on (b := T14.setTop (mkF m 798 #[.val (.int p1), .val (.int p2), .val (.int p3), .val (.int p4), .val (.int p5), .val (.int p6), .val (.int (own_i2c p6)), .val (.int (own_i2c p4)), .val (.int (own_i2c p5)), .val (.ref b1), .val (.ref b4), .val (.ref b7), .val (.int (p1 &&& (3 : Int32))), .val (.ref b1), .val (.int (39 : Int32)), .val (.int ((p2 &&& (2147483647 : Int32)) % (39 : Int32))), .val (.int ((p3 &&& (2147483647 : Int32)) % (39 : Int32))), .unset, .unset] [(.ref b1)])) ?_ (fun t k => XS.aload X14.here hx rfl (hb hby at_796) rfl rfl k)
    refine Gen.on (b := T14.setTop (mkF m 800 #[.val (.int p1), .val (.int p2), .val (.int p3), .val (.int p4), .val (.int p5), .val (.int p6), .val (.int (own_i2c p6)), .val (.int (own_i2c p4)), .val (.int (own_i2c p5)), .val (.ref b1), .val (.ref b4), .val (.ref b7), .val (.int (p1 &&& (3 : Int32))), .val (.ref b1), .val (.int (39 : Int32)), .val (.int ((p2 &&& (2147483647 : Int32)) % (39 : Int32))), .val (.int ((p3 &&& (2147483647 : Int32)) % (39 : Int32))), .unset, .unset] [(.int ((p3 &&& (2147483647 : Int32)) % (39 : Int32))), (.ref b1)])) ?_ (fun t k => XS.iload X14.here hx rfl (hb hby at_798) rfl k)
    refine Gen.on (b := T14.setTop (mkF m 802 #[.val (.int p1), .val (.int p2), .val (.int p3), .val (.int p4), .val (.int p5), .val (.int p6), .val (.int (own_i2c p6)), .val (.int (own_i2c p4)), .val (.int (own_i2c p5)), .val (.ref b1), .val (.ref b4), .val (.ref b7), .val (.int (p1 &&& (3 : Int32))), .val (.ref b1), .val (.int (39 : Int32)), .val (.int ((p2 &&& (2147483647 : Int32)) % (39 : Int32))), .val (.int ((p3 &&& (2147483647 : Int32)) % (39 : Int32))), .unset, .unset] [(.int (own_i2c p5)), (.int ((p3 &&& (2147483647 : Int32)) % (39 : Int32))), (.ref b1)])) ?_ (fun t k => XS.iload X14.here hx rfl (hb hby at_800) rfl k)
    obtain ⟨cl15, Ar15, SA15, NA15, HA15⟩ := id Y14
    have hin15 : ¬ (((p3 &&& (2147483647 : Int32)) % (39 : Int32)) < 0 ∨ cl15.slots.size ≤ (((p3 &&& (2147483647 : Int32)) % (39 : Int32))).toNatClampNeg) := inb_of SA15 ⟨(own_mod p3 (39 : Int32) (by decide +kernel)).1, (own_mod p3 (39 : Int32) (by decide +kernel)).2⟩
    obtain ⟨T15, h15, X15, e15, W15, st15⟩ := stC X14 hx hZ e14 Ar15 (j := ((p3 &&& (2147483647 : Int32)) % (39 : Int32))) hin15 (g := (mkF m 802 #[.val (.int p1), .val (.int p2), .val (.int p3), .val (.int p4), .val (.int p5), .val (.int p6), .val (.int (own_i2c p6)), .val (.int (own_i2c p4)), .val (.int (own_i2c p5)), .val (.ref b1), .val (.ref b4), .val (.ref b7), .val (.int (p1 &&& (3 : Int32))), .val (.ref b1), .val (.int (39 : Int32)), .val (.int ((p2 &&& (2147483647 : Int32)) % (39 : Int32))), .val (.int ((p3 &&& (2147483647 : Int32)) % (39 : Int32))), .unset, .unset] [(.int (own_i2c p5)), (.int ((p3 &&& (2147483647 : Int32)) % (39 : Int32))), (.ref b1)])) rfl rfl (hb hby at_802)
    have Y15 := Afn.put Ar15 SA15 NA15 HA15 W15 (own_mod p3 (39 : Int32) (by decide +kernel)).1
    have Z15 : n0 ≤ h15.size := Nat.le_trans Z14 (Keep.of_wr W15).1
    have N15 := Fr.snoc X15 N14 g_b1
    refine Gen.on (b := T15.setTop (mkF m 803 #[.val (.int p1), .val (.int p2), .val (.int p3), .val (.int p4), .val (.int p5), .val (.int p6), .val (.int (own_i2c p6)), .val (.int (own_i2c p4)), .val (.int (own_i2c p5)), .val (.ref b1), .val (.ref b4), .val (.ref b7), .val (.int (p1 &&& (3 : Int32))), .val (.ref b1), .val (.int (39 : Int32)), .val (.int ((p2 &&& (2147483647 : Int32)) % (39 : Int32))), .val (.int ((p3 &&& (2147483647 : Int32)) % (39 : Int32))), .unset, .unset] [])) ?_ (fun t k => st15 t k)
    refine Gen.on (b := T15.setTop (mkF m 805 #[.val (.int p1), .val (.int p2), .val (.int p3), .val (.int p4), .val (.int p5), .val (.int p6), .val (.int (own_i2c p6)), .val (.int (own_i2c p4)), .val (.int (own_i2c p5)), .val (.ref b1), .val (.ref b4), .val (.ref b7), .val (.int (p1 &&& (3 : Int32))), .val (.ref b1), .val (.int (39 : Int32)), .val (.int ((p2 &&& (2147483647 : Int32)) % (39 : Int32))), .val (.int ((p3 &&& (2147483647 : Int32)) % (39 : Int32))), .unset, .unset] [(.int (39 : Int32))])) ?_ (fun t k => XS.iload X15.here hx rfl (hb hby at_803) rfl k)
    refine Gen.on (b := T15.setTop (mkF m 807 #[.val (.int p1), .val (.int p2), .val (.int p3), .val (.int p4), .val (.int p5), .val (.int p6), .val (.int (own_i2c p6)), .val (.int (own_i2c p4)), .val (.int (own_i2c p5)), .val (.ref b1), .val (.ref b4), .val (.ref b7), .val (.int (p1 &&& (3 : Int32))), .val (.ref b1), .val (.int (39 : Int32)), .val (.int ((p2 &&& (2147483647 : Int32)) % (39 : Int32))), .val (.int ((p3 &&& (2147483647 : Int32)) % (39 : Int32))), .unset, .unset] [(.int (40 : Int32)), (.int (39 : Int32))])) ?_ (fun t k => XS.bipush X15.here hx rfl (hb hby at_805) k)
    refine Gen.on (b := T15.setTop (mkF m 845 #[.val (.int p1), .val (.int p2), .val (.int p3), .val (.int p4), .val (.int p5), .val (.int p6), .val (.int (own_i2c p6)), .val (.int (own_i2c p4)), .val (.int (own_i2c p5)), .val (.ref b1), .val (.ref b4), .val (.ref b7), .val (.int (p1 &&& (3 : Int32))), .val (.ref b1), .val (.int (39 : Int32)), .val (.int ((p2 &&& (2147483647 : Int32)) % (39 : Int32))), .val (.int ((p3 &&& (2147483647 : Int32)) % (39 : Int32))), .unset, .unset] [])) ?_ (fun t k => XS.icmpYes X15.here hx rfl (pc0 := 807) (pc' := 845) rfl (hb hby at_807) rfl (feq (by decide : ¬ ((39 : Int32) = (40 : Int32)))).2 (by decide) (by decide) k)
    refine Gen.on (b := T15.setTop (mkF m 846 #[.val (.int p1), .val (.int p2), .val (.int p3), .val (.int p4), .val (.int p5), .val (.int p6), .val (.int (own_i2c p6)), .val (.int (own_i2c p4)), .val (.int (own_i2c p5)), .val (.ref b1), .val (.ref b4), .val (.ref b7), .val (.int (p1 &&& (3 : Int32))), .val (.ref b1), .val (.int (39 : Int32)), .val (.int ((p2 &&& (2147483647 : Int32)) % (39 : Int32))), .val (.int ((p3 &&& (2147483647 : Int32)) % (39 : Int32))), .unset, .unset] [(.int (0 : Int32))])) ?_ (fun t k => XS.iconst X15.here hx rfl (hb hby at_845) k)
    refine Gen.on (b := T15.setTop (mkF m 848 #[.val (.int p1), .val (.int p2), .val (.int p3), .val (.int p4), .val (.int p5), .val (.int p6), .val (.int (own_i2c p6)), .val (.int (own_i2c p4)), .val (.int (own_i2c p5)), .val (.ref b1), .val (.ref b4), .val (.ref b7), .val (.int (p1 &&& (3 : Int32))), .val (.ref b1), .val (.int (39 : Int32)), .val (.int ((p2 &&& (2147483647 : Int32)) % (39 : Int32))), .val (.int ((p3 &&& (2147483647 : Int32)) % (39 : Int32))), .val (.int (0 : Int32)), .unset] [])) ?_ (fun t k => XS.istore X15.here hx rfl (hb hby at_846) rfl (l' := #[.val (.int p1), .val (.int p2), .val (.int p3), .val (.int p4), .val (.int p5), .val (.int p6), .val (.int (own_i2c p6)), .val (.int (own_i2c p4)), .val (.int (own_i2c p5)), .val (.ref b1), .val (.ref b4), .val (.ref b7), .val (.int (p1 &&& (3 : Int32))), .val (.ref b1), .val (.int (39 : Int32)), .val (.int ((p2 &&& (2147483647 : Int32)) % (39 : Int32))), .val (.int ((p3 &&& (2147483647 : Int32)) % (39 : Int32))), .val (.int (0 : Int32)), .unset]) rfl k)
    have fa17 := ((((Y6.ext E7).keep Kc10 (ninS ne_b4_b7 nin0)).other W14 (Ne.symm ne_b1_b4)).other W15 (Ne.symm ne_b1_b4))
    have fa18 := ((Y10.other W14 (Ne.symm ne_b1_b7)).other W15 (Ne.symm ne_b1_b7))
    obtain ⟨b16, g16⟩ : ∃ z, z = h15.size := ⟨_, rfl⟩
    have ne_b1_b16 : b1 ≠ b16 := Nat.ne_of_lt (Nat.lt_of_lt_of_le Y15.lt (Nat.le_of_eq g16.symm))
    have ne_b4_b16 : b4 ≠ b16 := Nat.ne_of_lt (Nat.lt_of_lt_of_le fa17.lt (Nat.le_of_eq g16.symm))
    have ne_b7_b16 : b7 ≠ b16 := Nat.ne_of_lt (Nat.lt_of_lt_of_le fa18.lt (Nat.le_of_eq g16.symm))
    have g_b16 : n0 ≤ b16 := Nat.le_trans Z15 (Nat.le_of_eq g16.symm)
    obtain ⟨T16, h16, X16, e16, E16, A16, D16, -, st16⟩ := newO X15 hx hZ hown (hw _ (List.mem_of_getElem? (i := 6) rfl)) (hw _ (List.mem_of_getElem? (i := 7) rfl)) (hw _ (List.mem_of_getElem? (i := 8) rfl)) e15 (g := (mkF m 848 #[.val (.int p1), .val (.int p2), .val (.int p3), .val (.int p4), .val (.int p5), .val (.int p6), .val (.int (own_i2c p6)), .val (.int (own_i2c p4)), .val (.int (own_i2c p5)), .val (.ref b1), .val (.ref b4), .val (.ref b7), .val (.int (p1 &&& (3 : Int32))), .val (.ref b1), .val (.int (39 : Int32)), .val (.int ((p2 &&& (2147483647 : Int32)) % (39 : Int32))), .val (.int ((p3 &&& (2147483647 : Int32)) % (39 : Int32))), .val (.int (0 : Int32)), .unset] [])) rfl (hb hby at_848) (by decide) (by decide)
    rw [← g16] at A16 D16 st16
    have Z16 : n0 ≤ h16.size := Nat.le_trans Z15 E16.1
    have F16_coder : Fld Z h16 b16 "java/lang/String" "coder" "B" (.int (0 : Int32)) := D16 (Or.inr (hw _ (List.mem_of_getElem? (i := 32) rfl))) (ty := .byte) (by decide)
    have F16_value : Fld Z h16 b16 "java/lang/String" "value" "[B" .null := D16 (Or.inr (hw _ (List.mem_of_getElem? (i := 34) rfl))) (ty := (.array .byte)) (by decide)
    refine Gen.on (b := T16.setTop (mkF m 851 #[.val (.int p1), .val (.int p2), .val (.int p3), .val (.int p4), .val (.int p5), .val (.int p6), .val (.int (own_i2c p6)), .val (.int (own_i2c p4)), .val (.int (own_i2c p5)), .val (.ref b1), .val (.ref b4), .val (.ref b7), .val (.int (p1 &&& (3 : Int32))), .val (.ref b1), .val (.int (39 : Int32)), .val (.int ((p2 &&& (2147483647 : Int32)) % (39 : Int32))), .val (.int ((p3 &&& (2147483647 : Int32)) % (39 : Int32))), .val (.int (0 : Int32)), .unset] [(.ref b16)])) ?_ (fun t k => st16 t k)
    refine Gen.on (b := T16.setTop (mkF m 852 #[.val (.int p1), .val (.int p2), .val (.int p3), .val (.int p4), .val (.int p5), .val (.int p6), .val (.int (own_i2c p6)), .val (.int (own_i2c p4)), .val (.int (own_i2c p5)), .val (.ref b1), .val (.ref b4), .val (.ref b7), .val (.int (p1 &&& (3 : Int32))), .val (.ref b1), .val (.int (39 : Int32)), .val (.int ((p2 &&& (2147483647 : Int32)) % (39 : Int32))), .val (.int ((p3 &&& (2147483647 : Int32)) % (39 : Int32))), .val (.int (0 : Int32)), .unset] [(.ref b16), (.ref b16)])) ?_ (fun t k => XS.dup X16.here hx rfl (hb hby at_851) rfl rfl k)
    refine Gen.on (b := T16.setTop (mkF m 854 #[.val (.int p1), .val (.int p2), .val (.int p3), .val (.int p4), .val (.int p5), .val (.int p6), .val (.int (own_i2c p6)), .val (.int (own_i2c p4)), .val (.int (own_i2c p5)), .val (.ref b1), .val (.ref b4), .val (.ref b7), .val (.int (p1 &&& (3 : Int32))), .val (.ref b1), .val (.int (39 : Int32)), .val (.int ((p2 &&& (2147483647 : Int32)) % (39 : Int32))), .val (.int ((p3 &&& (2147483647 : Int32)) % (39 : Int32))), .val (.int (0 : Int32)), .unset] [(.ref b1), (.ref b16), (.ref b16)])) ?_ (fun t k => XS.aload X16.here hx rfl (hb hby at_852) rfl rfl k)
    have fa20 := (Y15.ext E16)
    have fa21 := (((((((((OL.ext E1).keep Kc3 (allS g_b1 all0)).ext E4).keep Kc6 (allS g_b4 all0)).ext E7).keep Kc10 (allS g_b7 all0)).wr W14 g_b1).wr W15 g_b1).ext E16)
    obtain ⟨_, _, ⟨T19, L19, k19, n19⟩, -, X19, ⟨Lc19, hQ19, l19, y19, z19⟩, st19⟩ := X16.specialBack hx (y := (⟨"java/lang/String", "<init>", "([C)V"⟩ : MethodName)) rfl hown (mvT hZ (hw _ (List.mem_of_getElem? (i := 9) rfl))) (mvT hZ (hw _ (List.mem_of_getElem? (i := 10) rfl))) (mvT hZ (hw _ (List.mem_of_getElem? (i := 11) rfl))) (by decide) (backOf (W := 1) (rm2 l Z a0 hw [] b16 b1 .null (.int (0 : Int32)) (39 : Int32) (own_Y p6 p4 p5 ((p2 &&& (2147483647 : Int32)) % (39 : Int32)) ((p3 &&& (2147483647 : Int32)) % (39 : Int32))) (78 : Int32) w0 f0 h16 n0 Z16 A16 F16_value F16_coder fa20 fa21 g_b16 (sts) (by decide) (by decide) (by decide +kernel) (by decide) (by decide +kernel) (by decide +kernel) (by decide +kernel) (by decide +kernel) (own_Yb _ _ _ _ _ _) (by decide)) hZ (hw _ (List.mem_of_getElem? (i := 11) rfl)) (hw _ (List.mem_of_getElem? (i := 8) rfl)) (by decide) (by decide)) (g := (mkF m 854 #[.val (.int p1), .val (.int p2), .val (.int p3), .val (.int p4), .val (.int p5), .val (.int p6), .val (.int (own_i2c p6)), .val (.int (own_i2c p4)), .val (.int (own_i2c p5)), .val (.ref b1), .val (.ref b4), .val (.ref b7), .val (.int (p1 &&& (3 : Int32))), .val (.ref b1), .val (.int (39 : Int32)), .val (.int ((p2 &&& (2147483647 : Int32)) % (39 : Int32))), .val (.int ((p3 &&& (2147483647 : Int32)) % (39 : Int32))), .val (.int (0 : Int32)), .unset] [(.ref b1), (.ref b16), (.ref b16)])) rfl (by rw [hml]; rfl) (Steps.refl _) (a := b16) (argsL := [(.ref b1)]) (rest := [(.ref b16)]) (lenOf pd_0_0 rfl) rfl (by show 2 * 0 + _ ≤ _; exact Nat.le_of_eq rfl) (hb hby at_854) (fun _ _ => ⟨rfl, e16, (by decide : 4 + 2 ≤ _), (by decide : 124 + 123 ≤ _)⟩)
    dsimp only [Pt.U, Pt.locs, Pt.cells, Pt.slots] at X19 l19 y19 z19 st19 hQ19
    subst l19 y19 z19
    obtain ⟨rfl, N19q, Kc19, hf19_0, hf19_1⟩ := hQ19
    have N19 := Fr.app N15 N19q
    have Z19 : n0 ≤ T19.heap.size := Nat.le_trans Z16 Kc19.1
    refine Gen.on (b := T19.setTop (mkF m 857 #[.val (.int p1), .val (.int p2), .val (.int p3), .val (.int p4), .val (.int p5), .val (.int p6), .val (.int (own_i2c p6)), .val (.int (own_i2c p4)), .val (.int (own_i2c p5)), .val (.ref b1), .val (.ref b4), .val (.ref b7), .val (.int (p1 &&& (3 : Int32))), .val (.ref b1), .val (.int (39 : Int32)), .val (.int ((p2 &&& (2147483647 : Int32)) % (39 : Int32))), .val (.int ((p3 &&& (2147483647 : Int32)) % (39 : Int32))), .val (.int (0 : Int32)), .unset] [(.ref b16)])) ?_ (fun t k => st19.trans k)
    refine Gen.on (b := T19.setTop (mkF m 859 #[.val (.int p1), .val (.int p2), .val (.int p3), .val (.int p4), .val (.int p5), .val (.int p6), .val (.int (own_i2c p6)), .val (.int (own_i2c p4)), .val (.int (own_i2c p5)), .val (.ref b1), .val (.ref b4), .val (.ref b7), .val (.int (p1 &&& (3 : Int32))), .val (.ref b1), .val (.int (39 : Int32)), .val (.int ((p2 &&& (2147483647 : Int32)) % (39 : Int32))), .val (.int ((p3 &&& (2147483647 : Int32)) % (39 : Int32))), .val (.int (0 : Int32)), .val (.ref b16)] [])) ?_ (fun t k => XS.astore X19.here hx rfl (hb hby at_857) rfl rfl (l' := #[.val (.int p1), .val (.int p2), .val (.int p3), .val (.int p4), .val (.int p5), .val (.int p6), .val (.int (own_i2c p6)), .val (.int (own_i2c p4)), .val (.int (own_i2c p5)), .val (.ref b1), .val (.ref b4), .val (.ref b7), .val (.int (p1 &&& (3 : Int32))), .val (.ref b1), .val (.int (39 : Int32)), .val (.int ((p2 &&& (2147483647 : Int32)) % (39 : Int32))), .val (.int ((p3 &&& (2147483647 : Int32)) % (39 : Int32))), .val (.int (0 : Int32)), .val (.ref b16)]) rfl k)
    refine Gen.on (b := T19.setTop (mkF m 861 #[.val (.int p1), .val (.int p2), .val (.int p3), .val (.int p4), .val (.int p5), .val (.int p6), .val (.int (own_i2c p6)), .val (.int (own_i2c p4)), .val (.int (own_i2c p5)), .val (.ref b1), .val (.ref b4), .val (.ref b7), .val (.int (p1 &&& (3 : Int32))), .val (.ref b1), .val (.int (39 : Int32)), .val (.int ((p2 &&& (2147483647 : Int32)) % (39 : Int32))), .val (.int ((p3 &&& (2147483647 : Int32)) % (39 : Int32))), .val (.int (0 : Int32)), .val (.ref b16)] [(.ref b16)])) ?_ (fun t k => XS.aload X19.here hx rfl (hb hby at_859) rfl rfl k)
    have fa23 := (fa21.keep Kc19 (allS g_b16 all0))
    obtain ⟨_, _, ⟨T22, L22, k22, n22⟩, -, X22, ⟨Lc22, hQ22, l22, y22, z22⟩, st22⟩ := Jvm.LawKit.callS X19 hx (y := (⟨"com/example/bandwarden/bandwarden/protocol/Sha1", "isHex", "(Ljava/lang/String;)Z"⟩ : MethodName)) hown (mvT hZ (hw _ (List.mem_of_getElem? (i := 35) rfl))) (mvT hZ (hw _ (List.mem_of_getElem? (i := 36) rfl))) (mvT hZ (hw _ (List.mem_of_getElem? (i := 37) rfl))) (mvT hZ (hw _ (List.mem_of_getElem? (i := 38) rfl))) (by decide) (backOf (W := 0) (rm8 l Z a0 hw [] b16 (39 : Int32) (own_Y p6 p4 p5 ((p2 &&& (2147483647 : Int32)) % (39 : Int32)) ((p3 &&& (2147483647 : Int32)) % (39 : Int32))) w0 f0 T19.heap n0 Z19 hf19_0 hf19_1 fa23 sts) hZ (hw _ (List.mem_of_getElem? (i := 38) rfl)) (hw _ (List.mem_of_getElem? (i := 37) rfl)) (by decide) (by decide)) (g := (mkF m 861 #[.val (.int p1), .val (.int p2), .val (.int p3), .val (.int p4), .val (.int p5), .val (.int p6), .val (.int (own_i2c p6)), .val (.int (own_i2c p4)), .val (.int (own_i2c p5)), .val (.ref b1), .val (.ref b4), .val (.ref b7), .val (.int (p1 &&& (3 : Int32))), .val (.ref b1), .val (.int (39 : Int32)), .val (.int ((p2 &&& (2147483647 : Int32)) % (39 : Int32))), .val (.int ((p3 &&& (2147483647 : Int32)) % (39 : Int32))), .val (.int (0 : Int32)), .val (.ref b16)] [(.ref b16)])) rfl (by rw [hml]; rfl) (argsL := [(.ref b16)]) (rest := []) (lenOf pd_0_1 rfl) rfl (by show 2 * 0 + _ ≤ _; exact Nat.le_of_eq rfl) (hb hby at_861) (fun _ _ => ⟨rfl, rfl, (by decide : 6 + 0 ≤ _), (by decide : 247 + 0 ≤ _)⟩)
    dsimp only [Pt.U, Pt.locs, Pt.cells, Pt.slots] at X22 l22 y22 z22 st22 hQ22
    subst l22 y22 z22
    obtain ⟨r22, rfl, N22q, e22, hH22⟩ := hQ22
    have N22 := Fr.app N19 N22q
    rcases hH22 with ⟨rfl, hz, hall⟩ | ⟨rfl, hno⟩
    · exact absurd hz (by decide)
    · refine Gen.on (b := T22.setTop (mkF m 864 #[.val (.int p1), .val (.int p2), .val (.int p3), .val (.int p4), .val (.int p5), .val (.int p6), .val (.int (own_i2c p6)), .val (.int (own_i2c p4)), .val (.int (own_i2c p5)), .val (.ref b1), .val (.ref b4), .val (.ref b7), .val (.int (p1 &&& (3 : Int32))), .val (.ref b1), .val (.int (39 : Int32)), .val (.int ((p2 &&& (2147483647 : Int32)) % (39 : Int32))), .val (.int ((p3 &&& (2147483647 : Int32)) % (39 : Int32))), .val (.int (0 : Int32)), .val (.ref b16)] [(.int (0 : Int32))])) ?_ (fun t k => st22 t k)
      refine Gen.on (b := T22.setTop (mkF m 866 #[.val (.int p1), .val (.int p2), .val (.int p3), .val (.int p4), .val (.int p5), .val (.int p6), .val (.int (own_i2c p6)), .val (.int (own_i2c p4)), .val (.int (own_i2c p5)), .val (.ref b1), .val (.ref b4), .val (.ref b7), .val (.int (p1 &&& (3 : Int32))), .val (.ref b1), .val (.int (39 : Int32)), .val (.int ((p2 &&& (2147483647 : Int32)) % (39 : Int32))), .val (.int ((p3 &&& (2147483647 : Int32)) % (39 : Int32))), .val (.int (0 : Int32)), .val (.ref b16)] [(.int (0 : Int32)), (.int (0 : Int32))])) ?_ (fun t k => XS.iload X22.here hx rfl (hb hby at_864) rfl k)
      refine Gen.on (b := T22.setTop (mkF m 869 #[.val (.int p1), .val (.int p2), .val (.int p3), .val (.int p4), .val (.int p5), .val (.int p6), .val (.int (own_i2c p6)), .val (.int (own_i2c p4)), .val (.int (own_i2c p5)), .val (.ref b1), .val (.ref b4), .val (.ref b7), .val (.int (p1 &&& (3 : Int32))), .val (.ref b1), .val (.int (39 : Int32)), .val (.int ((p2 &&& (2147483647 : Int32)) % (39 : Int32))), .val (.int ((p3 &&& (2147483647 : Int32)) % (39 : Int32))), .val (.int (0 : Int32)), .val (.ref b16)] [])) ?_ (fun t k => XS.icmpNo X22.here hx rfl (hb hby at_866) rfl (teq (by decide : (0 : Int32) = (0 : Int32))).2 k)
      refine Gen.on (b := T22.setTop (mkF m 870 #[.val (.int p1), .val (.int p2), .val (.int p3), .val (.int p4), .val (.int p5), .val (.int p6), .val (.int (own_i2c p6)), .val (.int (own_i2c p4)), .val (.int (own_i2c p5)), .val (.ref b1), .val (.ref b4), .val (.ref b7), .val (.int (p1 &&& (3 : Int32))), .val (.ref b1), .val (.int (39 : Int32)), .val (.int ((p2 &&& (2147483647 : Int32)) % (39 : Int32))), .val (.int ((p3 &&& (2147483647 : Int32)) % (39 : Int32))), .val (.int (0 : Int32)), .val (.ref b16)] [(.int (1 : Int32))])) ?_ (fun t k => XS.iconst X22.here hx rfl (hb hby at_869) k)
      refine Gen.on (b := T22.setTop (mkF m 874 #[.val (.int p1), .val (.int p2), .val (.int p3), .val (.int p4), .val (.int p5), .val (.int p6), .val (.int (own_i2c p6)), .val (.int (own_i2c p4)), .val (.int (own_i2c p5)), .val (.ref b1), .val (.ref b4), .val (.ref b7), .val (.int (p1 &&& (3 : Int32))), .val (.ref b1), .val (.int (39 : Int32)), .val (.int ((p2 &&& (2147483647 : Int32)) % (39 : Int32))), .val (.int ((p3 &&& (2147483647 : Int32)) % (39 : Int32))), .val (.int (0 : Int32)), .val (.ref b16)] [(.int (1 : Int32))])) ?_ (fun t k => XS.goto X22.here hx rfl (pc0 := 870) (pc' := 874) rfl (hb hby at_870) (by decide) (by decide) k)
      refine own_retN (t := .boolean) X22 hx Bd.returns (by simp) (by decide) (hb hby at_874) (by decide) (by decide) ?_
      exact ⟨rfl, N22⟩
  · refine Gen.on (b := T10.setTop (mkF m 756 #[.val (.int p1), .val (.int p2), .val (.int p3), .val (.int p4), .val (.int p5), .val (.int p6), .val (.int (own_i2c p6)), .val (.int (own_i2c p4)), .val (.int (own_i2c p5)), .val (.ref b1), .val (.ref b4), .val (.ref b7), .val (.int (p1 &&& (3 : Int32))), .val (.ref b4), .unset, .unset, .unset, .unset, .unset] [])) ?_ (fun t k => XS.icmpYes X10.here hx rfl (pc0 := 746) (pc' := 756) rfl (hb hby at_746) rfl (feq c746_1).2 (by decide) (by decide) k)
    refine Gen.on (b := T10.setTop (mkF m 758 #[.val (.int p1), .val (.int p2), .val (.int p3), .val (.int p4), .val (.int p5), .val (.int p6), .val (.int (own_i2c p6)), .val (.int (own_i2c p4)), .val (.int (own_i2c p5)), .val (.ref b1), .val (.ref b4), .val (.ref b7), .val (.int (p1 &&& (3 : Int32))), .val (.ref b4), .unset, .unset, .unset, .unset, .unset] [(.int (p1 &&& (3 : Int32)))])) ?_ (fun t k => XS.iload X10.here hx rfl (hb hby at_756) rfl k)
    refine Gen.on (b := T10.setTop (mkF m 759 #[.val (.int p1), .val (.int p2), .val (.int p3), .val (.int p4), .val (.int p5), .val (.int p6), .val (.int (own_i2c p6)), .val (.int (own_i2c p4)), .val (.int (own_i2c p5)), .val (.ref b1), .val (.ref b4), .val (.ref b7), .val (.int (p1 &&& (3 : Int32))), .val (.ref b4), .unset, .unset, .unset, .unset, .unset] [(.int (2 : Int32)), (.int (p1 &&& (3 : Int32)))])) ?_ (fun t k => XS.iconst X10.here hx rfl (hb hby at_758) k)
    by_cases c759_2 : (p1 &&& (3 : Int32)) = (2 : Int32)
    · refine Gen.on (b := T10.setTop (mkF m 762 #[.val (.int p1), .val (.int p2), .val (.int p3), .val (.int p4), .val (.int p5), .val (.int p6), .val (.int (own_i2c p6)), .val (.int (own_i2c p4)), .val (.int (own_i2c p5)), .val (.ref b1), .val (.ref b4), .val (.ref b7), .val (.int (p1 &&& (3 : Int32))), .val (.ref b4), .unset, .unset, .unset, .unset, .unset] [])) ?_ (fun t k => XS.icmpNo X10.here hx rfl (hb hby at_759) rfl (teq c759_2).2 k)
      refine Gen.on (b := T10.setTop (mkF m 764 #[.val (.int p1), .val (.int p2), .val (.int p3), .val (.int p4), .val (.int p5), .val (.int p6), .val (.int (own_i2c p6)), .val (.int (own_i2c p4)), .val (.int (own_i2c p5)), .val (.ref b1), .val (.ref b4), .val (.ref b7), .val (.int (p1 &&& (3 : Int32))), .val (.ref b4), .unset, .unset, .unset, .unset, .unset] [(.ref b7)])) ?_ (fun t k => XS.aload X10.here hx rfl (hb hby at_762) rfl rfl k)
      refine Gen.on (b := T10.setTop (mkF m 766 #[.val (.int p1), .val (.int p2), .val (.int p3), .val (.int p4), .val (.int p5), .val (.int p6), .val (.int (own_i2c p6)), .val (.int (own_i2c p4)), .val (.int (own_i2c p5)), .val (.ref b1), .val (.ref b4), .val (.ref b7), .val (.int (p1 &&& (3 : Int32))), .val (.ref b7), .unset, .unset, .unset, .unset, .unset] [])) ?_ (fun t k => XS.astore X10.here hx rfl (hb hby at_764) rfl rfl (l' := #[.val (.int p1), .val (.int p2), .val (.int p3), .val (.int p4), .val (.int p5), .val (.int p6), .val (.int (own_i2c p6)), .val (.int (own_i2c p4)), .val (.int (own_i2c p5)), .val (.ref b1), .val (.ref b4), .val (.ref b7), .val (.int (p1 &&& (3 : Int32))), .val (.ref b7), .unset, .unset, .unset, .unset, .unset]) rfl k)
      have Yc24 : Afn Z h10 b7 .char (41 : Int32) (fun _ => (nar .char (own_i2c p6))) := Afn.congr Y10 (fun j _ h2 => by unfold own_pre; exact if_pos h2)
      refine Gen.on (b := T10.setTop (mkF m 768 #[.val (.int p1), .val (.int p2), .val (.int p3), .val (.int p4), .val (.int p5), .val (.int p6), .val (.int (own_i2c p6)), .val (.int (own_i2c p4)), .val (.int (own_i2c p5)), .val (.ref b1), .val (.ref b4), .val (.ref b7), .val (.int (p1 &&& (3 : Int32))), .val (.ref b7), .unset, .unset, .unset, .unset, .unset] [(.ref b7)])) ?_ (fun t k => XS.aload X10.here hx rfl (hb hby at_766) rfl rfl k)
      obtain ⟨cl25, Ar25, SA25, NA25, HA25⟩ := id Yc24
      refine Gen.on (b := T10.setTop (mkF m 769 #[.val (.int p1), .val (.int p2), .val (.int p3), .val (.int p4), .val (.int p5), .val (.int p6), .val (.int (own_i2c p6)), .val (.int (own_i2c p4)), .val (.int (own_i2c p5)), .val (.ref b1), .val (.ref b4), .val (.ref b7), .val (.int (p1 &&& (3 : Int32))), .val (.ref b7), .unset, .unset, .unset, .unset, .unset] [(.int (41 : Int32))])) ?_ (fun t k => X10.arraylength hx (by rw [e10]; exact Ar25.1) (State.isArrayOf_alike hZ.alike Ar25.2.1) (g := (mkF m 768 #[.val (.int p1), .val (.int p2), .val (.int p3), .val (.int p4), .val (.int p5), .val (.int p6), .val (.int (own_i2c p6)), .val (.int (own_i2c p4)), .val (.int (own_i2c p5)), .val (.ref b1), .val (.ref b4), .val (.ref b7), .val (.int (p1 &&& (3 : Int32))), .val (.ref b7), .unset, .unset, .unset, .unset, .unset] [(.ref b7)])) rfl rfl (hb hby at_768) t (by rw [len_of SA25 NA25]; exact k))
      refine Gen.on (b := T10.setTop (mkF m 771 #[.val (.int p1), .val (.int p2), .val (.int p3), .val (.int p4), .val (.int p5), .val (.int p6), .val (.int (own_i2c p6)), .val (.int (own_i2c p4)), .val (.int (own_i2c p5)), .val (.ref b1), .val (.ref b4), .val (.ref b7), .val (.int (p1 &&& (3 : Int32))), .val (.ref b7), .val (.int (41 : Int32)), .unset, .unset, .unset, .unset] [])) ?_ (fun t k => XS.istore X10.here hx rfl (hb hby at_769) rfl (l' := #[.val (.int p1), .val (.int p2), .val (.int p3), .val (.int p4), .val (.int p5), .val (.int p6), .val (.int (own_i2c p6)), .val (.int (own_i2c p4)), .val (.int (own_i2c p5)), .val (.ref b1), .val (.ref b4), .val (.ref b7), .val (.int (p1 &&& (3 : Int32))), .val (.ref b7), .val (.int (41 : Int32)), .unset, .unset, .unset, .unset]) rfl k)
      refine Gen.on (b := T10.setTop (mkF m 772 #[.val (.int p1), .val (.int p2), .val (.int p3), .val (.int p4), .val (.int p5), .val (.int p6), .val (.int (own_i2c p6)), .val (.int (own_i2c p4)), .val (.int (own_i2c p5)), .val (.ref b1), .val (.ref b4), .val (.ref b7), .val (.int (p1 &&& (3 : Int32))), .val (.ref b7), .val (.int (41 : Int32)), .unset, .unset, .unset, .unset] [(.int p2)])) ?_ (fun t k => XS.iloadN X10.here hx rfl (hb hby at_771) rfl k)
      refine Gen.on (b := T10.setTop (mkF m 774 #[.val (.int p1), .val (.int p2), .val (.int p3), .val (.int p4), .val (.int p5), .val (.int p6), .val (.int (own_i2c p6)), .val (.int (own_i2c p4)), .val (.int (own_i2c p5)), .val (.ref b1), .val (.ref b4), .val (.ref b7), .val (.int (p1 &&& (3 : Int32))), .val (.ref b7), .val (.int (41 : Int32)), .unset, .unset, .unset, .unset] [(.int (2147483647 : Int32)), (.int p2)])) ?_ (fun t k => X10.ldcInt hx hown (mvT hZ (hw _ (List.mem_of_getElem? (i := 1) rfl))) (g := (mkF m 772 #[.val (.int p1), .val (.int p2), .val (.int p3), .val (.int p4), .val (.int p5), .val (.int p6), .val (.int (own_i2c p6)), .val (.int (own_i2c p4)), .val (.int (own_i2c p5)), .val (.ref b1), .val (.ref b4), .val (.ref b7), .val (.int (p1 &&& (3 : Int32))), .val (.ref b7), .val (.int (41 : Int32)), .unset, .unset, .unset, .unset] [(.int p2)])) rfl (hb hby at_772) t k)
      refine Gen.on (b := T10.setTop (mkF m 775 #[.val (.int p1), .val (.int p2), .val (.int p3), .val (.int p4), .val (.int p5), .val (.int p6), .val (.int (own_i2c p6)), .val (.int (own_i2c p4)), .val (.int (own_i2c p5)), .val (.ref b1), .val (.ref b4), .val (.ref b7), .val (.int (p1 &&& (3 : Int32))), .val (.ref b7), .val (.int (41 : Int32)), .unset, .unset, .unset, .unset] [(.int (p2 &&& (2147483647 : Int32)))])) ?_ (fun t k => XS.iand X10.here hx rfl (hb hby at_774) rfl k)
      refine Gen.on (b := T10.setTop (mkF m 777 #[.val (.int p1), .val (.int p2), .val (.int p3), .val (.int p4), .val (.int p5), .val (.int p6), .val (.int (own_i2c p6)), .val (.int (own_i2c p4)), .val (.int (own_i2c p5)), .val (.ref b1), .val (.ref b4), .val (.ref b7), .val (.int (p1 &&& (3 : Int32))), .val (.ref b7), .val (.int (41 : Int32)), .unset, .unset, .unset, .unset] [(.int (41 : Int32)), (.int (p2 &&& (2147483647 : Int32)))])) ?_ (fun t k => XS.iload X10.here hx rfl (hb hby at_775) rfl k)
      refine Gen.on (b := T10.setTop (mkF m 778 #[.val (.int p1), .val (.int p2), .val (.int p3), .val (.int p4), .val (.int p5), .val (.int p6), .val (.int (own_i2c p6)), .val (.int (own_i2c p4)), .val (.int (own_i2c p5)), .val (.ref b1), .val (.ref b4), .val (.ref b7), .val (.int (p1 &&& (3 : Int32))), .val (.ref b7), .val (.int (41 : Int32)), .unset, .unset, .unset, .unset] [(.int ((p2 &&& (2147483647 : Int32)) % (41 : Int32)))])) ?_ (fun t k => iremM X10 hx rfl (hb hby at_777) rfl (by decide) k)
      refine Gen.on (b := T10.setTop (mkF m 780 #[.val (.int p1), .val (.int p2), .val (.int p3), .val (.int p4), .val (.int p5), .val (.int p6), .val (.int (own_i2c p6)), .val (.int (own_i2c p4)), .val (.int (own_i2c p5)), .val (.ref b1), .val (.ref b4), .val (.ref b7), .val (.int (p1 &&& (3 : Int32))), .val (.ref b7), .val (.int (41 : Int32)), .val (.int ((p2 &&& (2147483647 : Int32)) % (41 : Int32))), .unset, .unset, .unset] [])) ?_ (fun t k => XS.istore X10.here hx rfl (hb hby at_778) rfl (l' := #[.val (.int p1), .val (.int p2), .val (.int p3), .val (.int p4), .val (.int p5), .val (.int p6), .val (.int (own_i2c p6)), .val (.int (own_i2c p4)), .val (.int (own_i2c p5)), .val (.ref b1), .val (.ref b4), .val (.ref b7), .val (.int (p1 &&& (3 : Int32))), .val (.ref b7), .val (.int (41 : Int32)), .val (.int ((p2 &&& (2147483647 : Int32)) % (41 : Int32))), .unset, .unset, .unset]) rfl k)
      refine Gen.on (b := T10.setTop (mkF m 781 #[.val (.int p1), .val (.int p2), .val (.int p3), .val (.int p4), .val (.int p5), .val (.int p6), .val (.int (own_i2c p6)), .val (.int (own_i2c p4)), .val (.int (own_i2c p5)), .val (.ref b1), .val (.ref b4), .val (.ref b7), .val (.int (p1 &&& (3 : Int32))), .val (.ref b7), .val (.int (41 : Int32)), .val (.int ((p2 &&& (2147483647 : Int32)) % (41 : Int32))), .unset, .unset, .unset] [(.int p3)])) ?_ (fun t k => XS.iloadN X10.here hx rfl (hb hby at_780) rfl k)
      refine Gen.on (b := T10.setTop (mkF m 783 #[.val (.int p1), .val (.int p2), .val (.int p3), .val (.int p4), .val (.int p5), .val (.int p6), .val (.int (own_i2c p6)), .val (.int (own_i2c p4)), .val (.int (own_i2c p5)), .val (.ref b1), .val (.ref b4), .val (.ref b7), .val (.int (p1 &&& (3 : Int32))), .val (.ref b7), .val (.int (41 : Int32)), .val (.int ((p2 &&& (2147483647 : Int32)) % (41 : Int32))), .unset, .unset, .unset] [(.int (2147483647 : Int32)), (.int p3)])) ?_ (fun t k => X10.ldcInt hx hown (mvT hZ (hw _ (List.mem_of_getElem? (i := 1) rfl))) (g := (mkF m 781 #[.val (.int p1), .val (.int p2), .val (.int p3), .val (.int p4), .val (.int p5), .val (.int p6), .val (.int (own_i2c p6)), .val (.int (own_i2c p4)), .val (.int (own_i2c p5)), .val (.ref b1), .val (.ref b4), .val (.ref b7), .val (.int (p1 &&& (3 : Int32))), .val (.ref b7), .val (.int (41 : Int32)), .val (.int ((p2 &&& (2147483647 : Int32)) % (41 : Int32))), .unset, .unset, .unset] [(.int p3)])) rfl (hb hby at_781) t k)
      refine Gen.on (b := T10.setTop (mkF m 784 #[.val (.int p1), .val (.int p2), .val (.int p3), .val (.int p4), .val (.int p5), .val (.int p6), .val (.int (own_i2c p6)), .val (.int (own_i2c p4)), .val (.int (own_i2c p5)), .val (.ref b1), .val (.ref b4), .val (.ref b7), .val (.int (p1 &&& (3 : Int32))), .val (.ref b7), .val (.int (41 : Int32)), .val (.int ((p2 &&& (2147483647 : Int32)) % (41 : Int32))), .unset, .unset, .unset] [(.int (p3 &&& (2147483647 : Int32)))])) ?_ (fun t k => XS.iand X10.here hx rfl (hb hby at_783) rfl k)
      refine Gen.on (b := T10.setTop (mkF m 786 #[.val (.int p1), .val (.int p2), .val (.int p3), .val (.int p4), .val (.int p5), .val (.int p6), .val (.int (own_i2c p6)), .val (.int (own_i2c p4)), .val (.int (own_i2c p5)), .val (.ref b1), .val (.ref b4), .val (.ref b7), .val (.int (p1 &&& (3 : Int32))), .val (.ref b7), .val (.int (41 : Int32)), .val (.int ((p2 &&& (2147483647 : Int32)) % (41 : Int32))), .unset, .unset, .unset] [(.int (41 : Int32)), (.int (p3 &&& (2147483647 : Int32)))])) ?_ (fun t k => XS.iload X10.here hx rfl (hb hby at_784) rfl k)
      refine Gen.on (b := T10.setTop (mkF m 787 #[.val (.int p1), .val (.int p2), .val (.int p3), .val (.int p4), .val (.int p5), .val (.int p6), .val (.int (own_i2c p6)), .val (.int (own_i2c p4)), .val (.int (own_i2c p5)), .val (.ref b1), .val (.ref b4), .val (.ref b7), .val (.int (p1 &&& (3 : Int32))), .val (.ref b7), .val (.int (41 : Int32)), .val (.int ((p2 &&& (2147483647 : Int32)) % (41 : Int32))), .unset, .unset, .unset] [(.int ((p3 &&& (2147483647 : Int32)) % (41 : Int32)))])) ?_ (fun t k => iremM X10 hx rfl (hb hby at_786) rfl (by decide) k)
      refine Gen.on (b := T10.setTop (mkF m 789 #[.val (.int p1), .val (.int p2), .val (.int p3), .val (.int p4), .val (.int p5), .val (.int p6), .val (.int (own_i2c p6)), .val (.int (own_i2c p4)), .val (.int (own_i2c p5)), .val (.ref b1), .val (.ref b4), .val (.ref b7), .val (.int (p1 &&& (3 : Int32))), .val (.ref b7), .val (.int (41 : Int32)), .val (.int ((p2 &&& (2147483647 : Int32)) % (41 : Int32))), .val (.int ((p3 &&& (2147483647 : Int32)) % (41 : Int32))), .unset, .unset] [])) ?_ (fun t k => XS.istore X10.here hx rfl (hb hby at_787) rfl (l' := #[.val (.int p1), .val (.int p2), .val (.int p3), .val (.int p4), .val (.int p5), .val (.int p6), .val (.int (own_i2c p6)), .val (.int (own_i2c p4)), .val (.int (own_i2c p5)), .val (.ref b1), .val (.ref b4), .val (.ref b7), .val (.int (p1 &&& (3 : Int32))), .val (.ref b7), .val (.int (41 : Int32)), .val (.int ((p2 &&& (2147483647 : Int32)) % (41 : Int32))), .val (.int ((p3 &&& (2147483647 : Int32)) % (41 : Int32))), .unset, .unset]) rfl k)
      refine Gen.on (b := T10.setTop (mkF m 791 #[.val (.int p1), .val (.int p2), .val (.int p3), .val (.int p4), .val (.int p5), .val (.int p6), .val (.int (own_i2c p6)), .val (.int (own_i2c p4)), .val (.int (own_i2c p5)), .val (.ref b1), .val (.ref b4), .val (.ref b7), .val (.int (p1 &&& (3 : Int32))), .val (.ref b7), .val (.int (41 : Int32)), .val (.int ((p2 &&& (2147483647 : Int32)) % (41 : Int32))), .val (.int ((p3 &&& (2147483647 : Int32)) % (41 : Int32))), .unset, .unset] [(.ref b7)])) ?_ (fun t k => XS.aload X10.here hx rfl (hb hby at_789) rfl rfl k)
      refine Gen.on (b := T10.setTop (mkF m 793 #[.val (.int p1), .val (.int p2), .val (.int p3), .val (.int p4), .val (.int p5), .val (.int p6), .val (.int (own_i2c p6)), .val (.int (own_i2c p4)), .val (.int (own_i2c p5)), .val (.ref b1), .val (.ref b4), .val (.ref b7), .val (.int (p1 &&& (3 : Int32))), .val (.ref b7), .val (.int (41 : Int32)), .val (.int ((p2 &&& (2147483647 : Int32)) % (41 : Int32))), .val (.int ((p3 &&& (2147483647 : Int32)) % (41 : Int32))), .unset, .unset] [(.int ((p2 &&& (2147483647 : Int32)) % (41 : Int32))), (.ref b7)])) ?_ (fun t k => XS.iload X10.here hx rfl (hb hby at_791) rfl k)
      refine Gen.on (b := T10.setTop (mkF m 795 #[.val (.int p1), .val (.int p2), .val (.int p3), .val (.int p4), .val (.int p5), .val (.int p6), .val (.int (own_i2c p6)), .val (.int (own_i2c p4)), .val (.int (own_i2c p5)), .val (.ref b1), .val (.ref b4), .val (.ref b7), .val (.int (p1 &&& (3 : Int32))), .val (.ref b7), .val (.int (41 : Int32)), .val (.int ((p2 &&& (2147483647 : Int32)) % (41 : Int32))), .val (.int ((p3 &&& (2147483647 : Int32)) % (41 : Int32))), .unset, .unset] [(.int (own_i2c p4)), (.int ((p2 &&& (2147483647 : Int32)) % (41 : Int32))), (.ref b7)])) ?_ (fun t k => XS.iload X10.here hx rfl (hb hby at_793) rfl k)
      obtain ⟨cl26, Ar26, SA26, NA26, HA26⟩ := id Yc24
      have hin26 : ¬ (((p2 &&& (2147483647 : Int32)) % (41 : Int32)) < 0 ∨ cl26.slots.size ≤ (((p2 &&& (2147483647 : Int32)) % (41 : Int32))).toNatClampNeg) := inb_of SA26 ⟨(own_mod p2 (41 : Int32) (by decide +kernel)).1, (own_mod p2 (41 : Int32) (by decide +kernel)).2⟩
      obtain ⟨T26, h26, X26, e26, W26, st26⟩ := stC X10 hx hZ e10 Ar26 (j := ((p2 &&& (2147483647 : Int32)) % (41 : Int32))) hin26 (g := (mkF m 795 #[.val (.int p1), .val (.int p2), .val (.int p3), .val (.int p4), .val (.int p5), .val (.int p6), .val (.int (own_i2c p6)), .val (.int (own_i2c p4)), .val (.int (own_i2c p5)), .val (.ref b1), .val (.ref b4), .val (.ref b7), .val (.int (p1 &&& (3 : Int32))), .val (.ref b7), .val (.int (41 : Int32)), .val (.int ((p2 &&& (2147483647 : Int32)) % (41 : Int32))), .val (.int ((p3 &&& (2147483647 : Int32)) % (41 : Int32))), .unset, .unset] [(.int (own_i2c p4)), (.int ((p2 &&& (2147483647 : Int32)) % (41 : Int32))), (.ref b7)])) rfl rfl (hb hby at_795)
      have Y26 := Afn.put Ar26 SA26 NA26 HA26 W26 (own_mod p2 (41 : Int32) (by decide +kernel)).1
      have Z26 : n0 ≤ h26.size := Nat.le_trans Z10 (Keep.of_wr W26).1
      have N26 := Fr.snoc X26 N10 g_b7
      refine Gen.on (b := T26.setTop (mkF m 796 #[.val (.int p1), .val (.int p2), .val (.int p3), .val (.int p4), .val (.int p5), .val (.int p6), .val (.int (own_i2c p6)), .val (.int (own_i2c p4)), .val (.int (own_i2c p5)), .val (.ref b1), .val (.ref b4), .val (.ref b7), .val (.int (p1 &&& (3 : Int32))), .val (.ref b7), .val (.int (41 : Int32)), .val (.int ((p2 &&& (2147483647 : Int32)) % (41 : Int32))), .val (.int ((p3 &&& (2147483647 : Int32)) % (41 : Int32))), .unset, .unset] [])) ?_ (fun t k => st26 t k)
      refine Gen.on (b := T26.setTop (mkF m 798 #[.val (.int p1), .val (.int p2), .val (.int p3), .val (.int p4), .val (.int p5), .val (.int p6), .val (.int (own_i2c p6)), .val (.int (own_i2c p4)), .val (.int (own_i2c p5)), .val (.ref b1), .val (.ref b4), .val (.ref b7), .val (.int (p1 &&& (3 : Int32))), .val (.ref b7), .val (.int (41 : Int32)), .val (.int ((p2 &&& (2147483647 : Int32)) % (41 : Int32))), .val (.int ((p3 &&& (2147483647 : Int32)) % (41 : Int32))), .unset, .unset] [(.ref b7)])) ?_ (fun t k => XS.aload X26.here hx rfl (hb hby at_796) rfl rfl k)
      refine Gen.on (b := T26.setTop (mkF m 800 #[.val (.int p1), .val (.int p2), .val (.int p3), .val (.int p4), .val (.int p5), .val (.int p6), .val (.int (own_i2c p6)), .val (.int (own_i2c p4)), .val (.int (own_i2c p5)), .val (.ref b1), .val (.ref b4), .val (.ref b7), .val (.int (p1 &&& (3 : Int32))), .val (.ref b7), .val (.int (41 : Int32)), .val (.int ((p2 &&& (2147483647 : Int32)) % (41 : Int32))), .val (.int ((p3 &&& (2147483647 : Int32)) % (41 : Int32))), .unset, .unset] [(.int ((p3 &&& (2147483647 : Int32)) % (41 : Int32))), (.ref b7)])) ?_ (fun t k => XS.iload X26.here hx rfl (hb hby at_798) rfl k)
      refine Gen.on (b := T26.setTop (mkF m 802 #[.val (.int p1), .val (.int p2), .val (.int p3), .val (.int p4), .val (.int p5), .val (.int p6), .val (.int (own_i2c p6)), .val (.int (own_i2c p4)), .val (.int (own_i2c p5)), .val (.ref b1), .val (.ref b4), .val (.ref b7), .val (.int (p1 &&& (3 : Int32))), .val (.ref b7), .val (.int (41 : Int32)), .val (.int ((p2 &&& (2147483647 : Int32)) % (41 : Int32))), .val (.int ((p3 &&& (2147483647 : Int32)) % (41 : Int32))), .unset, .unset] [(.int (own_i2c p5)), (.int ((p3 &&& (2147483647 : Int32)) % (41 : Int32))), (.ref b7)])) ?_ (fun t k => XS.iload X26.here hx rfl (hb hby at_800) rfl k)
      obtain ⟨cl27, Ar27, SA27, NA27, HA27⟩ := id Y26
      have hin27 : ¬ (((p3 &&& (2147483647 : Int32)) % (41 : Int32)) < 0 ∨ cl27.slots.size ≤ (((p3 &&& (2147483647 : Int32)) % (41 : Int32))).toNatClampNeg) := inb_of SA27 ⟨(own_mod p3 (41 : Int32) (by decide +kernel)).1, (own_mod p3 (41 : Int32) (by decide +kernel)).2⟩
      obtain ⟨T27, h27, X27, e27, W27, st27⟩ := stC X26 hx hZ e26 Ar27 (j := ((p3 &&& (2147483647 : Int32)) % (41 : Int32))) hin27 (g := (mkF m 802 #[.val (.int p1), .val (.int p2), .val (.int p3), .val (.int p4), .val (.int p5), .val (.int p6), .val (.int (own_i2c p6)), .val (.int (own_i2c p4)), .val (.int (own_i2c p5)), .val (.ref b1), .val (.ref b4), .val (.ref b7), .val (.int (p1 &&& (3 : Int32))), .val (.ref b7), .val (.int (41 : Int32)), .val (.int ((p2 &&& (2147483647 : Int32)) % (41 : Int32))), .val (.int ((p3 &&& (2147483647 : Int32)) % (41 : Int32))), .unset, .unset] [(.int (own_i2c p5)), (.int ((p3 &&& (2147483647 : Int32)) % (41 : Int32))), (.ref b7)])) rfl rfl (hb hby at_802)
      have Y27 := Afn.put Ar27 SA27 NA27 HA27 W27 (own_mod p3 (41 : Int32) (by decide +kernel)).1
      have Z27 : n0 ≤ h27.size := Nat.le_trans Z26 (Keep.of_wr W27).1
      have N27 := Fr.snoc X27 N26 g_b7
      refine Gen.on (b := T27.setTop (mkF m 803 #[.val (.int p1), .val (.int p2), .val (.int p3), .val (.int p4), .val (.int p5), .val (.int p6), .val (.int (own_i2c p6)), .val (.int (own_i2c p4)), .val (.int (own_i2c p5)), .val (.ref b1), .val (.ref b4), .val (.ref b7), .val (.int (p1 &&& (3 : Int32))), .val (.ref b7), .val (.int (41 : Int32)), .val (.int ((p2 &&& (2147483647 : Int32)) % (41 : Int32))), .val (.int ((p3 &&& (2147483647 : Int32)) % (41 : Int32))), .unset, .unset] [])) ?_ (fun t k => st27 t k)
      refine Gen.on (b := T27.setTop (mkF m 805 #[.val (.int p1), .val (.int p2), .val (.int p3), .val (.int p4), .val (.int p5), .val (.int p6), .val (.int (own_i2c p6)), .val (.int (own_i2c p4)), .val (.int (own_i2c p5)), .val (.ref b1), .val (.ref b4), .val (.ref b7), .val (.int (p1 &&& (3 : Int32))), .val (.ref b7), .val (.int (41 : Int32)), .val (.int ((p2 &&& (2147483647 : Int32)) % (41 : Int32))), .val (.int ((p3 &&& (2147483647 : Int32)) % (41 : Int32))), .unset, .unset] [(.int (41 : Int32))])) ?_ (fun t k => XS.iload X27.here hx rfl (hb hby at_803) rfl k)
      refine Gen.on (b := T27.setTop (mkF m 807 #[.val (.int p1), .val (.int p2), .val (.int p3), .val (.int p4), .val (.int p5), .val (.int p6), .val (.int (own_i2c p6)), .val (.int (own_i2c p4)), .val (.int (own_i2c p5)), .val (.ref b1), .val (.ref b4), .val (.ref b7), .val (.int (p1 &&& (3 : Int32))), .val (.ref b7), .val (.int (41 : Int32)), .val (.int ((p2 &&& (2147483647 : Int32)) % (41 : Int32))), .val (.int ((p3 &&& (2147483647 : Int32)) % (41 : Int32))), .unset, .unset] [(.int (40 : Int32)), (.int (41 : Int32))])) ?_ (fun t k => XS.bipush X27.here hx rfl (hb hby at_805) k)
      refine Gen.on (b := T27.setTop (mkF m 845 #[.val (.int p1), .val (.int p2), .val (.int p3), .val (.int p4), .val (.int p5), .val (.int p6), .val (.int (own_i2c p6)), .val (.int (own_i2c p4)), .val (.int (own_i2c p5)), .val (.ref b1), .val (.ref b4), .val (.ref b7), .val (.int (p1 &&& (3 : Int32))), .val (.ref b7), .val (.int (41 : Int32)), .val (.int ((p2 &&& (2147483647 : Int32)) % (41 : Int32))), .val (.int ((p3 &&& (2147483647 : Int32)) % (41 : Int32))), .unset, .unset] [])) ?_ (fun t k => XS.icmpYes X27.here hx rfl (pc0 := 807) (pc' := 845) rfl (hb hby at_807) rfl (feq (by decide : ¬ ((41 : Int32) = (40 : Int32)))).2 (by decide) (by decide) k)
      refine Gen.on (b := T27.setTop (mkF m 846 #[.val (.int p1), .val (.int p2), .val (.int p3), .val (.int p4), .val (.int p5), .val (.int p6), .val (.int (own_i2c p6)), .val (.int (own_i2c p4)), .val (.int (own_i2c p5)), .val (.ref b1), .val (.ref b4), .val (.ref b7), .val (.int (p1 &&& (3 : Int32))), .val (.ref b7), .val (.int (41 : Int32)), .val (.int ((p2 &&& (2147483647 : Int32)) % (41 : Int32))), .val (.int ((p3 &&& (2147483647 : Int32)) % (41 : Int32))), .unset, .unset] [(.int (0 : Int32))])) ?_ (fun t k => XS.iconst X27.here hx rfl (hb hby at_845) k)
      refine Gen.on (b := T27.setTop (mkF m 848 #[.val (.int p1), .val (.int p2), .val (.int p3), .val (.int p4), .val (.int p5), .val (.int p6), .val (.int (own_i2c p6)), .val (.int (own_i2c p4)), .val (.int (own_i2c p5)), .val (.ref b1), .val (.ref b4), .val (.ref b7), .val (.int (p1 &&& (3 : Int32))), .val (.ref b7), .val (.int (41 : Int32)), .val (.int ((p2 &&& (2147483647 : Int32)) % (41 : Int32))), .val (.int ((p3 &&& (2147483647 : Int32)) % (41 : Int32))), .val (.int (0 : Int32)), .unset] [])) ?_ (fun t k => XS.istore X27.here hx rfl (hb hby at_846) rfl (l' := #[.val (.int p1), .val (.int p2), .val (.int p3), .val (.int p4), .val (.int p5), .val (.int p6), .val (.int (own_i2c p6)), .val (.int (own_i2c p4)), .val (.int (own_i2c p5)), .val (.ref b1), .val (.ref b4), .val (.ref b7), .val (.int (p1 &&& (3 : Int32))), .val (.ref b7), .val (.int (41 : Int32)), .val (.int ((p2 &&& (2147483647 : Int32)) % (41 : Int32))), .val (.int ((p3 &&& (2147483647 : Int32)) % (41 : Int32))), .val (.int (0 : Int32)), .unset]) rfl k)
      have fa29 := ((((fa8.ext E7).keep Kc10 (ninS ne_b1_b7 nin0)).other W26 ne_b1_b7).other W27 ne_b1_b7)
      have fa30 := ((((Y6.ext E7).keep Kc10 (ninS ne_b4_b7 nin0)).other W26 ne_b4_b7).other W27 ne_b4_b7)
      obtain ⟨b28, g28⟩ : ∃ z, z = h27.size := ⟨_, rfl⟩
      have ne_b1_b28 : b1 ≠ b28 := Nat.ne_of_lt (Nat.lt_of_lt_of_le fa29.lt (Nat.le_of_eq g28.symm))
      have ne_b4_b28 : b4 ≠ b28 := Nat.ne_of_lt (Nat.lt_of_lt_of_le fa30.lt (Nat.le_of_eq g28.symm))
      have ne_b7_b28 : b7 ≠ b28 := Nat.ne_of_lt (Nat.lt_of_lt_of_le Y27.lt (Nat.le_of_eq g28.symm))
      have g_b28 : n0 ≤ b28 := Nat.le_trans Z27 (Nat.le_of_eq g28.symm)
      obtain ⟨T28, h28, X28, e28, E28, A28, D28, -, st28⟩ := newO X27 hx hZ hown (hw _ (List.mem_of_getElem? (i := 6) rfl)) (hw _ (List.mem_of_getElem? (i := 7) rfl)) (hw _ (List.mem_of_getElem? (i := 8) rfl)) e27 (g := (mkF m 848 #[.val (.int p1), .val (.int p2), .val (.int p3), .val (.int p4), .val (.int p5), .val (.int p6), .val (.int (own_i2c p6)), .val (.int (own_i2c p4)), .val (.int (own_i2c p5)), .val (.ref b1), .val (.ref b4), .val (.ref b7), .val (.int (p1 &&& (3 : Int32))), .val (.ref b7), .val (.int (41 : Int32)), .val (.int ((p2 &&& (2147483647 : Int32)) % (41 : Int32))), .val (.int ((p3 &&& (2147483647 : Int32)) % (41 : Int32))), .val (.int (0 : Int32)), .unset] [])) rfl (hb hby at_848) (by decide) (by decide)
      rw [← g28] at A28 D28 st28
      have Z28 : n0 ≤ h28.size := Nat.le_trans Z27 E28.1
      have F28_coder : Fld Z h28 b28 "java/lang/String" "coder" "B" (.int (0 : Int32)) := D28 (Or.inr (hw _ (List.mem_of_getElem? (i := 32) rfl))) (ty := .byte) (by decide)
      have F28_value : Fld Z h28 b28 "java/lang/String" "value" "[B" .null := D28 (Or.inr (hw _ (List.mem_of_getElem? (i := 34) rfl))) (ty := (.array .byte)) (by decide)
      refine Gen.on (b := T28.setTop (mkF m 851 #[.val (.int p1), .val (.int p2), .val (.int p3), .val (.int p4), .val (.int p5), .val (.int p6), .val (.int (own_i2c p6)), .val (.int (own_i2c p4)), .val (.int (own_i2c p5)), .val (.ref b1), .val (.ref b4), .val (.ref b7), .val (.int (p1 &&& (3 : Int32))), .val (.ref b7), .val (.int (41 : Int32)), .val (.int ((p2 &&& (2147483647 : Int32)) % (41 : Int32))), .val (.int ((p3 &&& (2147483647 : Int32)) % (41 : Int32))), .val (.int (0 : Int32)), .unset] [(.ref b28)])) ?_ (fun t k => st28 t k)
      refine Gen.on (b := T28.setTop (mkF m 852 #[.val (.int p1), .val (.int p2), .val (.int p3), .val (.int p4), .val (.int p5), .val (.int p6), .val (.int (own_i2c p6)), .val (.int (own_i2c p4)), .val (.int (own_i2c p5)), .val (.ref b1), .val (.ref b4), .val (.ref b7), .val (.int (p1 &&& (3 : Int32))), .val (.ref b7), .val (.int (41 : Int32)), .val (.int ((p2 &&& (2147483647 : Int32)) % (41 : Int32))), .val (.int ((p3 &&& (2147483647 : Int32)) % (41 : Int32))), .val (.int (0 : Int32)), .unset] [(.ref b28), (.ref b28)])) ?_ (fun t k => XS.dup X28.here hx rfl (hb hby at_851) rfl rfl k)
      refine Gen.on (b := T28.setTop (mkF m 854 #[.val (.int p1), .val (.int p2), .val (.int p3), .val (.int p4), .val (.int p5), .val (.int p6), .val (.int (own_i2c p6)), .val (.int (own_i2c p4)), .val (.int (own_i2c p5)), .val (.ref b1), .val (.ref b4), .val (.ref b7), .val (.int (p1 &&& (3 : Int32))), .val (.ref b7), .val (.int (41 : Int32)), .val (.int ((p2 &&& (2147483647 : Int32)) % (41 : Int32))), .val (.int ((p3 &&& (2147483647 : Int32)) % (41 : Int32))), .val (.int (0 : Int32)), .unset] [(.ref b7), (.ref b28), (.ref b28)])) ?_ (fun t k => XS.aload X28.here hx rfl (hb hby at_852) rfl rfl k)
      have fa32 := (Y27.ext E28)
      have fa33 := (((((((((OL.ext E1).keep Kc3 (allS g_b1 all0)).ext E4).keep Kc6 (allS g_b4 all0)).ext E7).keep Kc10 (allS g_b7 all0)).wr W26 g_b7).wr W27 g_b7).ext E28)
      obtain ⟨_, _, ⟨T31, L31, k31, n31⟩, -, X31, ⟨Lc31, hQ31, l31, y31, z31⟩, st31⟩ := X28.specialBack hx (y := (⟨"java/lang/String", "<init>", "([C)V"⟩ : MethodName)) rfl hown (mvT hZ (hw _ (List.mem_of_getElem? (i := 9) rfl))) (mvT hZ (hw _ (List.mem_of_getElem? (i := 10) rfl))) (mvT hZ (hw _ (List.mem_of_getElem? (i := 11) rfl))) (by decide) (backOf (W := 1) (rm2 l Z a0 hw [] b28 b7 .null (.int (0 : Int32)) (41 : Int32) (own_Y p6 p4 p5 ((p2 &&& (2147483647 : Int32)) % (41 : Int32)) ((p3 &&& (2147483647 : Int32)) % (41 : Int32))) (82 : Int32) w0 f0 h28 n0 Z28 A28 F28_value F28_coder fa32 fa33 g_b28 (sts) (by decide) (by decide) (by decide +kernel) (by decide) (by decide +kernel) (by decide +kernel) (by decide +kernel) (by decide +kernel) (own_Yb _ _ _ _ _ _) (by decide)) hZ (hw _ (List.mem_of_getElem? (i := 11) rfl)) (hw _ (List.mem_of_getElem? (i := 8) rfl)) (by decide) (by decide)) (g := (mkF m 854 #[.val (.int p1), .val (.int p2), .val (.int p3), .val (.int p4), .val (.int p5), .val (.int p6), .val (.int (own_i2c p6)), .val (.int (own_i2c p4)), .val (.int (own_i2c p5)), .val (.ref b1), .val (.ref b4), .val (.ref b7), .val (.int (p1 &&& (3 : Int32))), .val (.ref b7), .val (.int (41 : Int32)), .val (.int ((p2 &&& (2147483647 : Int32)) % (41 : Int32))), .val (.int ((p3 &&& (2147483647 : Int32)) % (41 : Int32))), .val (.int (0 : Int32)), .unset] [(.ref b7), (.ref b28), (.ref b28)])) rfl (by rw [hml]; rfl) (Steps.refl _) (a := b28) (argsL := [(.ref b7)]) (rest := [(.ref b28)]) (lenOf pd_0_0 rfl) rfl (by show 2 * 0 + _ ≤ _; exact Nat.le_of_eq rfl) (hb hby at_854) (fun _ _ => ⟨rfl, e28, (by decide : 4 + 2 ≤ _), (by decide : 124 + 123 ≤ _)⟩)
      dsimp only [Pt.U, Pt.locs, Pt.cells, Pt.slots] at X31 l31 y31 z31 st31 hQ31
      subst l31 y31 z31
      obtain ⟨rfl, N31q, Kc31, hf31_0, hf31_1⟩ := hQ31
      have N31 := Fr.app N27 N31q
      have Z31 : n0 ≤ T31.heap.size := Nat.le_trans Z28 Kc31.1
      refine Gen.on (b := T31.setTop (mkF m 857 #[.val (.int p1), .val (.int p2), .val (.int p3), .val (.int p4), .val (.int p5), .val (.int p6), .val (.int (own_i2c p6)), .val (.int (own_i2c p4)), .val (.int (own_i2c p5)), .val (.ref b1), .val (.ref b4), .val (.ref b7), .val (.int (p1 &&& (3 : Int32))), .val (.ref b7), .val (.int (41 : Int32)), .val (.int ((p2 &&& (2147483647 : Int32)) % (41 : Int32))), .val (.int ((p3 &&& (2147483647 : Int32)) % (41 : Int32))), .val (.int (0 : Int32)), .unset] [(.ref b28)])) ?_ (fun t k => st31.trans k)
      refine Gen.on (b := T31.setTop (mkF m 859 #[.val (.int p1), .val (.int p2), .val (.int p3), .val (.int p4), .val (.int p5), .val (.int p6), .val (.int (own_i2c p6)), .val (.int (own_i2c p4)), .val (.int (own_i2c p5)), .val (.ref b1), .val (.ref b4), .val (.ref b7), .val (.int (p1 &&& (3 : Int32))), .val (.ref b7), .val (.int (41 : Int32)), .val (.int ((p2 &&& (2147483647 : Int32)) % (41 : Int32))), .val (.int ((p3 &&& (2147483647 : Int32)) % (41 : Int32))), .val (.int (0 : Int32)), .val (.ref b28)] [])) ?_ (fun t k => XS.astore X31.here hx rfl (hb hby at_857) rfl rfl (l' := #[.val (.int p1), .val (.int p2), .val (.int p3), .val (.int p4), .val (.int p5), .val (.int p6), .val (.int (own_i2c p6)), .val (.int (own_i2c p4)), .val (.int (own_i2c p5)), .val (.ref b1), .val (.ref b4), .val (.ref b7), .val (.int (p1 &&& (3 : Int32))), .val (.ref b7), .val (.int (41 : Int32)), .val (.int ((p2 &&& (2147483647 : Int32)) % (41 : Int32))), .val (.int ((p3 &&& (2147483647 : Int32)) % (41 : Int32))), .val (.int (0 : Int32)), .val (.ref b28)]) rfl k)
      refine Gen.on (b := T31.setTop (mkF m 861 #[.val (.int p1), .val (.int p2), .val (.int p3), .val (.int p4), .val (.int p5), .val (.int p6), .val (.int (own_i2c p6)), .val (.int (own_i2c p4)), .val (.int (own_i2c p5)), .val (.ref b1), .val (.ref b4), .val (.ref b7), .val (.int (p1 &&& (3 : Int32))), .val (.ref b7), .val (.int (41 : Int32)), .val (.int ((p2 &&& (2147483647 : Int32)) % (41 : Int32))), .val (.int ((p3 &&& (2147483647 : Int32)) % (41 : Int32))), .val (.int (0 : Int32)), .val (.ref b28)] [(.ref b28)])) ?_ (fun t k => XS.aload X31.here hx rfl (hb hby at_859) rfl rfl k)
      have fa35 := (fa33.keep Kc31 (allS g_b28 all0))
      obtain ⟨_, _, ⟨T34, L34, k34, n34⟩, -, X34, ⟨Lc34, hQ34, l34, y34, z34⟩, st34⟩ := Jvm.LawKit.callS X31 hx (y := (⟨"com/example/bandwarden/bandwarden/protocol/Sha1", "isHex", "(Ljava/lang/String;)Z"⟩ : MethodName)) hown (mvT hZ (hw _ (List.mem_of_getElem? (i := 35) rfl))) (mvT hZ (hw _ (List.mem_of_getElem? (i := 36) rfl))) (mvT hZ (hw _ (List.mem_of_getElem? (i := 37) rfl))) (mvT hZ (hw _ (List.mem_of_getElem? (i := 38) rfl))) (by decide) (backOf (W := 0) (rm8 l Z a0 hw [] b28 (41 : Int32) (own_Y p6 p4 p5 ((p2 &&& (2147483647 : Int32)) % (41 : Int32)) ((p3 &&& (2147483647 : Int32)) % (41 : Int32))) w0 f0 T31.heap n0 Z31 hf31_0 hf31_1 fa35 sts) hZ (hw _ (List.mem_of_getElem? (i := 38) rfl)) (hw _ (List.mem_of_getElem? (i := 37) rfl)) (by decide) (by decide)) (g := (mkF m 861 #[.val (.int p1), .val (.int p2), .val (.int p3), .val (.int p4), .val (.int p5), .val (.int p6), .val (.int (own_i2c p6)), .val (.int (own_i2c p4)), .val (.int (own_i2c p5)), .val (.ref b1), .val (.ref b4), .val (.ref b7), .val (.int (p1 &&& (3 : Int32))), .val (.ref b7), .val (.int (41 : Int32)), .val (.int ((p2 &&& (2147483647 : Int32)) % (41 : Int32))), .val (.int ((p3 &&& (2147483647 : Int32)) % (41 : Int32))), .val (.int (0 : Int32)), .val (.ref b28)] [(.ref b28)])) rfl (by rw [hml]; rfl) (argsL := [(.ref b28)]) (rest := []) (lenOf pd_0_1 rfl) rfl (by show 2 * 0 + _ ≤ _; exact Nat.le_of_eq rfl) (hb hby at_861) (fun _ _ => ⟨rfl, rfl, (by decide : 6 + 0 ≤ _), (by decide : 247 + 0 ≤ _)⟩)
      dsimp only [Pt.U, Pt.locs, Pt.cells, Pt.slots] at X34 l34 y34 z34 st34 hQ34
      subst l34 y34 z34
      obtain ⟨r34, rfl, N34q, e34, hH34⟩ := hQ34
      have N34 := Fr.app N31 N34q
      rcases hH34 with ⟨rfl, hz, hall⟩ | ⟨rfl, hno⟩
      · exact absurd hz (by decide)
      · refine Gen.on (b := T34.setTop (mkF m 864 #[.val (.int p1), .val (.int p2), .val (.int p3), .val (.int p4), .val (.int p5), .val (.int p6), .val (.int (own_i2c p6)), .val (.int (own_i2c p4)), .val (.int (own_i2c p5)), .val (.ref b1), .val (.ref b4), .val (.ref b7), .val (.int (p1 &&& (3 : Int32))), .val (.ref b7), .val (.int (41 : Int32)), .val (.int ((p2 &&& (2147483647 : Int32)) % (41 : Int32))), .val (.int ((p3 &&& (2147483647 : Int32)) % (41 : Int32))), .val (.int (0 : Int32)), .val (.ref b28)] [(.int (0 : Int32))])) ?_ (fun t k => st34 t k)
        refine Gen.on (b := T34.setTop (mkF m 866 #[.val (.int p1), .val (.int p2), .val (.int p3), .val (.int p4), .val (.int p5), .val (.int p6), .val (.int (own_i2c p6)), .val (.int (own_i2c p4)), .val (.int (own_i2c p5)), .val (.ref b1), .val (.ref b4), .val (.ref b7), .val (.int (p1 &&& (3 : Int32))), .val (.ref b7), .val (.int (41 : Int32)), .val (.int ((p2 &&& (2147483647 : Int32)) % (41 : Int32))), .val (.int ((p3 &&& (2147483647 : Int32)) % (41 : Int32))), .val (.int (0 : Int32)), .val (.ref b28)] [(.int (0 : Int32)), (.int (0 : Int32))])) ?_ (fun t k => XS.iload X34.here hx rfl (hb hby at_864) rfl k)
        refine Gen.on (b := T34.setTop (mkF m 869 #[.val (.int p1), .val (.int p2), .val (.int p3), .val (.int p4), .val (.int p5), .val (.int p6), .val (.int (own_i2c p6)), .val (.int (own_i2c p4)), .val (.int (own_i2c p5)), .val (.ref b1), .val (.ref b4), .val (.ref b7), .val (.int (p1 &&& (3 : Int32))), .val (.ref b7), .val (.int (41 : Int32)), .val (.int ((p2 &&& (2147483647 : Int32)) % (41 : Int32))), .val (.int ((p3 &&& (2147483647 : Int32)) % (41 : Int32))), .val (.int (0 : Int32)), .val (.ref b28)] [])) ?_ (fun t k => XS.icmpNo X34.here hx rfl (hb hby at_866) rfl (teq (by decide : (0 : Int32) = (0 : Int32))).2 k)
        refine Gen.on (b := T34.setTop (mkF m 870 #[.val (.int p1), .val (.int p2), .val (.int p3), .val (.int p4), .val (.int p5), .val (.int p6), .val (.int (own_i2c p6)), .val (.int (own_i2c p4)), .val (.int (own_i2c p5)), .val (.ref b1), .val (.ref b4), .val (.ref b7), .val (.int (p1 &&& (3 : Int32))), .val (.ref b7), .val (.int (41 : Int32)), .val (.int ((p2 &&& (2147483647 : Int32)) % (41 : Int32))), .val (.int ((p3 &&& (2147483647 : Int32)) % (41 : Int32))), .val (.int (0 : Int32)), .val (.ref b28)] [(.int (1 : Int32))])) ?_ (fun t k => XS.iconst X34.here hx rfl (hb hby at_869) k)
        refine Gen.on (b := T34.setTop (mkF m 874 #[.val (.int p1), .val (.int p2), .val (.int p3), .val (.int p4), .val (.int p5), .val (.int p6), .val (.int (own_i2c p6)), .val (.int (own_i2c p4)), .val (.int (own_i2c p5)), .val (.ref b1), .val (.ref b4), .val (.ref b7), .val (.int (p1 &&& (3 : Int32))), .val (.ref b7), .val (.int (41 : Int32)), .val (.int ((p2 &&& (2147483647 : Int32)) % (41 : Int32))), .val (.int ((p3 &&& (2147483647 : Int32)) % (41 : Int32))), .val (.int (0 : Int32)), .val (.ref b28)] [(.int (1 : Int32))])) ?_ (fun t k => XS.goto X34.here hx rfl (pc0 := 870) (pc' := 874) rfl (hb hby at_870) (by decide) (by decide) k)
        refine own_retN (t := .boolean) X34 hx Bd.returns (by simp) (by decide) (hb hby at_874) (by decide) (by decide) ?_
        exact ⟨rfl, N34⟩
    · refine Gen.on (b := T10.setTop (mkF m 766 #[.val (.int p1), .val (.int p2), .val (.int p3), .val (.int p4), .val (.int p5), .val (.int p6), .val (.int (own_i2c p6)), .val (.int (own_i2c p4)), .val (.int (own_i2c p5)), .val (.ref b1), .val (.ref b4), .val (.ref b7), .val (.int (p1 &&& (3 : Int32))), .val (.ref b4), .unset, .unset, .unset, .unset, .unset] [])) ?_ (fun t k => XS.icmpYes X10.here hx rfl (pc0 := 759) (pc' := 766) rfl (hb hby at_759) rfl (feq c759_2).2 (by decide) (by decide) k)
      have fa36 := ((Y6.ext E7).keep Kc10 (ninS ne_b4_b7 nin0))
      have Yc37 : Afn Z h10 b4 .char (40 : Int32) (fun _ => (nar .char (own_i2c p6))) := Afn.congr fa36 (fun j _ h2 => by unfold own_pre; exact if_pos h2)
      refine Gen.on (b := T10.setTop (mkF m 768 #[.val (.int p1), .val (.int p2), .val (.int p3), .val (.int p4), .val (.int p5), .val (.int p6), .val (.int (own_i2c p6)), .val (.int (own_i2c p4)), .val (.int (own_i2c p5)), .val (.ref b1), .val (.ref b4), .val (.ref b7), .val (.int (p1 &&& (3 : Int32))), .val (.ref b4), .unset, .unset, .unset, .unset, .unset] [(.ref b4)])) ?_ (fun t k => XS.aload X10.here hx rfl (hb hby at_766) rfl rfl k)
      obtain ⟨cl38, Ar38, SA38, NA38, HA38⟩ := id Yc37
      refine Gen.on (b := T10.setTop (mkF m 769 #[.val (.int p1), .val (.int p2), .val (.int p3), .val (.int p4), .val (.int p5), .val (.int p6), .val (.int (own_i2c p6)), .val (.int (own_i2c p4)), .val (.int (own_i2c p5)), .val (.ref b1), .val (.ref b4), .val (.ref b7), .val (.int (p1 &&& (3 : Int32))), .val (.ref b4), .unset, .unset, .unset, .unset, .unset] [(.int (40 : Int32))])) ?_ (fun t k => X10.arraylength hx (by rw [e10]; exact Ar38.1) (State.isArrayOf_alike hZ.alike Ar38.2.1) (g := (mkF m 768 #[.val (.int p1), .val (.int p2), .val (.int p3), .val (.int p4), .val (.int p5), .val (.int p6), .val (.int (own_i2c p6)), .val (.int (own_i2c p4)), .val (.int (own_i2c p5)), .val (.ref b1), .val (.ref b4), .val (.ref b7), .val (.int (p1 &&& (3 : Int32))), .val (.ref b4), .unset, .unset, .unset, .unset, .unset] [(.ref b4)])) rfl rfl (hb hby at_768) t (by rw [len_of SA38 NA38]; exact k))
      refine Gen.on (b := T10.setTop (mkF m 771 #[.val (.int p1), .val (.int p2), .val (.int p3), .val (.int p4), .val (.int p5), .val (.int p6), .val (.int (own_i2c p6)), .val (.int (own_i2c p4)), .val (.int (own_i2c p5)), .val (.ref b1), .val (.ref b4), .val (.ref b7), .val (.int (p1 &&& (3 : Int32))), .val (.ref b4), .val (.int (40 : Int32)), .unset, .unset, .unset, .unset] [])) ?_ (fun t k => XS.istore X10.here hx rfl (hb hby at_769) rfl (l' := #[.val (.int p1), .val (.int p2), .val (.int p3), .val (.int p4), .val (.int p5), .val (.int p6), .val (.int (own_i2c p6)), .val (.int (own_i2c p4)), .val (.int (own_i2c p5)), .val (.ref b1), .val (.ref b4), .val (.ref b7), .val (.int (p1 &&& (3 : Int32))), .val (.ref b4), .val (.int (40 : Int32)), .unset, .unset, .unset, .unset]) rfl k)
      refine Gen.on (b := T10.setTop (mkF m 772 #[.val (.int p1), .val (.int p2), .val (.int p3), .val (.int p4), .val (.int p5), .val (.int p6), .val (.int (own_i2c p6)), .val (.int (own_i2c p4)), .val (.int (own_i2c p5)), .val (.ref b1), .val (.ref b4), .val (.ref b7), .val (.int (p1 &&& (3 : Int32))), .val (.ref b4), .val (.int (40 : Int32)), .unset, .unset, .unset, .unset] [(.int p2)])) ?_ (fun t k => XS.iloadN X10.here hx rfl (hb hby at_771) rfl k)
      refine Gen.on (b := T10.setTop (mkF m 774 #[.val (.int p1), .val (.int p2), .val (.int p3), .val (.int p4), .val (.int p5), .val (.int p6), .val (.int (own_i2c p6)), .val (.int (own_i2c p4)), .val (.int (own_i2c p5)), .val (.ref b1), .val (.ref b4), .val (.ref b7), .val (.int (p1 &&& (3 : Int32))), .val (.ref b4), .val (.int (40 : Int32)), .unset, .unset, .unset, .unset] [(.int (2147483647 : Int32)), (.int p2)])) ?_ (fun t k => X10.ldcInt hx hown (mvT hZ (hw _ (List.mem_of_getElem? (i := 1) rfl))) (g := (mkF m 772 #[.val (.int p1), .val (.int p2), .val (.int p3), .val (.int p4), .val (.int p5), .val (.int p6), .val (.int (own_i2c p6)), .val (.int (own_i2c p4)), .val (.int (own_i2c p5)), .val (.ref b1), .val (.ref b4), .val (.ref b7), .val (.int (p1 &&& (3 : Int32))), .val (.ref b4), .val (.int (40 : Int32)), .unset, .unset, .unset, .unset] [(.int p2)])) rfl (hb hby at_772) t k)
      refine Gen.on (b := T10.setTop (mkF m 775 #[.val (.int p1), .val (.int p2), .val (.int p3), .val (.int p4), .val (.int p5), .val (.int p6), .val (.int (own_i2c p6)), .val (.int (own_i2c p4)), .val (.int (own_i2c p5)), .val (.ref b1), .val (.ref b4), .val (.ref b7), .val (.int (p1 &&& (3 : Int32))), .val (.ref b4), .val (.int (40 : Int32)), .unset, .unset, .unset, .unset] [(.int (p2 &&& (2147483647 : Int32)))])) ?_ (fun t k => XS.iand X10.here hx rfl (hb hby at_774) rfl k)
      refine Gen.on (b := T10.setTop (mkF m 777 #[.val (.int p1), .val (.int p2), .val (.int p3), .val (.int p4), .val (.int p5), .val (.int p6), .val (.int (own_i2c p6)), .val (.int (own_i2c p4)), .val (.int (own_i2c p5)), .val (.ref b1), .val (.ref b4), .val (.ref b7), .val (.int (p1 &&& (3 : Int32))), .val (.ref b4), .val (.int (40 : Int32)), .unset, .unset, .unset, .unset] [(.int (40 : Int32)), (.int (p2 &&& (2147483647 : Int32)))])) ?_ (fun t k => XS.iload X10.here hx rfl (hb hby at_775) rfl k)
      refine Gen.on (b := T10.setTop (mkF m 778 #[.val (.int p1), .val (.int p2), .val (.int p3), .val (.int p4), .val (.int p5), .val (.int p6), .val (.int (own_i2c p6)), .val (.int (own_i2c p4)), .val (.int (own_i2c p5)), .val (.ref b1), .val (.ref b4), .val (.ref b7), .val (.int (p1 &&& (3 : Int32))), .val (.ref b4), .val (.int (40 : Int32)), .unset, .unset, .unset, .unset] [(.int ((p2 &&& (2147483647 : Int32)) % (40 : Int32)))])) ?_ (fun t k => iremM X10 hx rfl (hb hby at_777) rfl (by decide) k)
      refine Gen.on (b := T10.setTop (mkF m 780 #[.val (.int p1), .val (.int p2), .val (.int p3), .val (.int p4), .val (.int p5), .val (.int p6), .val (.int (own_i2c p6)), .val (.int (own_i2c p4)), .val (.int (own_i2c p5)), .val (.ref b1), .val (.ref b4), .val (.ref b7), .val (.int (p1 &&& (3 : Int32))), .val (.ref b4), .val (.int (40 : Int32)), .val (.int ((p2 &&& (2147483647 : Int32)) % (40 : Int32))), .unset, .unset, .unset] [])) ?_ (fun t k => XS.istore X10.here hx rfl (hb hby at_778) rfl (l' := #[.val (.int p1), .val (.int p2), .val (.int p3), .val (.int p4), .val (.int p5), .val (.int p6), .val (.int (own_i2c p6)), .val (.int (own_i2c p4)), .val (.int (own_i2c p5)), .val (.ref b1), .val (.ref b4), .val (.ref b7), .val (.int (p1 &&& (3 : Int32))), .val (.ref b4), .val (.int (40 : Int32)), .val (.int ((p2 &&& (2147483647 : Int32)) % (40 : Int32))), .unset, .unset, .unset]) rfl k)
      refine Gen.on (b := T10.setTop (mkF m 781 #[.val (.int p1), .val (.int p2), .val (.int p3), .val (.int p4), .val (.int p5), .val (.int p6), .val (.int (own_i2c p6)), .val (.int (own_i2c p4)), .val (.int (own_i2c p5)), .val (.ref b1), .val (.ref b4), .val (.ref b7), .val (.int (p1 &&& (3 : Int32))), .val (.ref b4), .val (.int (40 : Int32)), .val (.int ((p2 &&& (2147483647 : Int32)) % (40 : Int32))), .unset, .unset, .unset] [(.int p3)])) ?_ (fun t k => XS.iloadN X10.here hx rfl (hb hby at_780) rfl k)
      refine Gen.on (b := T10.setTop (mkF m 783 #[.val (.int p1), .val (.int p2), .val (.int p3), .val (.int p4), .val (.int p5), .val (.int p6), .val (.int (own_i2c p6)), .val (.int (own_i2c p4)), .val (.int (own_i2c p5)), .val (.ref b1), .val (.ref b4), .val (.ref b7), .val (.int (p1 &&& (3 : Int32))), .val (.ref b4), .val (.int (40 : Int32)), .val (.int ((p2 &&& (2147483647 : Int32)) % (40 : Int32))), .unset, .unset, .unset] [(.int (2147483647 : Int32)), (.int p3)])) ?_ (fun t k => X10.ldcInt hx hown (mvT hZ (hw _ (List.mem_of_getElem? (i := 1) rfl))) (g := (mkF m 781 #[.val (.int p1), .val (.int p2), .val (.int p3), .val (.int p4), .val (.int p5), .val (.int p6), .val (.int (own_i2c p6)), .val (.int (own_i2c p4)), .val (.int (own_i2c p5)), .val (.ref b1), .val (.ref b4), .val (.ref b7), .val (.int (p1 &&& (3 : Int32))), .val (.ref b4), .val (.int (40 : Int32)), .val (.int ((p2 &&& (2147483647 : Int32)) % (40 : Int32))), .unset, .unset, .unset] [(.int p3)])) rfl (hb hby at_781) t k)
      refine Gen.on (b := T10.setTop (mkF m 784 #[.val (.int p1), .val (.int p2), .val (.int p3), .val (.int p4), .val (.int p5), .val (.int p6), .val (.int (own_i2c p6)), .val (.int (own_i2c p4)), .val (.int (own_i2c p5)), .val (.ref b1), .val (.ref b4), .val (.ref b7), .val (.int (p1 &&& (3 : Int32))), .val (.ref b4), .val (.int (40 : Int32)), .val (.int ((p2 &&& (2147483647 : Int32)) % (40 : Int32))), .unset, .unset, .unset] [(.int (p3 &&& (2147483647 : Int32)))])) ?_ (fun t k => XS.iand X10.here hx rfl (hb hby at_783) rfl k)
      refine Gen.on (b := T10.setTop (mkF m 786 #[.val (.int p1), .val (.int p2), .val (.int p3), .val (.int p4), .val (.int p5), .val (.int p6), .val (.int (own_i2c p6)), .val (.int (own_i2c p4)), .val (.int (own_i2c p5)), .val (.ref b1), .val (.ref b4), .val (.ref b7), .val (.int (p1 &&& (3 : Int32))), .val (.ref b4), .val (.int (40 : Int32)), .val (.int ((p2 &&& (2147483647 : Int32)) % (40 : Int32))), .unset, .unset, .unset] [(.int (40 : Int32)), (.int (p3 &&& (2147483647 : Int32)))])) ?_ (fun t k => XS.iload X10.here hx rfl (hb hby at_784) rfl k)
      refine Gen.on (b := T10.setTop (mkF m 787 #[.val (.int p1), .val (.int p2), .val (.int p3), .val (.int p4), .val (.int p5), .val (.int p6), .val (.int (own_i2c p6)), .val (.int (own_i2c p4)), .val (.int (own_i2c p5)), .val (.ref b1), .val (.ref b4), .val (.ref b7), .val (.int (p1 &&& (3 : Int32))), .val (.ref b4), .val (.int (40 : Int32)), .val (.int ((p2 &&& (2147483647 : Int32)) % (40 : Int32))), .unset, .unset, .unset] [(.int ((p3 &&& (2147483647 : Int32)) % (40 : Int32)))])) ?_ (fun t k => iremM X10 hx rfl (hb hby at_786) rfl (by decide) k)
      refine Gen.on (b := T10.setTop (mkF m 789 #[.val (.int p1), .val (.int p2), .val (.int p3), .val (.int p4), .val (.int p5), .val (.int p6), .val (.int (own_i2c p6)), .val (.int (own_i2c p4)), .val (.int (own_i2c p5)), .val (.ref b1), .val (.ref b4), .val (.ref b7), .val (.int (p1 &&& (3 : Int32))), .val (.ref b4), .val (.int (40 : Int32)), .val (.int ((p2 &&& (2147483647 : Int32)) % (40 : Int32))), .val (.int ((p3 &&& (2147483647 : Int32)) % (40 : Int32))), .unset, .unset] [])) ?_ (fun t k => XS.istore X10.here hx rfl (hb hby at_787) rfl (l' := #[.val (.int p1), .val (.int p2), .val (.int p3), .val (.int p4), .val (.int p5), .val (.int p6), .val (.int (own_i2c p6)), .val (.int (own_i2c p4)), .val (.int (own_i2c p5)), .val (.ref b1), .val (.ref b4), .val (.ref b7), .val (.int (p1 &&& (3 : Int32))), .val (.ref b4), .val (.int (40 : Int32)), .val (.int ((p2 &&& (2147483647 : Int32)) % (40 : Int32))), .val (.int ((p3 &&& (2147483647 : Int32)) % (40 : Int32))), .unset, .unset]) rfl k)
      refine Gen.on (b := T10.setTop (mkF m 791 #[.val (.int p1), .val (.int p2), .val (.int p3), .val (.int p4), .val (.int p5), .val (.int p6), .val (.int (own_i2c p6)), .val (.int (own_i2c p4)), .val (.int (own_i2c p5)), .val (.ref b1), .val (.ref b4), .val (.ref b7), .val (.int (p1 &&& (3 : Int32))), .val (.ref b4), .val (.int (40 : Int32)), .val (.int ((p2 &&& (2147483647 : Int32)) % (40 : Int32))), .val (.int ((p3 &&& (2147483647 : Int32)) % (40 : Int32))), .unset, .unset] [(.ref b4)])) ?_ (fun t k => XS.aload X10.here hx rfl (hb hby at_789) rfl rfl k)
      refine Gen.on (b := T10.setTop (mkF m 793 #[.val (.int p1), .val (.int p2), .val (.int p3), .val (.int p4), .val (.int p5), .val (.int p6), .val (.int (own_i2c p6)), .val (.int (own_i2c p4)), .val (.int (own_i2c p5)), .val (.ref b1), .val (.ref b4), .val (.ref b7), .val (.int (p1 &&& (3 : Int32))), .val (.ref b4), .val (.int (40 : Int32)), .val (.int ((p2 &&& (2147483647 : Int32)) % (40 : Int32))), .val (.int ((p3 &&& (2147483647 : Int32)) % (40 : Int32))), .unset, .unset] [(.int ((p2 &&& (2147483647 : Int32)) % (40 : Int32))), (.ref b4)])) ?_ (fun t k => XS.iload X10.here hx rfl (hb hby at_791) rfl k)
      refine Gen.on (b := T10.setTop (mkF m 795 #[.val (.int p1), .val (.int p2), .val (.int p3), .val (.int p4), .val (.int p5), .val (.int p6), .val (.int (own_i2c p6)), .val (.int (own_i2c p4)), .val (.int (own_i2c p5)), .val (.ref b1), .val (.ref b4), .val (.ref b7), .val (.int (p1 &&& (3 : Int32))), .val (.ref b4), .val (.int (40 : Int32)), .val (.int ((p2 &&& (2147483647 : Int32)) % (40 : Int32))), .val (.int ((p3 &&& (2147483647 : Int32)) % (40 : Int32))), .unset, .unset] [(.int (own_i2c p4)), (.int ((p2 &&& (2147483647 : Int32)) % (40 : Int32))), (.ref b4)])) ?_ (fun t k => XS.iload X10.here hx rfl (hb hby at_793) rfl k)
      obtain ⟨cl39, Ar39, SA39, NA39, HA39⟩ := id Yc37
      have hin39 : ¬ (((p2 &&& (2147483647 : Int32)) % (40 : Int32)) < 0 ∨ cl39.slots.size ≤ (((p2 &&& (2147483647 : Int32)) % (40 : Int32))).toNatClampNeg) := inb_of SA39 ⟨(own_mod p2 (40 : Int32) (by decide +kernel)).1, (own_mod p2 (40 : Int32) (by decide +kernel)).2⟩
      obtain ⟨T39, h39, X39, e39, W39, st39⟩ := stC X10 hx hZ e10 Ar39 (j := ((p2 &&& (2147483647 : Int32)) % (40 : Int32))) hin39 (g := (mkF m 795 #[.val (.int p1), .val (.int p2), .val (.int p3), .val (.int p4), .val (.int p5), .val (.int p6), .val (.int (own_i2c p6)), .val (.int (own_i2c p4)), .val (.int (own_i2c p5)), .val (.ref b1), .val (.ref b4), .val (.ref b7), .val (.int (p1 &&& (3 : Int32))), .val (.ref b4), .val (.int (40 : Int32)), .val (.int ((p2 &&& (2147483647 : Int32)) % (40 : Int32))), .val (.int ((p3 &&& (2147483647 : Int32)) % (40 : Int32))), .unset, .unset] [(.int (own_i2c p4)), (.int ((p2 &&& (2147483647 : Int32)) % (40 : Int32))), (.ref b4)])) rfl rfl (hb hby at_795)
      have Y39 := Afn.put Ar39 SA39 NA39 HA39 W39 (own_mod p2 (40 : Int32) (by decide +kernel)).1
      have Z39 : n0 ≤ h39.size := Nat.le_trans Z10 (Keep.of_wr W39).1
      have N39 := Fr.snoc X39 N10 g_b4
      refine Gen.on (b := T39.setTop (mkF m 796 #[.val (.int p1), .val (.int p2), .val (.int p3), .val (.int p4), .val (.int p5), .val (.int p6), .val (.int (own_i2c p6)), .val (.int (own_i2c p4)), .val (.int (own_i2c p5)), .val (.ref b1), .val (.ref b4), .val (.ref b7), .val (.int (p1 &&& (3 : Int32))), .val (.ref b4), .val (.int (40 : Int32)), .val (.int ((p2 &&& (2147483647 : Int32)) % (40 : Int32))), .val (.int ((p3 &&& (2147483647 : Int32)) % (40 : Int32))), .unset, .unset] [])) ?_ (fun t k => st39 t k)
      refine Gen.on (b := T39.setTop (mkF m 798 #[.val (.int p1), .val (.int p2), .val (.int p3), .val (.int p4), .val (.int p5), .val (.int p6), .val (.int (own_i2c p6)), .val (.int (own_i2c p4)), .val (.int (own_i2c p5)), .val (.ref b1), .val (.ref b4), .val (.ref b7), .val (.int (p1 &&& (3 : Int32))), .val (.ref b4), .val (.int (40 : Int32)), .val (.int ((p2 &&& (2147483647 : Int32)) % (40 : Int32))), .val (.int ((p3 &&& (2147483647 : Int32)) % (40 : Int32))), .unset, .unset] [(.ref b4)])) ?_ (fun t k => XS.aload X39.here hx rfl (hb hby at_796) rfl rfl k)
      refine Gen.on (b := T39.setTop (mkF m 800 #[.val (.int p1), .val (.int p2), .val (.int p3), .val (.int p4), .val (.int p5), .val (.int p6), .val (.int (own_i2c p6)), .val (.int (own_i2c p4)), .val (.int (own_i2c p5)), .val (.ref b1), .val (.ref b4), .val (.ref b7), .val (.int (p1 &&& (3 : Int32))), .val (.ref b4), .val (.int (40 : Int32)), .val (.int ((p2 &&& (2147483647 : Int32)) % (40 : Int32))), .val (.int ((p3 &&& (2147483647 : Int32)) % (40 : Int32))), .unset, .unset] [(.int ((p3 &&& (2147483647 : Int32)) % (40 : Int32))), (.ref b4)])) ?_ (fun t k => XS.iload X39.here hx rfl (hb hby at_798) rfl k)
      refine Gen.on (b := T39.setTop (mkF m 802 #[.val (.int p1), .val (.int p2), .val (.int p3), .val (.int p4), .val (.int p5), .val (.int p6), .val (.int (own_i2c p6)), .val (.int (own_i2c p4)), .val (.int (own_i2c p5)), .val (.ref b1), .val (.ref b4), .val (.ref b7), .val (.int (p1 &&& (3 : Int32))), .val (.ref b4), .val (.int (40 : Int32)), .val (.int ((p2 &&& (2147483647 : Int32)) % (40 : Int32))), .val (.int ((p3 &&& (2147483647 : Int32)) % (40 : Int32))), .unset, .unset] [(.int (own_i2c p5)), (.int ((p3 &&& (2147483647 : Int32)) % (40 : Int32))), (.ref b4)])) ?_ (fun t k => XS.iload X39.here hx rfl (hb hby at_800) rfl k)
      obtain ⟨cl40, Ar40, SA40, NA40, HA40⟩ := id Y39
      have hin40 : ¬ (((p3 &&& (2147483647 : Int32)) % (40 : Int32)) < 0 ∨ cl40.slots.size ≤ (((p3 &&& (2147483647 : Int32)) % (40 : Int32))).toNatClampNeg) := inb_of SA40 ⟨(own_mod p3 (40 : Int32) (by decide +kernel)).1, (own_mod p3 (40 : Int32) (by decide +kernel)).2⟩
      obtain ⟨T40, h40, X40, e40, W40, st40⟩ := stC X39 hx hZ e39 Ar40 (j := ((p3 &&& (2147483647 : Int32)) % (40 : Int32))) hin40 (g := (mkF m 802 #[.val (.int p1), .val (.int p2), .val (.int p3), .val (.int p4), .val (.int p5), .val (.int p6), .val (.int (own_i2c p6)), .val (.int (own_i2c p4)), .val (.int (own_i2c p5)), .val (.ref b1), .val (.ref b4), .val (.ref b7), .val (.int (p1 &&& (3 : Int32))), .val (.ref b4), .val (.int (40 : Int32)), .val (.int ((p2 &&& (2147483647 : Int32)) % (40 : Int32))), .val (.int ((p3 &&& (2147483647 : Int32)) % (40 : Int32))), .unset, .unset] [(.int (own_i2c p5)), (.int ((p3 &&& (2147483647 : Int32)) % (40 : Int32))), (.ref b4)])) rfl rfl (hb hby at_802)
      have Y40 := Afn.put Ar40 SA40 NA40 HA40 W40 (own_mod p3 (40 : Int32) (by decide +kernel)).1
      have Z40 : n0 ≤ h40.size := Nat.le_trans Z39 (Keep.of_wr W40).1
      have N40 := Fr.snoc X40 N39 g_b4
      refine Gen.on (b := T40.setTop (mkF m 803 #[.val (.int p1), .val (.int p2), .val (.int p3), .val (.int p4), .val (.int p5), .val (.int p6), .val (.int (own_i2c p6)), .val (.int (own_i2c p4)), .val (.int (own_i2c p5)), .val (.ref b1), .val (.ref b4), .val (.ref b7), .val (.int (p1 &&& (3 : Int32))), .val (.ref b4), .val (.int (40 : Int32)), .val (.int ((p2 &&& (2147483647 : Int32)) % (40 : Int32))), .val (.int ((p3 &&& (2147483647 : Int32)) % (40 : Int32))), .unset, .unset] [])) ?_ (fun t k => st40 t k)
      refine Gen.on (b := T40.setTop (mkF m 805 #[.val (.int p1), .val (.int p2), .val (.int p3), .val (.int p4), .val (.int p5), .val (.int p6), .val (.int (own_i2c p6)), .val (.int (own_i2c p4)), .val (.int (own_i2c p5)), .val (.ref b1), .val (.ref b4), .val (.ref b7), .val (.int (p1 &&& (3 : Int32))), .val (.ref b4), .val (.int (40 : Int32)), .val (.int ((p2 &&& (2147483647 : Int32)) % (40 : Int32))), .val (.int ((p3 &&& (2147483647 : Int32)) % (40 : Int32))), .unset, .unset] [(.int (40 : Int32))])) ?_ (fun t k => XS.iload X40.here hx rfl (hb hby at_803) rfl k)
      refine Gen.on (b := T40.setTop (mkF m 807 #[.val (.int p1), .val (.int p2), .val (.int p3), .val (.int p4), .val (.int p5), .val (.int p6), .val (.int (own_i2c p6)), .val (.int (own_i2c p4)), .val (.int (own_i2c p5)), .val (.ref b1), .val (.ref b4), .val (.ref b7), .val (.int (p1 &&& (3 : Int32))), .val (.ref b4), .val (.int (40 : Int32)), .val (.int ((p2 &&& (2147483647 : Int32)) % (40 : Int32))), .val (.int ((p3 &&& (2147483647 : Int32)) % (40 : Int32))), .unset, .unset] [(.int (40 : Int32)), (.int (40 : Int32))])) ?_ (fun t k => XS.bipush X40.here hx rfl (hb hby at_805) k)
      refine Gen.on (b := T40.setTop (mkF m 810 #[.val (.int p1), .val (.int p2), .val (.int p3), .val (.int p4), .val (.int p5), .val (.int p6), .val (.int (own_i2c p6)), .val (.int (own_i2c p4)), .val (.int (own_i2c p5)), .val (.ref b1), .val (.ref b4), .val (.ref b7), .val (.int (p1 &&& (3 : Int32))), .val (.ref b4), .val (.int (40 : Int32)), .val (.int ((p2 &&& (2147483647 : Int32)) % (40 : Int32))), .val (.int ((p3 &&& (2147483647 : Int32)) % (40 : Int32))), .unset, .unset] [])) ?_ (fun t k => XS.icmpNo X40.here hx rfl (hb hby at_807) rfl (teq (by decide : (40 : Int32) = (40 : Int32))).2 k)
      refine Gen.on (b := T40.setTop (mkF m 812 #[.val (.int p1), .val (.int p2), .val (.int p3), .val (.int p4), .val (.int p5), .val (.int p6), .val (.int (own_i2c p6)), .val (.int (own_i2c p4)), .val (.int (own_i2c p5)), .val (.ref b1), .val (.ref b4), .val (.ref b7), .val (.int (p1 &&& (3 : Int32))), .val (.ref b4), .val (.int (40 : Int32)), .val (.int ((p2 &&& (2147483647 : Int32)) % (40 : Int32))), .val (.int ((p3 &&& (2147483647 : Int32)) % (40 : Int32))), .unset, .unset] [(.int (own_i2c p6))])) ?_ (fun t k => XS.iload X40.here hx rfl (hb hby at_810) rfl k)
      obtain ⟨_, _, ⟨T41, L41, k41, n41⟩, -, X41, ⟨Lc41, hQ41, l41, y41, z41⟩, st41⟩ := Jvm.LawKit.callS X40 hx (y := (⟨"com/example/bandwarden/bandwarden/protocol/Sha1IsHexPinLaw", "ok", "(C)Z"⟩ : MethodName)) hown (mvT hZ (hw _ (List.mem_of_getElem? (i := 2) rfl))) (mvT hZ (hw _ (List.mem_of_getElem? (i := 3) rfl))) (mvT hZ (hw _ (List.mem_of_getElem? (i := 4) rfl))) (mvT hZ (hw _ (List.mem_of_getElem? (i := 5) rfl))) (by decide) (backOf (W := 0) (rm1 l Z a0 hw [] (own_i2c p6)  h40 n0 Z40 ) hZ (hw _ (List.mem_of_getElem? (i := 5) rfl)) (hw _ (List.mem_of_getElem? (i := 4) rfl)) (by decide) (by decide)) (g := (mkF m 812 #[.val (.int p1), .val (.int p2), .val (.int p3), .val (.int p4), .val (.int p5), .val (.int p6), .val (.int (own_i2c p6)), .val (.int (own_i2c p4)), .val (.int (own_i2c p5)), .val (.ref b1), .val (.ref b4), .val (.ref b7), .val (.int (p1 &&& (3 : Int32))), .val (.ref b4), .val (.int (40 : Int32)), .val (.int ((p2 &&& (2147483647 : Int32)) % (40 : Int32))), .val (.int ((p3 &&& (2147483647 : Int32)) % (40 : Int32))), .unset, .unset] [(.int (own_i2c p6))])) rfl (by rw [hml]; rfl) (argsL := [(.int (own_i2c p6))]) (rest := []) (lenOf pd_0_2 rfl) rfl (by show 2 * 0 + _ ≤ _; exact Nat.le_of_eq rfl) (hb hby at_812) (fun _ _ => ⟨rfl, e40, (by decide : 3 + 0 ≤ _), (by decide : 120 + 0 ≤ _)⟩)
      dsimp only [Pt.U, Pt.locs, Pt.cells, Pt.slots] at X41 l41 y41 z41 st41 hQ41
      subst l41 y41 z41
      obtain ⟨rfl, N41q, e41⟩ := hQ41
      have N41 := Fr.app N40 N41q
      refine Gen.on (b := T41.setTop (mkF m 815 #[.val (.int p1), .val (.int p2), .val (.int p3), .val (.int p4), .val (.int p5), .val (.int p6), .val (.int (own_i2c p6)), .val (.int (own_i2c p4)), .val (.int (own_i2c p5)), .val (.ref b1), .val (.ref b4), .val (.ref b7), .val (.int (p1 &&& (3 : Int32))), .val (.ref b4), .val (.int (40 : Int32)), .val (.int ((p2 &&& (2147483647 : Int32)) % (40 : Int32))), .val (.int ((p3 &&& (2147483647 : Int32)) % (40 : Int32))), .unset, .unset] [(.int (f1 (own_i2c p6)))])) ?_ (fun t k => st41 t k)
      by_cases c815_3 : (f1 (own_i2c p6)) = (0 : Int32)
      · refine Gen.on (b := T41.setTop (mkF m 845 #[.val (.int p1), .val (.int p2), .val (.int p3), .val (.int p4), .val (.int p5), .val (.int p6), .val (.int (own_i2c p6)), .val (.int (own_i2c p4)), .val (.int (own_i2c p5)), .val (.ref b1), .val (.ref b4), .val (.ref b7), .val (.int (p1 &&& (3 : Int32))), .val (.ref b4), .val (.int (40 : Int32)), .val (.int ((p2 &&& (2147483647 : Int32)) % (40 : Int32))), .val (.int ((p3 &&& (2147483647 : Int32)) % (40 : Int32))), .unset, .unset] [])) ?_ (fun t k => XS.ifYes X41.here hx rfl (pc0 := 815) (pc' := 845) rfl (hb hby at_815) rfl ((if0 _ _).trans (teq c815_3).1) (by decide) (by decide) k)
        refine Gen.on (b := T41.setTop (mkF m 846 #[.val (.int p1), .val (.int p2), .val (.int p3), .val (.int p4), .val (.int p5), .val (.int p6), .val (.int (own_i2c p6)), .val (.int (own_i2c p4)), .val (.int (own_i2c p5)), .val (.ref b1), .val (.ref b4), .val (.ref b7), .val (.int (p1 &&& (3 : Int32))), .val (.ref b4), .val (.int (40 : Int32)), .val (.int ((p2 &&& (2147483647 : Int32)) % (40 : Int32))), .val (.int ((p3 &&& (2147483647 : Int32)) % (40 : Int32))), .unset, .unset] [(.int (0 : Int32))])) ?_ (fun t k => XS.iconst X41.here hx rfl (hb hby at_845) k)
        refine Gen.on (b := T41.setTop (mkF m 848 #[.val (.int p1), .val (.int p2), .val (.int p3), .val (.int p4), .val (.int p5), .val (.int p6), .val (.int (own_i2c p6)), .val (.int (own_i2c p4)), .val (.int (own_i2c p5)), .val (.ref b1), .val (.ref b4), .val (.ref b7), .val (.int (p1 &&& (3 : Int32))), .val (.ref b4), .val (.int (40 : Int32)), .val (.int ((p2 &&& (2147483647 : Int32)) % (40 : Int32))), .val (.int ((p3 &&& (2147483647 : Int32)) % (40 : Int32))), .val (.int (0 : Int32)), .unset] [])) ?_ (fun t k => XS.istore X41.here hx rfl (hb hby at_846) rfl (l' := #[.val (.int p1), .val (.int p2), .val (.int p3), .val (.int p4), .val (.int p5), .val (.int p6), .val (.int (own_i2c p6)), .val (.int (own_i2c p4)), .val (.int (own_i2c p5)), .val (.ref b1), .val (.ref b4), .val (.ref b7), .val (.int (p1 &&& (3 : Int32))), .val (.ref b4), .val (.int (40 : Int32)), .val (.int ((p2 &&& (2147483647 : Int32)) % (40 : Int32))), .val (.int ((p3 &&& (2147483647 : Int32)) % (40 : Int32))), .val (.int (0 : Int32)), .unset]) rfl k)
        have fa43 := ((((fa8.ext E7).keep Kc10 (ninS ne_b1_b7 nin0)).other W39 ne_b1_b4).other W40 ne_b1_b4)
        have fa44 := ((Y10.other W39 (Ne.symm ne_b4_b7)).other W40 (Ne.symm ne_b4_b7))
        obtain ⟨b42, g42⟩ : ∃ z, z = h40.size := ⟨_, rfl⟩
        have ne_b1_b42 : b1 ≠ b42 := Nat.ne_of_lt (Nat.lt_of_lt_of_le fa43.lt (Nat.le_of_eq g42.symm))
        have ne_b4_b42 : b4 ≠ b42 := Nat.ne_of_lt (Nat.lt_of_lt_of_le Y40.lt (Nat.le_of_eq g42.symm))
        have ne_b7_b42 : b7 ≠ b42 := Nat.ne_of_lt (Nat.lt_of_lt_of_le fa44.lt (Nat.le_of_eq g42.symm))
        have g_b42 : n0 ≤ b42 := Nat.le_trans Z40 (Nat.le_of_eq g42.symm)
        obtain ⟨T42, h42, X42, e42, E42, A42, D42, -, st42⟩ := newO X41 hx hZ hown (hw _ (List.mem_of_getElem? (i := 6) rfl)) (hw _ (List.mem_of_getElem? (i := 7) rfl)) (hw _ (List.mem_of_getElem? (i := 8) rfl)) e41 (g := (mkF m 848 #[.val (.int p1), .val (.int p2), .val (.int p3), .val (.int p4), .val (.int p5), .val (.int p6), .val (.int (own_i2c p6)), .val (.int (own_i2c p4)), .val (.int (own_i2c p5)), .val (.ref b1), .val (.ref b4), .val (.ref b7), .val (.int (p1 &&& (3 : Int32))), .val (.ref b4), .val (.int (40 : Int32)), .val (.int ((p2 &&& (2147483647 : Int32)) % (40 : Int32))), .val (.int ((p3 &&& (2147483647 : Int32)) % (40 : Int32))), .val (.int (0 : Int32)), .unset] [])) rfl (hb hby at_848) (by decide) (by decide)
        rw [← g42] at A42 D42 st42
        have Z42 : n0 ≤ h42.size := Nat.le_trans Z40 E42.1
        have F42_coder : Fld Z h42 b42 "java/lang/String" "coder" "B" (.int (0 : Int32)) := D42 (Or.inr (hw _ (List.mem_of_getElem? (i := 32) rfl))) (ty := .byte) (by decide)
        have F42_value : Fld Z h42 b42 "java/lang/String" "value" "[B" .null := D42 (Or.inr (hw _ (List.mem_of_getElem? (i := 34) rfl))) (ty := (.array .byte)) (by decide)
        refine Gen.on (b := T42.setTop (mkF m 851 #[.val (.int p1), .val (.int p2), .val (.int p3), .val (.int p4), .val (.int p5), .val (.int p6), .val (.int (own_i2c p6)), .val (.int (own_i2c p4)), .val (.int (own_i2c p5)), .val (.ref b1), .val (.ref b4), .val (.ref b7), .val (.int (p1 &&& (3 : Int32))), .val (.ref b4), .val (.int (40 : Int32)), .val (.int ((p2 &&& (2147483647 : Int32)) % (40 : Int32))), .val (.int ((p3 &&& (2147483647 : Int32)) % (40 : Int32))), .val (.int (0 : Int32)), .unset] [(.ref b42)])) ?_ (fun t k => st42 t k)
        refine Gen.on (b := T42.setTop (mkF m 852 #[.val (.int p1), .val (.int p2), .val (.int p3), .val (.int p4), .val (.int p5), .val (.int p6), .val (.int (own_i2c p6)), .val (.int (own_i2c p4)), .val (.int (own_i2c p5)), .val (.ref b1), .val (.ref b4), .val (.ref b7), .val (.int (p1 &&& (3 : Int32))), .val (.ref b4), .val (.int (40 : Int32)), .val (.int ((p2 &&& (2147483647 : Int32)) % (40 : Int32))), .val (.int ((p3 &&& (2147483647 : Int32)) % (40 : Int32))), .val (.int (0 : Int32)), .unset] [(.ref b42), (.ref b42)])) ?_ (fun t k => XS.dup X42.here hx rfl (hb hby at_851) rfl rfl k)
        refine Gen.on (b := T42.setTop (mkF m 854 #[.val (.int p1), .val (.int p2), .val (.int p3), .val (.int p4), .val (.int p5), .val (.int p6), .val (.int (own_i2c p6)), .val (.int (own_i2c p4)), .val (.int (own_i2c p5)), .val (.ref b1), .val (.ref b4), .val (.ref b7), .val (.int (p1 &&& (3 : Int32))), .val (.ref b4), .val (.int (40 : Int32)), .val (.int ((p2 &&& (2147483647 : Int32)) % (40 : Int32))), .val (.int ((p3 &&& (2147483647 : Int32)) % (40 : Int32))), .val (.int (0 : Int32)), .unset] [(.ref b4), (.ref b42), (.ref b42)])) ?_ (fun t k => XS.aload X42.here hx rfl (hb hby at_852) rfl rfl k)
        have fa46 := (Y40.ext E42)
        have fa47 := (((((((((OL.ext E1).keep Kc3 (allS g_b1 all0)).ext E4).keep Kc6 (allS g_b4 all0)).ext E7).keep Kc10 (allS g_b7 all0)).wr W39 g_b4).wr W40 g_b4).ext E42)
        obtain ⟨_, _, ⟨T45, L45, k45, n45⟩, -, X45, ⟨Lc45, hQ45, l45, y45, z45⟩, st45⟩ := X42.specialBack hx (y := (⟨"java/lang/String", "<init>", "([C)V"⟩ : MethodName)) rfl hown (mvT hZ (hw _ (List.mem_of_getElem? (i := 9) rfl))) (mvT hZ (hw _ (List.mem_of_getElem? (i := 10) rfl))) (mvT hZ (hw _ (List.mem_of_getElem? (i := 11) rfl))) (by decide) (backOf (W := 1) (rm2 l Z a0 hw [] b42 b4 .null (.int (0 : Int32)) (40 : Int32) (own_Y p6 p4 p5 ((p2 &&& (2147483647 : Int32)) % (40 : Int32)) ((p3 &&& (2147483647 : Int32)) % (40 : Int32))) (80 : Int32) w0 f0 h42 n0 Z42 A42 F42_value F42_coder fa46 fa47 g_b42 (sts) (by decide) (by decide) (by decide +kernel) (by decide) (by decide +kernel) (by decide +kernel) (by decide +kernel) (by decide +kernel) (own_Yb _ _ _ _ _ _) (by decide)) hZ (hw _ (List.mem_of_getElem? (i := 11) rfl)) (hw _ (List.mem_of_getElem? (i := 8) rfl)) (by decide) (by decide)) (g := (mkF m 854 #[.val (.int p1), .val (.int p2), .val (.int p3), .val (.int p4), .val (.int p5), .val (.int p6), .val (.int (own_i2c p6)), .val (.int (own_i2c p4)), .val (.int (own_i2c p5)), .val (.ref b1), .val (.ref b4), .val (.ref b7), .val (.int (p1 &&& (3 : Int32))), .val (.ref b4), .val (.int (40 : Int32)), .val (.int ((p2 &&& (2147483647 : Int32)) % (40 : Int32))), .val (.int ((p3 &&& (2147483647 : Int32)) % (40 : Int32))), .val (.int (0 : Int32)), .unset] [(.ref b4), (.ref b42), (.ref b42)])) rfl (by rw [hml]; rfl) (Steps.refl _) (a := b42) (argsL := [(.ref b4)]) (rest := [(.ref b42)]) (lenOf pd_0_0 rfl) rfl (by show 2 * 0 + _ ≤ _; exact Nat.le_of_eq rfl) (hb hby at_854) (fun _ _ => ⟨rfl, e42, (by decide : 4 + 2 ≤ _), (by decide : 124 + 123 ≤ _)⟩)
        dsimp only [Pt.U, Pt.locs, Pt.cells, Pt.slots] at X45 l45 y45 z45 st45 hQ45
        subst l45 y45 z45
        obtain ⟨rfl, N45q, Kc45, hf45_0, hf45_1⟩ := hQ45
        have N45 := Fr.app N41 N45q
        have Z45 : n0 ≤ T45.heap.size := Nat.le_trans Z42 Kc45.1
        refine Gen.on (b := T45.setTop (mkF m 857 #[.val (.int p1), .val (.int p2), .val (.int p3), .val (.int p4), .val (.int p5), .val (.int p6), .val (.int (own_i2c p6)), .val (.int (own_i2c p4)), .val (.int (own_i2c p5)), .val (.ref b1), .val (.ref b4), .val (.ref b7), .val (.int (p1 &&& (3 : Int32))), .val (.ref b4), .val (.int (40 : Int32)), .val (.int ((p2 &&& (2147483647 : Int32)) % (40 : Int32))), .val (.int ((p3 &&& (2147483647 : Int32)) % (40 : Int32))), .val (.int (0 : Int32)), .unset] [(.ref b42)])) ?_ (fun t k => st45.trans k)
        refine Gen.on (b := T45.setTop (mkF m 859 #[.val (.int p1), .val (.int p2), .val (.int p3), .val (.int p4), .val (.int p5), .val (.int p6), .val (.int (own_i2c p6)), .val (.int (own_i2c p4)), .val (.int (own_i2c p5)), .val (.ref b1), .val (.ref b4), .val (.ref b7), .val (.int (p1 &&& (3 : Int32))), .val (.ref b4), .val (.int (40 : Int32)), .val (.int ((p2 &&& (2147483647 : Int32)) % (40 : Int32))), .val (.int ((p3 &&& (2147483647 : Int32)) % (40 : Int32))), .val (.int (0 : Int32)), .val (.ref b42)] [])) ?_ (fun t k => XS.astore X45.here hx rfl (hb hby at_857) rfl rfl (l' := #[.val (.int p1), .val (.int p2), .val (.int p3), .val (.int p4), .val (.int p5), .val (.int p6), .val (.int (own_i2c p6)), .val (.int (own_i2c p4)), .val (.int (own_i2c p5)), .val (.ref b1), .val (.ref b4), .val (.ref b7), .val (.int (p1 &&& (3 : Int32))), .val (.ref b4), .val (.int (40 : Int32)), .val (.int ((p2 &&& (2147483647 : Int32)) % (40 : Int32))), .val (.int ((p3 &&& (2147483647 : Int32)) % (40 : Int32))), .val (.int (0 : Int32)), .val (.ref b42)]) rfl k)
        refine Gen.on (b := T45.setTop (mkF m 861 #[.val (.int p1), .val (.int p2), .val (.int p3), .val (.int p4), .val (.int p5), .val (.int p6), .val (.int (own_i2c p6)), .val (.int (own_i2c p4)), .val (.int (own_i2c p5)), .val (.ref b1), .val (.ref b4), .val (.ref b7), .val (.int (p1 &&& (3 : Int32))), .val (.ref b4), .val (.int (40 : Int32)), .val (.int ((p2 &&& (2147483647 : Int32)) % (40 : Int32))), .val (.int ((p3 &&& (2147483647 : Int32)) % (40 : Int32))), .val (.int (0 : Int32)), .val (.ref b42)] [(.ref b42)])) ?_ (fun t k => XS.aload X45.here hx rfl (hb hby at_859) rfl rfl k)
        have fa49 := (fa47.keep Kc45 (allS g_b42 all0))
        obtain ⟨_, _, ⟨T48, L48, k48, n48⟩, -, X48, ⟨Lc48, hQ48, l48, y48, z48⟩, st48⟩ := Jvm.LawKit.callS X45 hx (y := (⟨"com/example/bandwarden/bandwarden/protocol/Sha1", "isHex", "(Ljava/lang/String;)Z"⟩ : MethodName)) hown (mvT hZ (hw _ (List.mem_of_getElem? (i := 35) rfl))) (mvT hZ (hw _ (List.mem_of_getElem? (i := 36) rfl))) (mvT hZ (hw _ (List.mem_of_getElem? (i := 37) rfl))) (mvT hZ (hw _ (List.mem_of_getElem? (i := 38) rfl))) (by decide) (backOf (W := 0) (rm8 l Z a0 hw [] b42 (40 : Int32) (own_Y p6 p4 p5 ((p2 &&& (2147483647 : Int32)) % (40 : Int32)) ((p3 &&& (2147483647 : Int32)) % (40 : Int32))) w0 f0 T45.heap n0 Z45 hf45_0 hf45_1 fa49 sts) hZ (hw _ (List.mem_of_getElem? (i := 38) rfl)) (hw _ (List.mem_of_getElem? (i := 37) rfl)) (by decide) (by decide)) (g := (mkF m 861 #[.val (.int p1), .val (.int p2), .val (.int p3), .val (.int p4), .val (.int p5), .val (.int p6), .val (.int (own_i2c p6)), .val (.int (own_i2c p4)), .val (.int (own_i2c p5)), .val (.ref b1), .val (.ref b4), .val (.ref b7), .val (.int (p1 &&& (3 : Int32))), .val (.ref b4), .val (.int (40 : Int32)), .val (.int ((p2 &&& (2147483647 : Int32)) % (40 : Int32))), .val (.int ((p3 &&& (2147483647 : Int32)) % (40 : Int32))), .val (.int (0 : Int32)), .val (.ref b42)] [(.ref b42)])) rfl (by rw [hml]; rfl) (argsL := [(.ref b42)]) (rest := []) (lenOf pd_0_1 rfl) rfl (by show 2 * 0 + _ ≤ _; exact Nat.le_of_eq rfl) (hb hby at_861) (fun _ _ => ⟨rfl, rfl, (by decide : 6 + 0 ≤ _), (by decide : 247 + 0 ≤ _)⟩)
        dsimp only [Pt.U, Pt.locs, Pt.cells, Pt.slots] at X48 l48 y48 z48 st48 hQ48
        subst l48 y48 z48
        obtain ⟨r48, rfl, N48q, e48, hH48⟩ := hQ48
        have N48 := Fr.app N45 N48q
        rcases hH48 with ⟨rfl, hz, hall⟩ | ⟨rfl, hno⟩
        · exact absurd c815_3 (own_cx hall)
        · refine Gen.on (b := T48.setTop (mkF m 864 #[.val (.int p1), .val (.int p2), .val (.int p3), .val (.int p4), .val (.int p5), .val (.int p6), .val (.int (own_i2c p6)), .val (.int (own_i2c p4)), .val (.int (own_i2c p5)), .val (.ref b1), .val (.ref b4), .val (.ref b7), .val (.int (p1 &&& (3 : Int32))), .val (.ref b4), .val (.int (40 : Int32)), .val (.int ((p2 &&& (2147483647 : Int32)) % (40 : Int32))), .val (.int ((p3 &&& (2147483647 : Int32)) % (40 : Int32))), .val (.int (0 : Int32)), .val (.ref b42)] [(.int (0 : Int32))])) ?_ (fun t k => st48 t k)
          refine Gen.on (b := T48.setTop (mkF m 866 #[.val (.int p1), .val (.int p2), .val (.int p3), .val (.int p4), .val (.int p5), .val (.int p6), .val (.int (own_i2c p6)), .val (.int (own_i2c p4)), .val (.int (own_i2c p5)), .val (.ref b1), .val (.ref b4), .val (.ref b7), .val (.int (p1 &&& (3 : Int32))), .val (.ref b4), .val (.int (40 : Int32)), .val (.int ((p2 &&& (2147483647 : Int32)) % (40 : Int32))), .val (.int ((p3 &&& (2147483647 : Int32)) % (40 : Int32))), .val (.int (0 : Int32)), .val (.ref b42)] [(.int (0 : Int32)), (.int (0 : Int32))])) ?_ (fun t k => XS.iload X48.here hx rfl (hb hby at_864) rfl k)
          refine Gen.on (b := T48.setTop (mkF m 869 #[.val (.int p1), .val (.int p2), .val (.int p3), .val (.int p4), .val (.int p5), .val (.int p6), .val (.int (own_i2c p6)), .val (.int (own_i2c p4)), .val (.int (own_i2c p5)), .val (.ref b1), .val (.ref b4), .val (.ref b7), .val (.int (p1 &&& (3 : Int32))), .val (.ref b4), .val (.int (40 : Int32)), .val (.int ((p2 &&& (2147483647 : Int32)) % (40 : Int32))), .val (.int ((p3 &&& (2147483647 : Int32)) % (40 : Int32))), .val (.int (0 : Int32)), .val (.ref b42)] [])) ?_ (fun t k => XS.icmpNo X48.here hx rfl (hb hby at_866) rfl (teq (by decide : (0 : Int32) = (0 : Int32))).2 k)
          refine Gen.on (b := T48.setTop (mkF m 870 #[.val (.int p1), .val (.int p2), .val (.int p3), .val (.int p4), .val (.int p5), .val (.int p6), .val (.int (own_i2c p6)), .val (.int (own_i2c p4)), .val (.int (own_i2c p5)), .val (.ref b1), .val (.ref b4), .val (.ref b7), .val (.int (p1 &&& (3 : Int32))), .val (.ref b4), .val (.int (40 : Int32)), .val (.int ((p2 &&& (2147483647 : Int32)) % (40 : Int32))), .val (.int ((p3 &&& (2147483647 : Int32)) % (40 : Int32))), .val (.int (0 : Int32)), .val (.ref b42)] [(.int (1 : Int32))])) ?_ (fun t k => XS.iconst X48.here hx rfl (hb hby at_869) k)
          refine Gen.on (b := T48.setTop (mkF m 874 #[.val (.int p1), .val (.int p2), .val (.int p3), .val (.int p4), .val (.int p5), .val (.int p6), .val (.int (own_i2c p6)), .val (.int (own_i2c p4)), .val (.int (own_i2c p5)), .val (.ref b1), .val (.ref b4), .val (.ref b7), .val (.int (p1 &&& (3 : Int32))), .val (.ref b4), .val (.int (40 : Int32)), .val (.int ((p2 &&& (2147483647 : Int32)) % (40 : Int32))), .val (.int ((p3 &&& (2147483647 : Int32)) % (40 : Int32))), .val (.int (0 : Int32)), .val (.ref b42)] [(.int (1 : Int32))])) ?_ (fun t k => XS.goto X48.here hx rfl (pc0 := 870) (pc' := 874) rfl (hb hby at_870) (by decide) (by decide) k)
          refine own_retN (t := .boolean) X48 hx Bd.returns (by simp) (by decide) (hb hby at_874) (by decide) (by decide) ?_
          exact ⟨rfl, N48⟩
      · refine Gen.on (b := T41.setTop (mkF m 818 #[.val (.int p1), .val (.int p2), .val (.int p3), .val (.int p4), .val (.int p5), .val (.int p6), .val (.int (own_i2c p6)), .val (.int (own_i2c p4)), .val (.int (own_i2c p5)), .val (.ref b1), .val (.ref b4), .val (.ref b7), .val (.int (p1 &&& (3 : Int32))), .val (.ref b4), .val (.int (40 : Int32)), .val (.int ((p2 &&& (2147483647 : Int32)) % (40 : Int32))), .val (.int ((p3 &&& (2147483647 : Int32)) % (40 : Int32))), .unset, .unset] [])) ?_ (fun t k => XS.ifNo X41.here hx rfl (hb hby at_815) rfl ((if0 _ _).trans (feq c815_3).1) k)
        refine Gen.on (b := T41.setTop (mkF m 820 #[.val (.int p1), .val (.int p2), .val (.int p3), .val (.int p4), .val (.int p5), .val (.int p6), .val (.int (own_i2c p6)), .val (.int (own_i2c p4)), .val (.int (own_i2c p5)), .val (.ref b1), .val (.ref b4), .val (.ref b7), .val (.int (p1 &&& (3 : Int32))), .val (.ref b4), .val (.int (40 : Int32)), .val (.int ((p2 &&& (2147483647 : Int32)) % (40 : Int32))), .val (.int ((p3 &&& (2147483647 : Int32)) % (40 : Int32))), .unset, .unset] [(.int (own_i2c p5))])) ?_ (fun t k => XS.iload X41.here hx rfl (hb hby at_818) rfl k)
        obtain ⟨_, _, ⟨T50, L50, k50, n50⟩, -, X50, ⟨Lc50, hQ50, l50, y50, z50⟩, st50⟩ := Jvm.LawKit.callS X41 hx (y := (⟨"com/example/bandwarden/bandwarden/protocol/Sha1IsHexPinLaw", "ok", "(C)Z"⟩ : MethodName)) hown (mvT hZ (hw _ (List.mem_of_getElem? (i := 2) rfl))) (mvT hZ (hw _ (List.mem_of_getElem? (i := 3) rfl))) (mvT hZ (hw _ (List.mem_of_getElem? (i := 4) rfl))) (mvT hZ (hw _ (List.mem_of_getElem? (i := 5) rfl))) (by decide) (backOf (W := 0) (rm1 l Z a0 hw [] (own_i2c p5)  h40 n0 Z40 ) hZ (hw _ (List.mem_of_getElem? (i := 5) rfl)) (hw _ (List.mem_of_getElem? (i := 4) rfl)) (by decide) (by decide)) (g := (mkF m 820 #[.val (.int p1), .val (.int p2), .val (.int p3), .val (.int p4), .val (.int p5), .val (.int p6), .val (.int (own_i2c p6)), .val (.int (own_i2c p4)), .val (.int (own_i2c p5)), .val (.ref b1), .val (.ref b4), .val (.ref b7), .val (.int (p1 &&& (3 : Int32))), .val (.ref b4), .val (.int (40 : Int32)), .val (.int ((p2 &&& (2147483647 : Int32)) % (40 : Int32))), .val (.int ((p3 &&& (2147483647 : Int32)) % (40 : Int32))), .unset, .unset] [(.int (own_i2c p5))])) rfl (by rw [hml]; rfl) (argsL := [(.int (own_i2c p5))]) (rest := []) (lenOf pd_0_2 rfl) rfl (by show 2 * 0 + _ ≤ _; exact Nat.le_of_eq rfl) (hb hby at_820) (fun _ _ => ⟨rfl, e41, (by decide : 3 + 0 ≤ _), (by decide : 120 + 0 ≤ _)⟩)
        dsimp only [Pt.U, Pt.locs, Pt.cells, Pt.slots] at X50 l50 y50 z50 st50 hQ50
        subst l50 y50 z50
        obtain ⟨rfl, N50q, e50⟩ := hQ50
        have N50 := Fr.app N41 N50q
        refine Gen.on (b := T50.setTop (mkF m 823 #[.val (.int p1), .val (.int p2), .val (.int p3), .val (.int p4), .val (.int p5), .val (.int p6), .val (.int (own_i2c p6)), .val (.int (own_i2c p4)), .val (.int (own_i2c p5)), .val (.ref b1), .val (.ref b4), .val (.ref b7), .val (.int (p1 &&& (3 : Int32))), .val (.ref b4), .val (.int (40 : Int32)), .val (.int ((p2 &&& (2147483647 : Int32)) % (40 : Int32))), .val (.int ((p3 &&& (2147483647 : Int32)) % (40 : Int32))), .unset, .unset] [(.int (f1 (own_i2c p5)))])) ?_ (fun t k => st50 t k)
        by_cases c823_4 : (f1 (own_i2c p5)) = (0 : Int32)
        · refine Gen.on (b := T50.setTop (mkF m 845 #[.val (.int p1), .val (.int p2), .val (.int p3), .val (.int p4), .val (.int p5), .val (.int p6), .val (.int (own_i2c p6)), .val (.int (own_i2c p4)), .val (.int (own_i2c p5)), .val (.ref b1), .val (.ref b4), .val (.ref b7), .val (.int (p1 &&& (3 : Int32))), .val (.ref b4), .val (.int (40 : Int32)), .val (.int ((p2 &&& (2147483647 : Int32)) % (40 : Int32))), .val (.int ((p3 &&& (2147483647 : Int32)) % (40 : Int32))), .unset, .unset] [])) ?_ (fun t k => XS.ifYes X50.here hx rfl (pc0 := 823) (pc' := 845) rfl (hb hby at_823) rfl ((if0 _ _).trans (teq c823_4).1) (by decide) (by decide) k)
          refine Gen.on (b := T50.setTop (mkF m 846 #[.val (.int p1), .val (.int p2), .val (.int p3), .val (.int p4), .val (.int p5), .val (.int p6), .val (.int (own_i2c p6)), .val (.int (own_i2c p4)), .val (.int (own_i2c p5)), .val (.ref b1), .val (.ref b4), .val (.ref b7), .val (.int (p1 &&& (3 : Int32))), .val (.ref b4), .val (.int (40 : Int32)), .val (.int ((p2 &&& (2147483647 : Int32)) % (40 : Int32))), .val (.int ((p3 &&& (2147483647 : Int32)) % (40 : Int32))), .unset, .unset] [(.int (0 : Int32))])) ?_ (fun t k => XS.iconst X50.here hx rfl (hb hby at_845) k)
          refine Gen.on (b := T50.setTop (mkF m 848 #[.val (.int p1), .val (.int p2), .val (.int p3), .val (.int p4), .val (.int p5), .val (.int p6), .val (.int (own_i2c p6)), .val (.int (own_i2c p4)), .val (.int (own_i2c p5)), .val (.ref b1), .val (.ref b4), .val (.ref b7), .val (.int (p1 &&& (3 : Int32))), .val (.ref b4), .val (.int (40 : Int32)), .val (.int ((p2 &&& (2147483647 : Int32)) % (40 : Int32))), .val (.int ((p3 &&& (2147483647 : Int32)) % (40 : Int32))), .val (.int (0 : Int32)), .unset] [])) ?_ (fun t k => XS.istore X50.here hx rfl (hb hby at_846) rfl (l' := #[.val (.int p1), .val (.int p2), .val (.int p3), .val (.int p4), .val (.int p5), .val (.int p6), .val (.int (own_i2c p6)), .val (.int (own_i2c p4)), .val (.int (own_i2c p5)), .val (.ref b1), .val (.ref b4), .val (.ref b7), .val (.int (p1 &&& (3 : Int32))), .val (.ref b4), .val (.int (40 : Int32)), .val (.int ((p2 &&& (2147483647 : Int32)) % (40 : Int32))), .val (.int ((p3 &&& (2147483647 : Int32)) % (40 : Int32))), .val (.int (0 : Int32)), .unset]) rfl k)
          have fa52 := ((((fa8.ext E7).keep Kc10 (ninS ne_b1_b7 nin0)).other W39 ne_b1_b4).other W40 ne_b1_b4)
          have fa53 := ((Y10.other W39 (Ne.symm ne_b4_b7)).other W40 (Ne.symm ne_b4_b7))
          obtain ⟨b51, g51⟩ : ∃ z, z = h40.size := ⟨_, rfl⟩
          have ne_b1_b51 : b1 ≠ b51 := Nat.ne_of_lt (Nat.lt_of_lt_of_le fa52.lt (Nat.le_of_eq g51.symm))
          have ne_b4_b51 : b4 ≠ b51 := Nat.ne_of_lt (Nat.lt_of_lt_of_le Y40.lt (Nat.le_of_eq g51.symm))
          have ne_b7_b51 : b7 ≠ b51 := Nat.ne_of_lt (Nat.lt_of_lt_of_le fa53.lt (Nat.le_of_eq g51.symm))
          have g_b51 : n0 ≤ b51 := Nat.le_trans Z40 (Nat.le_of_eq g51.symm)
          obtain ⟨T51, h51, X51, e51, E51, A51, D51, -, st51⟩ := newO X50 hx hZ hown (hw _ (List.mem_of_getElem? (i := 6) rfl)) (hw _ (List.mem_of_getElem? (i := 7) rfl)) (hw _ (List.mem_of_getElem? (i := 8) rfl)) e50 (g := (mkF m 848 #[.val (.int p1), .val (.int p2), .val (.int p3), .val (.int p4), .val (.int p5), .val (.int p6), .val (.int (own_i2c p6)), .val (.int (own_i2c p4)), .val (.int (own_i2c p5)), .val (.ref b1), .val (.ref b4), .val (.ref b7), .val (.int (p1 &&& (3 : Int32))), .val (.ref b4), .val (.int (40 : Int32)), .val (.int ((p2 &&& (2147483647 : Int32)) % (40 : Int32))), .val (.int ((p3 &&& (2147483647 : Int32)) % (40 : Int32))), .val (.int (0 : Int32)), .unset] [])) rfl (hb hby at_848) (by decide) (by decide)
          rw [← g51] at A51 D51 st51
          have Z51 : n0 ≤ h51.size := Nat.le_trans Z40 E51.1
          have F51_coder : Fld Z h51 b51 "java/lang/String" "coder" "B" (.int (0 : Int32)) := D51 (Or.inr (hw _ (List.mem_of_getElem? (i := 32) rfl))) (ty := .byte) (by decide)
          have F51_value : Fld Z h51 b51 "java/lang/String" "value" "[B" .null := D51 (Or.inr (hw _ (List.mem_of_getElem? (i := 34) rfl))) (ty := (.array .byte)) (by decide)
          refine Gen.on (b := T51.setTop (mkF m 851 #[.val (.int p1), .val (.int p2), .val (.int p3), .val (.int p4), .val (.int p5), .val (.int p6), .val (.int (own_i2c p6)), .val (.int (own_i2c p4)), .val (.int (own_i2c p5)), .val (.ref b1), .val (.ref b4), .val (.ref b7), .val (.int (p1 &&& (3 : Int32))), .val (.ref b4), .val (.int (40 : Int32)), .val (.int ((p2 &&& (2147483647 : Int32)) % (40 : Int32))), .val (.int ((p3 &&& (2147483647 : Int32)) % (40 : Int32))), .val (.int (0 : Int32)), .unset] [(.ref b51)])) ?_ (fun t k => st51 t k)
          refine Gen.on (b := T51.setTop (mkF m 852 #[.val (.int p1), .val (.int p2), .val (.int p3), .val (.int p4), .val (.int p5), .val (.int p6), .val (.int (own_i2c p6)), .val (.int (own_i2c p4)), .val (.int (own_i2c p5)), .val (.ref b1), .val (.ref b4), .val (.ref b7), .val (.int (p1 &&& (3 : Int32))), .val (.ref b4), .val (.int (40 : Int32)), .val (.int ((p2 &&& (2147483647 : Int32)) % (40 : Int32))), .val (.int ((p3 &&& (2147483647 : Int32)) % (40 : Int32))), .val (.int (0 : Int32)), .unset] [(.ref b51), (.ref b51)])) ?_ (fun t k => XS.dup X51.here hx rfl (hb hby at_851) rfl rfl k)
          refine Gen.on (b := T51.setTop (mkF m 854 #[.val (.int p1), .val (.int p2), .val (.int p3), .val (.int p4), .val (.int p5), .val (.int p6), .val (.int (own_i2c p6)), .val (.int (own_i2c p4)), .val (.int (own_i2c p5)), .val (.ref b1), .val (.ref b4), .val (.ref b7), .val (.int (p1 &&& (3 : Int32))), .val (.ref b4), .val (.int (40 : Int32)), .val (.int ((p2 &&& (2147483647 : Int32)) % (40 : Int32))), .val (.int ((p3 &&& (2147483647 : Int32)) % (40 : Int32))), .val (.int (0 : Int32)), .unset] [(.ref b4), (.ref b51), (.ref b51)])) ?_ (fun t k => XS.aload X51.here hx rfl (hb hby at_852) rfl rfl k)
          have fa55 := (Y40.ext E51)
          have fa56 := (((((((((OL.ext E1).keep Kc3 (allS g_b1 all0)).ext E4).keep Kc6 (allS g_b4 all0)).ext E7).keep Kc10 (allS g_b7 all0)).wr W39 g_b4).wr W40 g_b4).ext E51)
          obtain ⟨_, _, ⟨T54, L54, k54, n54⟩, -, X54, ⟨Lc54, hQ54, l54, y54, z54⟩, st54⟩ := X51.specialBack hx (y := (⟨"java/lang/String", "<init>", "([C)V"⟩ : MethodName)) rfl hown (mvT hZ (hw _ (List.mem_of_getElem? (i := 9) rfl))) (mvT hZ (hw _ (List.mem_of_getElem? (i := 10) rfl))) (mvT hZ (hw _ (List.mem_of_getElem? (i := 11) rfl))) (by decide) (backOf (W := 1) (rm2 l Z a0 hw [] b51 b4 .null (.int (0 : Int32)) (40 : Int32) (own_Y p6 p4 p5 ((p2 &&& (2147483647 : Int32)) % (40 : Int32)) ((p3 &&& (2147483647 : Int32)) % (40 : Int32))) (80 : Int32) w0 f0 h51 n0 Z51 A51 F51_value F51_coder fa55 fa56 g_b51 (sts) (by decide) (by decide) (by decide +kernel) (by decide) (by decide +kernel) (by decide +kernel) (by decide +kernel) (by decide +kernel) (own_Yb _ _ _ _ _ _) (by decide)) hZ (hw _ (List.mem_of_getElem? (i := 11) rfl)) (hw _ (List.mem_of_getElem? (i := 8) rfl)) (by decide) (by decide)) (g := (mkF m 854 #[.val (.int p1), .val (.int p2), .val (.int p3), .val (.int p4), .val (.int p5), .val (.int p6), .val (.int (own_i2c p6)), .val (.int (own_i2c p4)), .val (.int (own_i2c p5)), .val (.ref b1), .val (.ref b4), .val (.ref b7), .val (.int (p1 &&& (3 : Int32))), .val (.ref b4), .val (.int (40 : Int32)), .val (.int ((p2 &&& (2147483647 : Int32)) % (40 : Int32))), .val (.int ((p3 &&& (2147483647 : Int32)) % (40 : Int32))), .val (.int (0 : Int32)), .unset] [(.ref b4), (.ref b51), (.ref b51)])) rfl (by rw [hml]; rfl) (Steps.refl _) (a := b51) (argsL := [(.ref b4)]) (rest := [(.ref b51)]) (lenOf pd_0_0 rfl) rfl (by show 2 * 0 + _ ≤ _; exact Nat.le_of_eq rfl) (hb hby at_854) (fun _ _ => ⟨rfl, e51, (by decide : 4 + 2 ≤ _), (by decide : 124 + 123 ≤ _)⟩)
          dsimp only [Pt.U, Pt.locs, Pt.cells, Pt.slots] at X54 l54 y54 z54 st54 hQ54
          subst l54 y54 z54
          obtain ⟨rfl, N54q, Kc54, hf54_0, hf54_1⟩ := hQ54
          have N54 := Fr.app N50 N54q
          have Z54 : n0 ≤ T54.heap.size := Nat.le_trans Z51 Kc54.1
          refine Gen.on (b := T54.setTop (mkF m 857 #[.val (.int p1), .val (.int p2), .val (.int p3), .val (.int p4), .val (.int p5), .val (.int p6), .val (.int (own_i2c p6)), .val (.int (own_i2c p4)), .val (.int (own_i2c p5)), .val (.ref b1), .val (.ref b4), .val (.ref b7), .val (.int (p1 &&& (3 : Int32))), .val (.ref b4), .val (.int (40 : Int32)), .val (.int ((p2 &&& (2147483647 : Int32)) % (40 : Int32))), .val (.int ((p3 &&& (2147483647 : Int32)) % (40 : Int32))), .val (.int (0 : Int32)), .unset] [(.ref b51)])) ?_ (fun t k => st54.trans k)
          refine Gen.on (b := T54.setTop (mkF m 859 #[.val (.int p1), .val (.int p2), .val (.int p3), .val (.int p4), .val (.int p5), .val (.int p6), .val (.int (own_i2c p6)), .val (.int (own_i2c p4)), .val (.int (own_i2c p5)), .val (.ref b1), .val (.ref b4), .val (.ref b7), .val (.int (p1 &&& (3 : Int32))), .val (.ref b4), .val (.int (40 : Int32)), .val (.int ((p2 &&& (2147483647 : Int32)) % (40 : Int32))), .val (.int ((p3 &&& (2147483647 : Int32)) % (40 : Int32))), .val (.int (0 : Int32)), .val (.ref b51)] [])) ?_ (fun t k => XS.astore X54.here hx rfl (hb hby at_857) rfl rfl (l' := #[.val (.int p1), .val (.int p2), .val (.int p3), .val (.int p4), .val (.int p5), .val (.int p6), .val (.int (own_i2c p6)), .val (.int (own_i2c p4)), .val (.int (own_i2c p5)), .val (.ref b1), .val (.ref b4), .val (.ref b7), .val (.int (p1 &&& (3 : Int32))), .val (.ref b4), .val (.int (40 : Int32)), .val (.int ((p2 &&& (2147483647 : Int32)) % (40 : Int32))), .val (.int ((p3 &&& (2147483647 : Int32)) % (40 : Int32))), .val (.int (0 : Int32)), .val (.ref b51)]) rfl k)
          refine Gen.on (b := T54.setTop (mkF m 861 #[.val (.int p1), .val (.int p2), .val (.int p3), .val (.int p4), .val (.int p5), .val (.int p6), .val (.int (own_i2c p6)), .val (.int (own_i2c p4)), .val (.int (own_i2c p5)), .val (.ref b1), .val (.ref b4), .val (.ref b7), .val (.int (p1 &&& (3 : Int32))), .val (.ref b4), .val (.int (40 : Int32)), .val (.int ((p2 &&& (2147483647 : Int32)) % (40 : Int32))), .val (.int ((p3 &&& (2147483647 : Int32)) % (40 : Int32))), .val (.int (0 : Int32)), .val (.ref b51)] [(.ref b51)])) ?_ (fun t k => XS.aload X54.here hx rfl (hb hby at_859) rfl rfl k)
          have fa58 := (fa56.keep Kc54 (allS g_b51 all0))
          obtain ⟨_, _, ⟨T57, L57, k57, n57⟩, -, X57, ⟨Lc57, hQ57, l57, y57, z57⟩, st57⟩ := Jvm.LawKit.callS X54 hx (y := (⟨"com/example/bandwarden/bandwarden/protocol/Sha1", "isHex", "(Ljava/lang/String;)Z"⟩ : MethodName)) hown (mvT hZ (hw _ (List.mem_of_getElem? (i := 35) rfl))) (mvT hZ (hw _ (List.mem_of_getElem? (i := 36) rfl))) (mvT hZ (hw _ (List.mem_of_getElem? (i := 37) rfl))) (mvT hZ (hw _ (List.mem_of_getElem? (i := 38) rfl))) (by decide) (backOf (W := 0) (rm8 l Z a0 hw [] b51 (40 : Int32) (own_Y p6 p4 p5 ((p2 &&& (2147483647 : Int32)) % (40 : Int32)) ((p3 &&& (2147483647 : Int32)) % (40 : Int32))) w0 f0 T54.heap n0 Z54 hf54_0 hf54_1 fa58 sts) hZ (hw _ (List.mem_of_getElem? (i := 38) rfl)) (hw _ (List.mem_of_getElem? (i := 37) rfl)) (by decide) (by decide)) (g := (mkF m 861 #[.val (.int p1), .val (.int p2), .val (.int p3), .val (.int p4), .val (.int p5), .val (.int p6), .val (.int (own_i2c p6)), .val (.int (own_i2c p4)), .val (.int (own_i2c p5)), .val (.ref b1), .val (.ref b4), .val (.ref b7), .val (.int (p1 &&& (3 : Int32))), .val (.ref b4), .val (.int (40 : Int32)), .val (.int ((p2 &&& (2147483647 : Int32)) % (40 : Int32))), .val (.int ((p3 &&& (2147483647 : Int32)) % (40 : Int32))), .val (.int (0 : Int32)), .val (.ref b51)] [(.ref b51)])) rfl (by rw [hml]; rfl) (argsL := [(.ref b51)]) (rest := []) (lenOf pd_0_1 rfl) rfl (by show 2 * 0 + _ ≤ _; exact Nat.le_of_eq rfl) (hb hby at_861) (fun _ _ => ⟨rfl, rfl, (by decide : 6 + 0 ≤ _), (by decide : 247 + 0 ≤ _)⟩)
          dsimp only [Pt.U, Pt.locs, Pt.cells, Pt.slots] at X57 l57 y57 z57 st57 hQ57
          subst l57 y57 z57
          obtain ⟨r57, rfl, N57q, e57, hH57⟩ := hQ57
          have N57 := Fr.app N54 N57q
          rcases hH57 with ⟨rfl, hz, hall⟩ | ⟨rfl, hno⟩
          · exact absurd c823_4 (own_cb hall (own_mod p3 (40 : Int32) (by decide +kernel)).1 (own_mod p3 (40 : Int32) (by decide +kernel)).2)
          · refine Gen.on (b := T57.setTop (mkF m 864 #[.val (.int p1), .val (.int p2), .val (.int p3), .val (.int p4), .val (.int p5), .val (.int p6), .val (.int (own_i2c p6)), .val (.int (own_i2c p4)), .val (.int (own_i2c p5)), .val (.ref b1), .val (.ref b4), .val (.ref b7), .val (.int (p1 &&& (3 : Int32))), .val (.ref b4), .val (.int (40 : Int32)), .val (.int ((p2 &&& (2147483647 : Int32)) % (40 : Int32))), .val (.int ((p3 &&& (2147483647 : Int32)) % (40 : Int32))), .val (.int (0 : Int32)), .val (.ref b51)] [(.int (0 : Int32))])) ?_ (fun t k => st57 t k)
            refine Gen.on (b := T57.setTop (mkF m 866 #[.val (.int p1), .val (.int p2), .val (.int p3), .val (.int p4), .val (.int p5), .val (.int p6), .val (.int (own_i2c p6)), .val (.int (own_i2c p4)), .val (.int (own_i2c p5)), .val (.ref b1), .val (.ref b4), .val (.ref b7), .val (.int (p1 &&& (3 : Int32))), .val (.ref b4), .val (.int (40 : Int32)), .val (.int ((p2 &&& (2147483647 : Int32)) % (40 : Int32))), .val (.int ((p3 &&& (2147483647 : Int32)) % (40 : Int32))), .val (.int (0 : Int32)), .val (.ref b51)] [(.int (0 : Int32)), (.int (0 : Int32))])) ?_ (fun t k => XS.iload X57.here hx rfl (hb hby at_864) rfl k)
            refine Gen.on (b := T57.setTop (mkF m 869 #[.val (.int p1), .val (.int p2), .val (.int p3), .val (.int p4), .val (.int p5), .val (.int p6), .val (.int (own_i2c p6)), .val (.int (own_i2c p4)), .val (.int (own_i2c p5)), .val (.ref b1), .val (.ref b4), .val (.ref b7), .val (.int (p1 &&& (3 : Int32))), .val (.ref b4), .val (.int (40 : Int32)), .val (.int ((p2 &&& (2147483647 : Int32)) % (40 : Int32))), .val (.int ((p3 &&& (2147483647 : Int32)) % (40 : Int32))), .val (.int (0 : Int32)), .val (.ref b51)] [])) ?_ (fun t k => XS.icmpNo X57.here hx rfl (hb hby at_866) rfl (teq (by decide : (0 : Int32) = (0 : Int32))).2 k)
            refine Gen.on (b := T57.setTop (mkF m 870 #[.val (.int p1), .val (.int p2), .val (.int p3), .val (.int p4), .val (.int p5), .val (.int p6), .val (.int (own_i2c p6)), .val (.int (own_i2c p4)), .val (.int (own_i2c p5)), .val (.ref b1), .val (.ref b4), .val (.ref b7), .val (.int (p1 &&& (3 : Int32))), .val (.ref b4), .val (.int (40 : Int32)), .val (.int ((p2 &&& (2147483647 : Int32)) % (40 : Int32))), .val (.int ((p3 &&& (2147483647 : Int32)) % (40 : Int32))), .val (.int (0 : Int32)), .val (.ref b51)] [(.int (1 : Int32))])) ?_ (fun t k => XS.iconst X57.here hx rfl (hb hby at_869) k)
            refine Gen.on (b := T57.setTop (mkF m 874 #[.val (.int p1), .val (.int p2), .val (.int p3), .val (.int p4), .val (.int p5), .val (.int p6), .val (.int (own_i2c p6)), .val (.int (own_i2c p4)), .val (.int (own_i2c p5)), .val (.ref b1), .val (.ref b4), .val (.ref b7), .val (.int (p1 &&& (3 : Int32))), .val (.ref b4), .val (.int (40 : Int32)), .val (.int ((p2 &&& (2147483647 : Int32)) % (40 : Int32))), .val (.int ((p3 &&& (2147483647 : Int32)) % (40 : Int32))), .val (.int (0 : Int32)), .val (.ref b51)] [(.int (1 : Int32))])) ?_ (fun t k => XS.goto X57.here hx rfl (pc0 := 870) (pc' := 874) rfl (hb hby at_870) (by decide) (by decide) k)
            refine own_retN (t := .boolean) X57 hx Bd.returns (by simp) (by decide) (hb hby at_874) (by decide) (by decide) ?_
            exact ⟨rfl, N57⟩
        · refine Gen.on (b := T50.setTop (mkF m 826 #[.val (.int p1), .val (.int p2), .val (.int p3), .val (.int p4), .val (.int p5), .val (.int p6), .val (.int (own_i2c p6)), .val (.int (own_i2c p4)), .val (.int (own_i2c p5)), .val (.ref b1), .val (.ref b4), .val (.ref b7), .val (.int (p1 &&& (3 : Int32))), .val (.ref b4), .val (.int (40 : Int32)), .val (.int ((p2 &&& (2147483647 : Int32)) % (40 : Int32))), .val (.int ((p3 &&& (2147483647 : Int32)) % (40 : Int32))), .unset, .unset] [])) ?_ (fun t k => XS.ifNo X50.here hx rfl (hb hby at_823) rfl ((if0 _ _).trans (feq c823_4).1) k)
          refine Gen.on (b := T50.setTop (mkF m 828 #[.val (.int p1), .val (.int p2), .val (.int p3), .val (.int p4), .val (.int p5), .val (.int p6), .val (.int (own_i2c p6)), .val (.int (own_i2c p4)), .val (.int (own_i2c p5)), .val (.ref b1), .val (.ref b4), .val (.ref b7), .val (.int (p1 &&& (3 : Int32))), .val (.ref b4), .val (.int (40 : Int32)), .val (.int ((p2 &&& (2147483647 : Int32)) % (40 : Int32))), .val (.int ((p3 &&& (2147483647 : Int32)) % (40 : Int32))), .unset, .unset] [(.int ((p2 &&& (2147483647 : Int32)) % (40 : Int32)))])) ?_ (fun t k => XS.iload X50.here hx rfl (hb hby at_826) rfl k)
          refine Gen.on (b := T50.setTop (mkF m 830 #[.val (.int p1), .val (.int p2), .val (.int p3), .val (.int p4), .val (.int p5), .val (.int p6), .val (.int (own_i2c p6)), .val (.int (own_i2c p4)), .val (.int (own_i2c p5)), .val (.ref b1), .val (.ref b4), .val (.ref b7), .val (.int (p1 &&& (3 : Int32))), .val (.ref b4), .val (.int (40 : Int32)), .val (.int ((p2 &&& (2147483647 : Int32)) % (40 : Int32))), .val (.int ((p3 &&& (2147483647 : Int32)) % (40 : Int32))), .unset, .unset] [(.int ((p3 &&& (2147483647 : Int32)) % (40 : Int32))), (.int ((p2 &&& (2147483647 : Int32)) % (40 : Int32)))])) ?_ (fun t k => XS.iload X50.here hx rfl (hb hby at_828) rfl k)
          by_cases c830_5 : ((p2 &&& (2147483647 : Int32)) % (40 : Int32)) = ((p3 &&& (2147483647 : Int32)) % (40 : Int32))
          · refine Gen.on (b := T50.setTop (mkF m 841 #[.val (.int p1), .val (.int p2), .val (.int p3), .val (.int p4), .val (.int p5), .val (.int p6), .val (.int (own_i2c p6)), .val (.int (own_i2c p4)), .val (.int (own_i2c p5)), .val (.ref b1), .val (.ref b4), .val (.ref b7), .val (.int (p1 &&& (3 : Int32))), .val (.ref b4), .val (.int (40 : Int32)), .val (.int ((p2 &&& (2147483647 : Int32)) % (40 : Int32))), .val (.int ((p3 &&& (2147483647 : Int32)) % (40 : Int32))), .unset, .unset] [])) ?_ (fun t k => XS.icmpYes X50.here hx rfl (pc0 := 830) (pc' := 841) rfl (hb hby at_830) rfl (teq c830_5).1 (by decide) (by decide) k)
            refine Gen.on (b := T50.setTop (mkF m 842 #[.val (.int p1), .val (.int p2), .val (.int p3), .val (.int p4), .val (.int p5), .val (.int p6), .val (.int (own_i2c p6)), .val (.int (own_i2c p4)), .val (.int (own_i2c p5)), .val (.ref b1), .val (.ref b4), .val (.ref b7), .val (.int (p1 &&& (3 : Int32))), .val (.ref b4), .val (.int (40 : Int32)), .val (.int ((p2 &&& (2147483647 : Int32)) % (40 : Int32))), .val (.int ((p3 &&& (2147483647 : Int32)) % (40 : Int32))), .unset, .unset] [(.int (1 : Int32))])) ?_ (fun t k => XS.iconst X50.here hx rfl (hb hby at_841) k)
            refine Gen.on (b := T50.setTop (mkF m 846 #[.val (.int p1), .val (.int p2), .val (.int p3), .val (.int p4), .val (.int p5), .val (.int p6), .val (.int (own_i2c p6)), .val (.int (own_i2c p4)), .val (.int (own_i2c p5)), .val (.ref b1), .val (.ref b4), .val (.ref b7), .val (.int (p1 &&& (3 : Int32))), .val (.ref b4), .val (.int (40 : Int32)), .val (.int ((p2 &&& (2147483647 : Int32)) % (40 : Int32))), .val (.int ((p3 &&& (2147483647 : Int32)) % (40 : Int32))), .unset, .unset] [(.int (1 : Int32))])) ?_ (fun t k => XS.goto X50.here hx rfl (pc0 := 842) (pc' := 846) rfl (hb hby at_842) (by decide) (by decide) k)
            refine Gen.on (b := T50.setTop (mkF m 848 #[.val (.int p1), .val (.int p2), .val (.int p3), .val (.int p4), .val (.int p5), .val (.int p6), .val (.int (own_i2c p6)), .val (.int (own_i2c p4)), .val (.int (own_i2c p5)), .val (.ref b1), .val (.ref b4), .val (.ref b7), .val (.int (p1 &&& (3 : Int32))), .val (.ref b4), .val (.int (40 : Int32)), .val (.int ((p2 &&& (2147483647 : Int32)) % (40 : Int32))), .val (.int ((p3 &&& (2147483647 : Int32)) % (40 : Int32))), .val (.int (1 : Int32)), .unset] [])) ?_ (fun t k => XS.istore X50.here hx rfl (hb hby at_846) rfl (l' := #[.val (.int p1), .val (.int p2), .val (.int p3), .val (.int p4), .val (.int p5), .val (.int p6), .val (.int (own_i2c p6)), .val (.int (own_i2c p4)), .val (.int (own_i2c p5)), .val (.ref b1), .val (.ref b4), .val (.ref b7), .val (.int (p1 &&& (3 : Int32))), .val (.ref b4), .val (.int (40 : Int32)), .val (.int ((p2 &&& (2147483647 : Int32)) % (40 : Int32))), .val (.int ((p3 &&& (2147483647 : Int32)) % (40 : Int32))), .val (.int (1 : Int32)), .unset]) rfl k)
            have fa60 := ((((fa8.ext E7).keep Kc10 (ninS ne_b1_b7 nin0)).other W39 ne_b1_b4).other W40 ne_b1_b4)
            have fa61 := ((Y10.other W39 (Ne.symm ne_b4_b7)).other W40 (Ne.symm ne_b4_b7))
            obtain ⟨b59, g59⟩ : ∃ z, z = h40.size := ⟨_, rfl⟩
            have ne_b1_b59 : b1 ≠ b59 := Nat.ne_of_lt (Nat.lt_of_lt_of_le fa60.lt (Nat.le_of_eq g59.symm))
            have ne_b4_b59 : b4 ≠ b59 := Nat.ne_of_lt (Nat.lt_of_lt_of_le Y40.lt (Nat.le_of_eq g59.symm))
            have ne_b7_b59 : b7 ≠ b59 := Nat.ne_of_lt (Nat.lt_of_lt_of_le fa61.lt (Nat.le_of_eq g59.symm))
            have g_b59 : n0 ≤ b59 := Nat.le_trans Z40 (Nat.le_of_eq g59.symm)
            obtain ⟨T59, h59, X59, e59, E59, A59, D59, -, st59⟩ := newO X50 hx hZ hown (hw _ (List.mem_of_getElem? (i := 6) rfl)) (hw _ (List.mem_of_getElem? (i := 7) rfl)) (hw _ (List.mem_of_getElem? (i := 8) rfl)) e50 (g := (mkF m 848 #[.val (.int p1), .val (.int p2), .val (.int p3), .val (.int p4), .val (.int p5), .val (.int p6), .val (.int (own_i2c p6)), .val (.int (own_i2c p4)), .val (.int (own_i2c p5)), .val (.ref b1), .val (.ref b4), .val (.ref b7), .val (.int (p1 &&& (3 : Int32))), .val (.ref b4), .val (.int (40 : Int32)), .val (.int ((p2 &&& (2147483647 : Int32)) % (40 : Int32))), .val (.int ((p3 &&& (2147483647 : Int32)) % (40 : Int32))), .val (.int (1 : Int32)), .unset] [])) rfl (hb hby at_848) (by decide) (by decide)
            rw [← g59] at A59 D59 st59
            have Z59 : n0 ≤ h59.size := Nat.le_trans Z40 E59.1
            have F59_coder : Fld Z h59 b59 "java/lang/String" "coder" "B" (.int (0 : Int32)) := D59 (Or.inr (hw _ (List.mem_of_getElem? (i := 32) rfl))) (ty := .byte) (by decide)
            have F59_value : Fld Z h59 b59 "java/lang/String" "value" "[B" .null := D59 (Or.inr (hw _ (List.mem_of_getElem? (i := 34) rfl))) (ty := (.array .byte)) (by decide)
            refine Gen.on (b := T59.setTop (mkF m 851 #[.val (.int p1), .val (.int p2), .val (.int p3), .val (.int p4), .val (.int p5), .val (.int p6), .val (.int (own_i2c p6)), .val (.int (own_i2c p4)), .val (.int (own_i2c p5)), .val (.ref b1), .val (.ref b4), .val (.ref b7), .val (.int (p1 &&& (3 : Int32))), .val (.ref b4), .val (.int (40 : Int32)), .val (.int ((p2 &&& (2147483647 : Int32)) % (40 : Int32))), .val (.int ((p3 &&& (2147483647 : Int32)) % (40 : Int32))), .val (.int (1 : Int32)), .unset] [(.ref b59)])) ?_ (fun t k => st59 t k)
            refine Gen.on (b := T59.setTop (mkF m 852 #[.val (.int p1), .val (.int p2), .val (.int p3), .val (.int p4), .val (.int p5), .val (.int p6), .val (.int (own_i2c p6)), .val (.int (own_i2c p4)), .val (.int (own_i2c p5)), .val (.ref b1), .val (.ref b4), .val (.ref b7), .val (.int (p1 &&& (3 : Int32))), .val (.ref b4), .val (.int (40 : Int32)), .val (.int ((p2 &&& (2147483647 : Int32)) % (40 : Int32))), .val (.int ((p3 &&& (2147483647 : Int32)) % (40 : Int32))), .val (.int (1 : Int32)), .unset] [(.ref b59), (.ref b59)])) ?_ (fun t k => XS.dup X59.here hx rfl (hb hby at_851) rfl rfl k)
            refine Gen.on (b := T59.setTop (mkF m 854 #[.val (.int p1), .val (.int p2), .val (.int p3), .val (.int p4), .val (.int p5), .val (.int p6), .val (.int (own_i2c p6)), .val (.int (own_i2c p4)), .val (.int (own_i2c p5)), .val (.ref b1), .val (.ref b4), .val (.ref b7), .val (.int (p1 &&& (3 : Int32))), .val (.ref b4), .val (.int (40 : Int32)), .val (.int ((p2 &&& (2147483647 : Int32)) % (40 : Int32))), .val (.int ((p3 &&& (2147483647 : Int32)) % (40 : Int32))), .val (.int (1 : Int32)), .unset] [(.ref b4), (.ref b59), (.ref b59)])) ?_ (fun t k => XS.aload X59.here hx rfl (hb hby at_852) rfl rfl k)
            have fa63 := (Y40.ext E59)
            have fa64 := (((((((((OL.ext E1).keep Kc3 (allS g_b1 all0)).ext E4).keep Kc6 (allS g_b4 all0)).ext E7).keep Kc10 (allS g_b7 all0)).wr W39 g_b4).wr W40 g_b4).ext E59)
            obtain ⟨_, _, ⟨T62, L62, k62, n62⟩, -, X62, ⟨Lc62, hQ62, l62, y62, z62⟩, st62⟩ := X59.specialBack hx (y := (⟨"java/lang/String", "<init>", "([C)V"⟩ : MethodName)) rfl hown (mvT hZ (hw _ (List.mem_of_getElem? (i := 9) rfl))) (mvT hZ (hw _ (List.mem_of_getElem? (i := 10) rfl))) (mvT hZ (hw _ (List.mem_of_getElem? (i := 11) rfl))) (by decide) (backOf (W := 1) (rm2 l Z a0 hw [] b59 b4 .null (.int (0 : Int32)) (40 : Int32) (own_Y p6 p4 p5 ((p2 &&& (2147483647 : Int32)) % (40 : Int32)) ((p3 &&& (2147483647 : Int32)) % (40 : Int32))) (80 : Int32) w0 f0 h59 n0 Z59 A59 F59_value F59_coder fa63 fa64 g_b59 (sts) (by decide) (by decide) (by decide +kernel) (by decide) (by decide +kernel) (by decide +kernel) (by decide +kernel) (by decide +kernel) (own_Yb _ _ _ _ _ _) (by decide)) hZ (hw _ (List.mem_of_getElem? (i := 11) rfl)) (hw _ (List.mem_of_getElem? (i := 8) rfl)) (by decide) (by decide)) (g := (mkF m 854 #[.val (.int p1), .val (.int p2), .val (.int p3), .val (.int p4), .val (.int p5), .val (.int p6), .val (.int (own_i2c p6)), .val (.int (own_i2c p4)), .val (.int (own_i2c p5)), .val (.ref b1), .val (.ref b4), .val (.ref b7), .val (.int (p1 &&& (3 : Int32))), .val (.ref b4), .val (.int (40 : Int32)), .val (.int ((p2 &&& (2147483647 : Int32)) % (40 : Int32))), .val (.int ((p3 &&& (2147483647 : Int32)) % (40 : Int32))), .val (.int (1 : Int32)), .unset] [(.ref b4), (.ref b59), (.ref b59)])) rfl (by rw [hml]; rfl) (Steps.refl _) (a := b59) (argsL := [(.ref b4)]) (rest := [(.ref b59)]) (lenOf pd_0_0 rfl) rfl (by show 2 * 0 + _ ≤ _; exact Nat.le_of_eq rfl) (hb hby at_854) (fun _ _ => ⟨rfl, e59, (by decide : 4 + 2 ≤ _), (by decide : 124 + 123 ≤ _)⟩)
            dsimp only [Pt.U, Pt.locs, Pt.cells, Pt.slots] at X62 l62 y62 z62 st62 hQ62
            subst l62 y62 z62
            obtain ⟨rfl, N62q, Kc62, hf62_0, hf62_1⟩ := hQ62
            have N62 := Fr.app N50 N62q
            have Z62 : n0 ≤ T62.heap.size := Nat.le_trans Z59 Kc62.1
            refine Gen.on (b := T62.setTop (mkF m 857 #[.val (.int p1), .val (.int p2), .val (.int p3), .val (.int p4), .val (.int p5), .val (.int p6), .val (.int (own_i2c p6)), .val (.int (own_i2c p4)), .val (.int (own_i2c p5)), .val (.ref b1), .val (.ref b4), .val (.ref b7), .val (.int (p1 &&& (3 : Int32))), .val (.ref b4), .val (.int (40 : Int32)), .val (.int ((p2 &&& (2147483647 : Int32)) % (40 : Int32))), .val (.int ((p3 &&& (2147483647 : Int32)) % (40 : Int32))), .val (.int (1 : Int32)), .unset] [(.ref b59)])) ?_ (fun t k => st62.trans k)
            refine Gen.on (b := T62.setTop (mkF m 859 #[.val (.int p1), .val (.int p2), .val (.int p3), .val (.int p4), .val (.int p5), .val (.int p6), .val (.int (own_i2c p6)), .val (.int (own_i2c p4)), .val (.int (own_i2c p5)), .val (.ref b1), .val (.ref b4), .val (.ref b7), .val (.int (p1 &&& (3 : Int32))), .val (.ref b4), .val (.int (40 : Int32)), .val (.int ((p2 &&& (2147483647 : Int32)) % (40 : Int32))), .val (.int ((p3 &&& (2147483647 : Int32)) % (40 : Int32))), .val (.int (1 : Int32)), .val (.ref b59)] [])) ?_ (fun t k => XS.astore X62.here hx rfl (hb hby at_857) rfl rfl (l' := #[.val (.int p1), .val (.int p2), .val (.int p3), .val (.int p4), .val (.int p5), .val (.int p6), .val (.int (own_i2c p6)), .val (.int (own_i2c p4)), .val (.int (own_i2c p5)), .val (.ref b1), .val (.ref b4), .val (.ref b7), .val (.int (p1 &&& (3 : Int32))), .val (.ref b4), .val (.int (40 : Int32)), .val (.int ((p2 &&& (2147483647 : Int32)) % (40 : Int32))), .val (.int ((p3 &&& (2147483647 : Int32)) % (40 : Int32))), .val (.int (1 : Int32)), .val (.ref b59)]) rfl k)
            refine Gen.on (b := T62.setTop (mkF m 861 #[.val (.int p1), .val (.int p2), .val (.int p3), .val (.int p4), .val (.int p5), .val (.int p6), .val (.int (own_i2c p6)), .val (.int (own_i2c p4)), .val (.int (own_i2c p5)), .val (.ref b1), .val (.ref b4), .val (.ref b7), .val (.int (p1 &&& (3 : Int32))), .val (.ref b4), .val (.int (40 : Int32)), .val (.int ((p2 &&& (2147483647 : Int32)) % (40 : Int32))), .val (.int ((p3 &&& (2147483647 : Int32)) % (40 : Int32))), .val (.int (1 : Int32)), .val (.ref b59)] [(.ref b59)])) ?_ (fun t k => XS.aload X62.here hx rfl (hb hby at_859) rfl rfl k)
            have fa66 := (fa64.keep Kc62 (allS g_b59 all0))
            obtain ⟨_, _, ⟨T65, L65, k65, n65⟩, -, X65, ⟨Lc65, hQ65, l65, y65, z65⟩, st65⟩ := Jvm.LawKit.callS X62 hx (y := (⟨"com/example/bandwarden/bandwarden/protocol/Sha1", "isHex", "(Ljava/lang/String;)Z"⟩ : MethodName)) hown (mvT hZ (hw _ (List.mem_of_getElem? (i := 35) rfl))) (mvT hZ (hw _ (List.mem_of_getElem? (i := 36) rfl))) (mvT hZ (hw _ (List.mem_of_getElem? (i := 37) rfl))) (mvT hZ (hw _ (List.mem_of_getElem? (i := 38) rfl))) (by decide) (backOf (W := 0) (rm8 l Z a0 hw [] b59 (40 : Int32) (own_Y p6 p4 p5 ((p2 &&& (2147483647 : Int32)) % (40 : Int32)) ((p3 &&& (2147483647 : Int32)) % (40 : Int32))) w0 f0 T62.heap n0 Z62 hf62_0 hf62_1 fa66 sts) hZ (hw _ (List.mem_of_getElem? (i := 38) rfl)) (hw _ (List.mem_of_getElem? (i := 37) rfl)) (by decide) (by decide)) (g := (mkF m 861 #[.val (.int p1), .val (.int p2), .val (.int p3), .val (.int p4), .val (.int p5), .val (.int p6), .val (.int (own_i2c p6)), .val (.int (own_i2c p4)), .val (.int (own_i2c p5)), .val (.ref b1), .val (.ref b4), .val (.ref b7), .val (.int (p1 &&& (3 : Int32))), .val (.ref b4), .val (.int (40 : Int32)), .val (.int ((p2 &&& (2147483647 : Int32)) % (40 : Int32))), .val (.int ((p3 &&& (2147483647 : Int32)) % (40 : Int32))), .val (.int (1 : Int32)), .val (.ref b59)] [(.ref b59)])) rfl (by rw [hml]; rfl) (argsL := [(.ref b59)]) (rest := []) (lenOf pd_0_1 rfl) rfl (by show 2 * 0 + _ ≤ _; exact Nat.le_of_eq rfl) (hb hby at_861) (fun _ _ => ⟨rfl, rfl, (by decide : 6 + 0 ≤ _), (by decide : 247 + 0 ≤ _)⟩)
            dsimp only [Pt.U, Pt.locs, Pt.cells, Pt.slots] at X65 l65 y65 z65 st65 hQ65
            subst l65 y65 z65
            obtain ⟨r65, rfl, N65q, e65, hH65⟩ := hQ65
            have N65 := Fr.app N62 N65q
            rcases hH65 with ⟨rfl, hz, hall⟩ | ⟨rfl, hno⟩
            · refine Gen.on (b := T65.setTop (mkF m 864 #[.val (.int p1), .val (.int p2), .val (.int p3), .val (.int p4), .val (.int p5), .val (.int p6), .val (.int (own_i2c p6)), .val (.int (own_i2c p4)), .val (.int (own_i2c p5)), .val (.ref b1), .val (.ref b4), .val (.ref b7), .val (.int (p1 &&& (3 : Int32))), .val (.ref b4), .val (.int (40 : Int32)), .val (.int ((p2 &&& (2147483647 : Int32)) % (40 : Int32))), .val (.int ((p3 &&& (2147483647 : Int32)) % (40 : Int32))), .val (.int (1 : Int32)), .val (.ref b59)] [(.int (1 : Int32))])) ?_ (fun t k => st65 t k)
              refine Gen.on (b := T65.setTop (mkF m 866 #[.val (.int p1), .val (.int p2), .val (.int p3), .val (.int p4), .val (.int p5), .val (.int p6), .val (.int (own_i2c p6)), .val (.int (own_i2c p4)), .val (.int (own_i2c p5)), .val (.ref b1), .val (.ref b4), .val (.ref b7), .val (.int (p1 &&& (3 : Int32))), .val (.ref b4), .val (.int (40 : Int32)), .val (.int ((p2 &&& (2147483647 : Int32)) % (40 : Int32))), .val (.int ((p3 &&& (2147483647 : Int32)) % (40 : Int32))), .val (.int (1 : Int32)), .val (.ref b59)] [(.int (1 : Int32)), (.int (1 : Int32))])) ?_ (fun t k => XS.iload X65.here hx rfl (hb hby at_864) rfl k)
              refine Gen.on (b := T65.setTop (mkF m 869 #[.val (.int p1), .val (.int p2), .val (.int p3), .val (.int p4), .val (.int p5), .val (.int p6), .val (.int (own_i2c p6)), .val (.int (own_i2c p4)), .val (.int (own_i2c p5)), .val (.ref b1), .val (.ref b4), .val (.ref b7), .val (.int (p1 &&& (3 : Int32))), .val (.ref b4), .val (.int (40 : Int32)), .val (.int ((p2 &&& (2147483647 : Int32)) % (40 : Int32))), .val (.int ((p3 &&& (2147483647 : Int32)) % (40 : Int32))), .val (.int (1 : Int32)), .val (.ref b59)] [])) ?_ (fun t k => XS.icmpNo X65.here hx rfl (hb hby at_866) rfl (teq (by decide : (1 : Int32) = (1 : Int32))).2 k)
              refine Gen.on (b := T65.setTop (mkF m 870 #[.val (.int p1), .val (.int p2), .val (.int p3), .val (.int p4), .val (.int p5), .val (.int p6), .val (.int (own_i2c p6)), .val (.int (own_i2c p4)), .val (.int (own_i2c p5)), .val (.ref b1), .val (.ref b4), .val (.ref b7), .val (.int (p1 &&& (3 : Int32))), .val (.ref b4), .val (.int (40 : Int32)), .val (.int ((p2 &&& (2147483647 : Int32)) % (40 : Int32))), .val (.int ((p3 &&& (2147483647 : Int32)) % (40 : Int32))), .val (.int (1 : Int32)), .val (.ref b59)] [(.int (1 : Int32))])) ?_ (fun t k => XS.iconst X65.here hx rfl (hb hby at_869) k)
              refine Gen.on (b := T65.setTop (mkF m 874 #[.val (.int p1), .val (.int p2), .val (.int p3), .val (.int p4), .val (.int p5), .val (.int p6), .val (.int (own_i2c p6)), .val (.int (own_i2c p4)), .val (.int (own_i2c p5)), .val (.ref b1), .val (.ref b4), .val (.ref b7), .val (.int (p1 &&& (3 : Int32))), .val (.ref b4), .val (.int (40 : Int32)), .val (.int ((p2 &&& (2147483647 : Int32)) % (40 : Int32))), .val (.int ((p3 &&& (2147483647 : Int32)) % (40 : Int32))), .val (.int (1 : Int32)), .val (.ref b59)] [(.int (1 : Int32))])) ?_ (fun t k => XS.goto X65.here hx rfl (pc0 := 870) (pc' := 874) rfl (hb hby at_870) (by decide) (by decide) k)
              refine own_retN (t := .boolean) X65 hx Bd.returns (by simp) (by decide) (hb hby at_874) (by decide) (by decide) ?_
              exact ⟨rfl, N65⟩
            · exact absurd ⟨rfl, fun j _ _ => own_all c815_3 c823_4 (Or.inl c830_5) j⟩ hno
          · refine Gen.on (b := T50.setTop (mkF m 833 #[.val (.int p1), .val (.int p2), .val (.int p3), .val (.int p4), .val (.int p5), .val (.int p6), .val (.int (own_i2c p6)), .val (.int (own_i2c p4)), .val (.int (own_i2c p5)), .val (.ref b1), .val (.ref b4), .val (.ref b7), .val (.int (p1 &&& (3 : Int32))), .val (.ref b4), .val (.int (40 : Int32)), .val (.int ((p2 &&& (2147483647 : Int32)) % (40 : Int32))), .val (.int ((p3 &&& (2147483647 : Int32)) % (40 : Int32))), .unset, .unset] [])) ?_ (fun t k => XS.icmpNo X50.here hx rfl (hb hby at_830) rfl (feq c830_5).1 k)
            refine Gen.on (b := T50.setTop (mkF m 835 #[.val (.int p1), .val (.int p2), .val (.int p3), .val (.int p4), .val (.int p5), .val (.int p6), .val (.int (own_i2c p6)), .val (.int (own_i2c p4)), .val (.int (own_i2c p5)), .val (.ref b1), .val (.ref b4), .val (.ref b7), .val (.int (p1 &&& (3 : Int32))), .val (.ref b4), .val (.int (40 : Int32)), .val (.int ((p2 &&& (2147483647 : Int32)) % (40 : Int32))), .val (.int ((p3 &&& (2147483647 : Int32)) % (40 : Int32))), .unset, .unset] [(.int (own_i2c p4))])) ?_ (fun t k => XS.iload X50.here hx rfl (hb hby at_833) rfl k)
            obtain ⟨_, _, ⟨T67, L67, k67, n67⟩, -, X67, ⟨Lc67, hQ67, l67, y67, z67⟩, st67⟩ := Jvm.LawKit.callS X50 hx (y := (⟨"com/example/bandwarden/bandwarden/protocol/Sha1IsHexPinLaw", "ok", "(C)Z"⟩ : MethodName)) hown (mvT hZ (hw _ (List.mem_of_getElem? (i := 2) rfl))) (mvT hZ (hw _ (List.mem_of_getElem? (i := 3) rfl))) (mvT hZ (hw _ (List.mem_of_getElem? (i := 4) rfl))) (mvT hZ (hw _ (List.mem_of_getElem? (i := 5) rfl))) (by decide) (backOf (W := 0) (rm1 l Z a0 hw [] (own_i2c p4)  h40 n0 Z40 ) hZ (hw _ (List.mem_of_getElem? (i := 5) rfl)) (hw _ (List.mem_of_getElem? (i := 4) rfl)) (by decide) (by decide)) (g := (mkF m 835 #[.val (.int p1), .val (.int p2), .val (.int p3), .val (.int p4), .val (.int p5), .val (.int p6), .val (.int (own_i2c p6)), .val (.int (own_i2c p4)), .val (.int (own_i2c p5)), .val (.ref b1), .val (.ref b4), .val (.ref b7), .val (.int (p1 &&& (3 : Int32))), .val (.ref b4), .val (.int (40 : Int32)), .val (.int ((p2 &&& (2147483647 : Int32)) % (40 : Int32))), .val (.int ((p3 &&& (2147483647 : Int32)) % (40 : Int32))), .unset, .unset] [(.int (own_i2c p4))])) rfl (by rw [hml]; rfl) (argsL := [(.int (own_i2c p4))]) (rest := []) (lenOf pd_0_2 rfl) rfl (by show 2 * 0 + _ ≤ _; exact Nat.le_of_eq rfl) (hb hby at_835) (fun _ _ => ⟨rfl, e50, (by decide : 3 + 0 ≤ _), (by decide : 120 + 0 ≤ _)⟩)
            dsimp only [Pt.U, Pt.locs, Pt.cells, Pt.slots] at X67 l67 y67 z67 st67 hQ67
            subst l67 y67 z67
            obtain ⟨rfl, N67q, e67⟩ := hQ67
            have N67 := Fr.app N50 N67q
            refine Gen.on (b := T67.setTop (mkF m 838 #[.val (.int p1), .val (.int p2), .val (.int p3), .val (.int p4), .val (.int p5), .val (.int p6), .val (.int (own_i2c p6)), .val (.int (own_i2c p4)), .val (.int (own_i2c p5)), .val (.ref b1), .val (.ref b4), .val (.ref b7), .val (.int (p1 &&& (3 : Int32))), .val (.ref b4), .val (.int (40 : Int32)), .val (.int ((p2 &&& (2147483647 : Int32)) % (40 : Int32))), .val (.int ((p3 &&& (2147483647 : Int32)) % (40 : Int32))), .unset, .unset] [(.int (f1 (own_i2c p4)))])) ?_ (fun t k => st67 t k)
            by_cases c838_6 : (f1 (own_i2c p4)) = (0 : Int32)
            · refine Gen.on (b := T67.setTop (mkF m 845 #[.val (.int p1), .val (.int p2), .val (.int p3), .val (.int p4), .val (.int p5), .val (.int p6), .val (.int (own_i2c p6)), .val (.int (own_i2c p4)), .val (.int (own_i2c p5)), .val (.ref b1), .val (.ref b4), .val (.ref b7), .val (.int (p1 &&& (3 : Int32))), .val (.ref b4), .val (.int (40 : Int32)), .val (.int ((p2 &&& (2147483647 : Int32)) % (40 : Int32))), .val (.int ((p3 &&& (2147483647 : Int32)) % (40 : Int32))), .unset, .unset] [])) ?_ (fun t k => XS.ifYes X67.here hx rfl (pc0 := 838) (pc' := 845) rfl (hb hby at_838) rfl ((if0 _ _).trans (teq c838_6).1) (by decide) (by decide) k)
              refine Gen.on (b := T67.setTop (mkF m 846 #[.val (.int p1), .val (.int p2), .val (.int p3), .val (.int p4), .val (.int p5), .val (.int p6), .val (.int (own_i2c p6)), .val (.int (own_i2c p4)), .val (.int (own_i2c p5)), .val (.ref b1), .val (.ref b4), .val (.ref b7), .val (.int (p1 &&& (3 : Int32))), .val (.ref b4), .val (.int (40 : Int32)), .val (.int ((p2 &&& (2147483647 : Int32)) % (40 : Int32))), .val (.int ((p3 &&& (2147483647 : Int32)) % (40 : Int32))), .unset, .unset] [(.int (0 : Int32))])) ?_ (fun t k => XS.iconst X67.here hx rfl (hb hby at_845) k)
              refine Gen.on (b := T67.setTop (mkF m 848 #[.val (.int p1), .val (.int p2), .val (.int p3), .val (.int p4), .val (.int p5), .val (.int p6), .val (.int (own_i2c p6)), .val (.int (own_i2c p4)), .val (.int (own_i2c p5)), .val (.ref b1), .val (.ref b4), .val (.ref b7), .val (.int (p1 &&& (3 : Int32))), .val (.ref b4), .val (.int (40 : Int32)), .val (.int ((p2 &&& (2147483647 : Int32)) % (40 : Int32))), .val (.int ((p3 &&& (2147483647 : Int32)) % (40 : Int32))), .val (.int (0 : Int32)), .unset] [])) ?_ (fun t k => XS.istore X67.here hx rfl (hb hby at_846) rfl (l' := #[.val (.int p1), .val (.int p2), .val (.int p3), .val (.int p4), .val (.int p5), .val (.int p6), .val (.int (own_i2c p6)), .val (.int (own_i2c p4)), .val (.int (own_i2c p5)), .val (.ref b1), .val (.ref b4), .val (.ref b7), .val (.int (p1 &&& (3 : Int32))), .val (.ref b4), .val (.int (40 : Int32)), .val (.int ((p2 &&& (2147483647 : Int32)) % (40 : Int32))), .val (.int ((p3 &&& (2147483647 : Int32)) % (40 : Int32))), .val (.int (0 : Int32)), .unset]) rfl k)
              have fa69 := ((((fa8.ext E7).keep Kc10 (ninS ne_b1_b7 nin0)).other W39 ne_b1_b4).other W40 ne_b1_b4)
              have fa70 := ((Y10.other W39 (Ne.symm ne_b4_b7)).other W40 (Ne.symm ne_b4_b7))
              obtain ⟨b68, g68⟩ : ∃ z, z = h40.size := ⟨_, rfl⟩
              have ne_b1_b68 : b1 ≠ b68 := Nat.ne_of_lt (Nat.lt_of_lt_of_le fa69.lt (Nat.le_of_eq g68.symm))
              have ne_b4_b68 : b4 ≠ b68 := Nat.ne_of_lt (Nat.lt_of_lt_of_le Y40.lt (Nat.le_of_eq g68.symm))
              have ne_b7_b68 : b7 ≠ b68 := Nat.ne_of_lt (Nat.lt_of_lt_of_le fa70.lt (Nat.le_of_eq g68.symm))
              have g_b68 : n0 ≤ b68 := Nat.le_trans Z40 (Nat.le_of_eq g68.symm)
              obtain ⟨T68, h68, X68, e68, E68, A68, D68, -, st68⟩ := newO X67 hx hZ hown (hw _ (List.mem_of_getElem? (i := 6) rfl)) (hw _ (List.mem_of_getElem? (i := 7) rfl)) (hw _ (List.mem_of_getElem? (i := 8) rfl)) e67 (g := (mkF m 848 #[.val (.int p1), .val (.int p2), .val (.int p3), .val (.int p4), .val (.int p5), .val (.int p6), .val (.int (own_i2c p6)), .val (.int (own_i2c p4)), .val (.int (own_i2c p5)), .val (.ref b1), .val (.ref b4), .val (.ref b7), .val (.int (p1 &&& (3 : Int32))), .val (.ref b4), .val (.int (40 : Int32)), .val (.int ((p2 &&& (2147483647 : Int32)) % (40 : Int32))), .val (.int ((p3 &&& (2147483647 : Int32)) % (40 : Int32))), .val (.int (0 : Int32)), .unset] [])) rfl (hb hby at_848) (by decide) (by decide)
              rw [← g68] at A68 D68 st68
              have Z68 : n0 ≤ h68.size := Nat.le_trans Z40 E68.1
              have F68_coder : Fld Z h68 b68 "java/lang/String" "coder" "B" (.int (0 : Int32)) := D68 (Or.inr (hw _ (List.mem_of_getElem? (i := 32) rfl))) (ty := .byte) (by decide)
              have F68_value : Fld Z h68 b68 "java/lang/String" "value" "[B" .null := D68 (Or.inr (hw _ (List.mem_of_getElem? (i := 34) rfl))) (ty := (.array .byte)) (by decide)
              refine Gen.on (b := T68.setTop (mkF m 851 #[.val (.int p1), .val (.int p2), .val (.int p3), .val (.int p4), .val (.int p5), .val (.int p6), .val (.int (own_i2c p6)), .val (.int (own_i2c p4)), .val (.int (own_i2c p5)), .val (.ref b1), .val (.ref b4), .val (.ref b7), .val (.int (p1 &&& (3 : Int32))), .val (.ref b4), .val (.int (40 : Int32)), .val (.int ((p2 &&& (2147483647 : Int32)) % (40 : Int32))), .val (.int ((p3 &&& (2147483647 : Int32)) % (40 : Int32))), .val (.int (0 : Int32)), .unset] [(.ref b68)])) ?_ (fun t k => st68 t k)
              refine Gen.on (b := T68.setTop (mkF m 852 #[.val (.int p1), .val (.int p2), .val (.int p3), .val (.int p4), .val (.int p5), .val (.int p6), .val (.int (own_i2c p6)), .val (.int (own_i2c p4)), .val (.int (own_i2c p5)), .val (.ref b1), .val (.ref b4), .val (.ref b7), .val (.int (p1 &&& (3 : Int32))), .val (.ref b4), .val (.int (40 : Int32)), .val (.int ((p2 &&& (2147483647 : Int32)) % (40 : Int32))), .val (.int ((p3 &&& (2147483647 : Int32)) % (40 : Int32))), .val (.int (0 : Int32)), .unset] [(.ref b68), (.ref b68)])) ?_ (fun t k => XS.dup X68.here hx rfl (hb hby at_851) rfl rfl k)
              refine Gen.on (b := T68.setTop (mkF m 854 #[.val (.int p1), .val (.int p2), .val (.int p3), .val (.int p4), .val (.int p5), .val (.int p6), .val (.int (own_i2c p6)), .val (.int (own_i2c p4)), .val (.int (own_i2c p5)), .val (.ref b1), .val (.ref b4), .val (.ref b7), .val (.int (p1 &&& (3 : Int32))), .val (.ref b4), .val (.int (40 : Int32)), .val (.int ((p2 &&& (2147483647 : Int32)) % (40 : Int32))), .val (.int ((p3 &&& (2147483647 : Int32)) % (40 : Int32))), .val (.int (0 : Int32)), .unset] [(.ref b4), (.ref b68), (.ref b68)])) ?_ (fun t k => XS.aload X68.here hx rfl (hb hby at_852) rfl rfl k)
              have fa72 := (Y40.ext E68)
              have fa73 := (((((((((OL.ext E1).keep Kc3 (allS g_b1 all0)).ext E4).keep Kc6 (allS g_b4 all0)).ext E7).keep Kc10 (allS g_b7 all0)).wr W39 g_b4).wr W40 g_b4).ext E68)
              obtain ⟨_, _, ⟨T71, L71, k71, n71⟩, -, X71, ⟨Lc71, hQ71, l71, y71, z71⟩, st71⟩ := X68.specialBack hx (y := (⟨"java/lang/String", "<init>", "([C)V"⟩ : MethodName)) rfl hown (mvT hZ (hw _ (List.mem_of_getElem? (i := 9) rfl))) (mvT hZ (hw _ (List.mem_of_getElem? (i := 10) rfl))) (mvT hZ (hw _ (List.mem_of_getElem? (i := 11) rfl))) (by decide) (backOf (W := 1) (rm2 l Z a0 hw [] b68 b4 .null (.int (0 : Int32)) (40 : Int32) (own_Y p6 p4 p5 ((p2 &&& (2147483647 : Int32)) % (40 : Int32)) ((p3 &&& (2147483647 : Int32)) % (40 : Int32))) (80 : Int32) w0 f0 h68 n0 Z68 A68 F68_value F68_coder fa72 fa73 g_b68 (sts) (by decide) (by decide) (by decide +kernel) (by decide) (by decide +kernel) (by decide +kernel) (by decide +kernel) (by decide +kernel) (own_Yb _ _ _ _ _ _) (by decide)) hZ (hw _ (List.mem_of_getElem? (i := 11) rfl)) (hw _ (List.mem_of_getElem? (i := 8) rfl)) (by decide) (by decide)) (g := (mkF m 854 #[.val (.int p1), .val (.int p2), .val (.int p3), .val (.int p4), .val (.int p5), .val (.int p6), .val (.int (own_i2c p6)), .val (.int (own_i2c p4)), .val (.int (own_i2c p5)), .val (.ref b1), .val (.ref b4), .val (.ref b7), .val (.int (p1 &&& (3 : Int32))), .val (.ref b4), .val (.int (40 : Int32)), .val (.int ((p2 &&& (2147483647 : Int32)) % (40 : Int32))), .val (.int ((p3 &&& (2147483647 : Int32)) % (40 : Int32))), .val (.int (0 : Int32)), .unset] [(.ref b4), (.ref b68), (.ref b68)])) rfl (by rw [hml]; rfl) (Steps.refl _) (a := b68) (argsL := [(.ref b4)]) (rest := [(.ref b68)]) (lenOf pd_0_0 rfl) rfl (by show 2 * 0 + _ ≤ _; exact Nat.le_of_eq rfl) (hb hby at_854) (fun _ _ => ⟨rfl, e68, (by decide : 4 + 2 ≤ _), (by decide : 124 + 123 ≤ _)⟩)
              dsimp only [Pt.U, Pt.locs, Pt.cells, Pt.slots] at X71 l71 y71 z71 st71 hQ71
              subst l71 y71 z71
              obtain ⟨rfl, N71q, Kc71, hf71_0, hf71_1⟩ := hQ71
              have N71 := Fr.app N67 N71q
              have Z71 : n0 ≤ T71.heap.size := Nat.le_trans Z68 Kc71.1
              refine Gen.on (b := T71.setTop (mkF m 857 #[.val (.int p1), .val (.int p2), .val (.int p3), .val (.int p4), .val (.int p5), .val (.int p6), .val (.int (own_i2c p6)), .val (.int (own_i2c p4)), .val (.int (own_i2c p5)), .val (.ref b1), .val (.ref b4), .val (.ref b7), .val (.int (p1 &&& (3 : Int32))), .val (.ref b4), .val (.int (40 : Int32)), .val (.int ((p2 &&& (2147483647 : Int32)) % (40 : Int32))), .val (.int ((p3 &&& (2147483647 : Int32)) % (40 : Int32))), .val (.int (0 : Int32)), .unset] [(.ref b68)])) ?_ (fun t k => st71.trans k)
              refine Gen.on (b := T71.setTop (mkF m 859 #[.val (.int p1), .val (.int p2), .val (.int p3), .val (.int p4), .val (.int p5), .val (.int p6), .val (.int (own_i2c p6)), .val (.int (own_i2c p4)), .val (.int (own_i2c p5)), .val (.ref b1), .val (.ref b4), .val (.ref b7), .val (.int (p1 &&& (3 : Int32))), .val (.ref b4), .val (.int (40 : Int32)), .val (.int ((p2 &&& (2147483647 : Int32)) % (40 : Int32))), .val (.int ((p3 &&& (2147483647 : Int32)) % (40 : Int32))), .val (.int (0 : Int32)), .val (.ref b68)] [])) ?_ (fun t k => XS.astore X71.here hx rfl (hb hby at_857) rfl rfl (l' := #[.val (.int p1), .val (.int p2), .val (.int p3), .val (.int p4), .val (.int p5), .val (.int p6), .val (.int (own_i2c p6)), .val (.int (own_i2c p4)), .val (.int (own_i2c p5)), .val (.ref b1), .val (.ref b4), .val (.ref b7), .val (.int (p1 &&& (3 : Int32))), .val (.ref b4), .val (.int (40 : Int32)), .val (.int ((p2 &&& (2147483647 : Int32)) % (40 : Int32))), .val (.int ((p3 &&& (2147483647 : Int32)) % (40 : Int32))), .val (.int (0 : Int32)), .val (.ref b68)]) rfl k)
              refine Gen.on (b := T71.setTop (mkF m 861 #[.val (.int p1), .val (.int p2), .val (.int p3), .val (.int p4), .val (.int p5), .val (.int p6), .val (.int (own_i2c p6)), .val (.int (own_i2c p4)), .val (.int (own_i2c p5)), .val (.ref b1), .val (.ref b4), .val (.ref b7), .val (.int (p1 &&& (3 : Int32))), .val (.ref b4), .val (.int (40 : Int32)), .val (.int ((p2 &&& (2147483647 : Int32)) % (40 : Int32))), .val (.int ((p3 &&& (2147483647 : Int32)) % (40 : Int32))), .val (.int (0 : Int32)), .val (.ref b68)] [(.ref b68)])) ?_ (fun t k => XS.aload X71.here hx rfl (hb hby at_859) rfl rfl k)
              have fa75 := (fa73.keep Kc71 (allS g_b68 all0))
              obtain ⟨_, _, ⟨T74, L74, k74, n74⟩, -, X74, ⟨Lc74, hQ74, l74, y74, z74⟩, st74⟩ := Jvm.LawKit.callS X71 hx (y := (⟨"com/example/bandwarden/bandwarden/protocol/Sha1", "isHex", "(Ljava/lang/String;)Z"⟩ : MethodName)) hown (mvT hZ (hw _ (List.mem_of_getElem? (i := 35) rfl))) (mvT hZ (hw _ (List.mem_of_getElem? (i := 36) rfl))) (mvT hZ (hw _ (List.mem_of_getElem? (i := 37) rfl))) (mvT hZ (hw _ (List.mem_of_getElem? (i := 38) rfl))) (by decide) (backOf (W := 0) (rm8 l Z a0 hw [] b68 (40 : Int32) (own_Y p6 p4 p5 ((p2 &&& (2147483647 : Int32)) % (40 : Int32)) ((p3 &&& (2147483647 : Int32)) % (40 : Int32))) w0 f0 T71.heap n0 Z71 hf71_0 hf71_1 fa75 sts) hZ (hw _ (List.mem_of_getElem? (i := 38) rfl)) (hw _ (List.mem_of_getElem? (i := 37) rfl)) (by decide) (by decide)) (g := (mkF m 861 #[.val (.int p1), .val (.int p2), .val (.int p3), .val (.int p4), .val (.int p5), .val (.int p6), .val (.int (own_i2c p6)), .val (.int (own_i2c p4)), .val (.int (own_i2c p5)), .val (.ref b1), .val (.ref b4), .val (.ref b7), .val (.int (p1 &&& (3 : Int32))), .val (.ref b4), .val (.int (40 : Int32)), .val (.int ((p2 &&& (2147483647 : Int32)) % (40 : Int32))), .val (.int ((p3 &&& (2147483647 : Int32)) % (40 : Int32))), .val (.int (0 : Int32)), .val (.ref b68)] [(.ref b68)])) rfl (by rw [hml]; rfl) (argsL := [(.ref b68)]) (rest := []) (lenOf pd_0_1 rfl) rfl (by show 2 * 0 + _ ≤ _; exact Nat.le_of_eq rfl) (hb hby at_861) (fun _ _ => ⟨rfl, rfl, (by decide : 6 + 0 ≤ _), (by decide : 247 + 0 ≤ _)⟩)
              dsimp only [Pt.U, Pt.locs, Pt.cells, Pt.slots] at X74 l74 y74 z74 st74 hQ74
              subst l74 y74 z74
              obtain ⟨r74, rfl, N74q, e74, hH74⟩ := hQ74
              have N74 := Fr.app N71 N74q
              rcases hH74 with ⟨rfl, hz, hall⟩ | ⟨rfl, hno⟩
              · exact absurd c838_6 (own_ca hall (own_mod p2 (40 : Int32) (by decide +kernel)).1 (own_mod p2 (40 : Int32) (by decide +kernel)).2 c830_5)
              · refine Gen.on (b := T74.setTop (mkF m 864 #[.val (.int p1), .val (.int p2), .val (.int p3), .val (.int p4), .val (.int p5), .val (.int p6), .val (.int (own_i2c p6)), .val (.int (own_i2c p4)), .val (.int (own_i2c p5)), .val (.ref b1), .val (.ref b4), .val (.ref b7), .val (.int (p1 &&& (3 : Int32))), .val (.ref b4), .val (.int (40 : Int32)), .val (.int ((p2 &&& (2147483647 : Int32)) % (40 : Int32))), .val (.int ((p3 &&& (2147483647 : Int32)) % (40 : Int32))), .val (.int (0 : Int32)), .val (.ref b68)] [(.int (0 : Int32))])) ?_ (fun t k => st74 t k)
                refine Gen.on (b := T74.setTop (mkF m 866 #[.val (.int p1), .val (.int p2), .val (.int p3), .val (.int p4), .val (.int p5), .val (.int p6), .val (.int (own_i2c p6)), .val (.int (own_i2c p4)), .val (.int (own_i2c p5)), .val (.ref b1), .val (.ref b4), .val (.ref b7), .val (.int (p1 &&& (3 : Int32))), .val (.ref b4), .val (.int (40 : Int32)), .val (.int ((p2 &&& (2147483647 : Int32)) % (40 : Int32))), .val (.int ((p3 &&& (2147483647 : Int32)) % (40 : Int32))), .val (.int (0 : Int32)), .val (.ref b68)] [(.int (0 : Int32)), (.int (0 : Int32))])) ?_ (fun t k => XS.iload X74.here hx rfl (hb hby at_864) rfl k)
                refine Gen.on (b := T74.setTop (mkF m 869 #[.val (.int p1), .val (.int p2), .val (.int p3), .val (.int p4), .val (.int p5), .val (.int p6), .val (.int (own_i2c p6)), .val (.int (own_i2c p4)), .val (.int (own_i2c p5)), .val (.ref b1), .val (.ref b4), .val (.ref b7), .val (.int (p1 &&& (3 : Int32))), .val (.ref b4), .val (.int (40 : Int32)), .val (.int ((p2 &&& (2147483647 : Int32)) % (40 : Int32))), .val (.int ((p3 &&& (2147483647 : Int32)) % (40 : Int32))), .val (.int (0 : Int32)), .val (.ref b68)] [])) ?_ (fun t k => XS.icmpNo X74.here hx rfl (hb hby at_866) rfl (teq (by decide : (0 : Int32) = (0 : Int32))).2 k)
                refine Gen.on (b := T74.setTop (mkF m 870 #[.val (.int p1), .val (.int p2), .val (.int p3), .val (.int p4), .val (.int p5), .val (.int p6), .val (.int (own_i2c p6)), .val (.int (own_i2c p4)), .val (.int (own_i2c p5)), .val (.ref b1), .val (.ref b4), .val (.ref b7), .val (.int (p1 &&& (3 : Int32))), .val (.ref b4), .val (.int (40 : Int32)), .val (.int ((p2 &&& (2147483647 : Int32)) % (40 : Int32))), .val (.int ((p3 &&& (2147483647 : Int32)) % (40 : Int32))), .val (.int (0 : Int32)), .val (.ref b68)] [(.int (1 : Int32))])) ?_ (fun t k => XS.iconst X74.here hx rfl (hb hby at_869) k)
                refine Gen.on (b := T74.setTop (mkF m 874 #[.val (.int p1), .val (.int p2), .val (.int p3), .val (.int p4), .val (.int p5), .val (.int p6), .val (.int (own_i2c p6)), .val (.int (own_i2c p4)), .val (.int (own_i2c p5)), .val (.ref b1), .val (.ref b4), .val (.ref b7), .val (.int (p1 &&& (3 : Int32))), .val (.ref b4), .val (.int (40 : Int32)), .val (.int ((p2 &&& (2147483647 : Int32)) % (40 : Int32))), .val (.int ((p3 &&& (2147483647 : Int32)) % (40 : Int32))), .val (.int (0 : Int32)), .val (.ref b68)] [(.int (1 : Int32))])) ?_ (fun t k => XS.goto X74.here hx rfl (pc0 := 870) (pc' := 874) rfl (hb hby at_870) (by decide) (by decide) k)
                refine own_retN (t := .boolean) X74 hx Bd.returns (by simp) (by decide) (hb hby at_874) (by decide) (by decide) ?_
                exact ⟨rfl, N74⟩
            · refine Gen.on (b := T67.setTop (mkF m 841 #[.val (.int p1), .val (.int p2), .val (.int p3), .val (.int p4), .val (.int p5), .val (.int p6), .val (.int (own_i2c p6)), .val (.int (own_i2c p4)), .val (.int (own_i2c p5)), .val (.ref b1), .val (.ref b4), .val (.ref b7), .val (.int (p1 &&& (3 : Int32))), .val (.ref b4), .val (.int (40 : Int32)), .val (.int ((p2 &&& (2147483647 : Int32)) % (40 : Int32))), .val (.int ((p3 &&& (2147483647 : Int32)) % (40 : Int32))), .unset, .unset] [])) ?_ (fun t k => XS.ifNo X67.here hx rfl (hb hby at_838) rfl ((if0 _ _).trans (feq c838_6).1) k)
              refine Gen.on (b := T67.setTop (mkF m 842 #[.val (.int p1), .val (.int p2), .val (.int p3), .val (.int p4), .val (.int p5), .val (.int p6), .val (.int (own_i2c p6)), .val (.int (own_i2c p4)), .val (.int (own_i2c p5)), .val (.ref b1), .val (.ref b4), .val (.ref b7), .val (.int (p1 &&& (3 : Int32))), .val (.ref b4), .val (.int (40 : Int32)), .val (.int ((p2 &&& (2147483647 : Int32)) % (40 : Int32))), .val (.int ((p3 &&& (2147483647 : Int32)) % (40 : Int32))), .unset, .unset] [(.int (1 : Int32))])) ?_ (fun t k => XS.iconst X67.here hx rfl (hb hby at_841) k)
              refine Gen.on (b := T67.setTop (mkF m 846 #[.val (.int p1), .val (.int p2), .val (.int p3), .val (.int p4), .val (.int p5), .val (.int p6), .val (.int (own_i2c p6)), .val (.int (own_i2c p4)), .val (.int (own_i2c p5)), .val (.ref b1), .val (.ref b4), .val (.ref b7), .val (.int (p1 &&& (3 : Int32))), .val (.ref b4), .val (.int (40 : Int32)), .val (.int ((p2 &&& (2147483647 : Int32)) % (40 : Int32))), .val (.int ((p3 &&& (2147483647 : Int32)) % (40 : Int32))), .unset, .unset] [(.int (1 : Int32))])) ?_ (fun t k => XS.goto X67.here hx rfl (pc0 := 842) (pc' := 846) rfl (hb hby at_842) (by decide) (by decide) k)
              refine Gen.on (b := T67.setTop (mkF m 848 #[.val (.int p1), .val (.int p2), .val (.int p3), .val (.int p4), .val (.int p5), .val (.int p6), .val (.int (own_i2c p6)), .val (.int (own_i2c p4)), .val (.int (own_i2c p5)), .val (.ref b1), .val (.ref b4), .val (.ref b7), .val (.int (p1 &&& (3 : Int32))), .val (.ref b4), .val (.int (40 : Int32)), .val (.int ((p2 &&& (2147483647 : Int32)) % (40 : Int32))), .val (.int ((p3 &&& (2147483647 : Int32)) % (40 : Int32))), .val (.int (1 : Int32)), .unset] [])) ?_ (fun t k => XS.istore X67.here hx rfl (hb hby at_846) rfl (l' := #[.val (.int p1), .val (.int p2), .val (.int p3), .val (.int p4), .val (.int p5), .val (.int p6), .val (.int (own_i2c p6)), .val (.int (own_i2c p4)), .val (.int (own_i2c p5)), .val (.ref b1), .val (.ref b4), .val (.ref b7), .val (.int (p1 &&& (3 : Int32))), .val (.ref b4), .val (.int (40 : Int32)), .val (.int ((p2 &&& (2147483647 : Int32)) % (40 : Int32))), .val (.int ((p3 &&& (2147483647 : Int32)) % (40 : Int32))), .val (.int (1 : Int32)), .unset]) rfl k)
              have fa77 := ((((fa8.ext E7).keep Kc10 (ninS ne_b1_b7 nin0)).other W39 ne_b1_b4).other W40 ne_b1_b4)
              have fa78 := ((Y10.other W39 (Ne.symm ne_b4_b7)).other W40 (Ne.symm ne_b4_b7))
              obtain ⟨b76, g76⟩ : ∃ z, z = h40.size := ⟨_, rfl⟩
              have ne_b1_b76 : b1 ≠ b76 := Nat.ne_of_lt (Nat.lt_of_lt_of_le fa77.lt (Nat.le_of_eq g76.symm))
              have ne_b4_b76 : b4 ≠ b76 := Nat.ne_of_lt (Nat.lt_of_lt_of_le Y40.lt (Nat.le_of_eq g76.symm))
              have ne_b7_b76 : b7 ≠ b76 := Nat.ne_of_lt (Nat.lt_of_lt_of_le fa78.lt (Nat.le_of_eq g76.symm))
              have g_b76 : n0 ≤ b76 := Nat.le_trans Z40 (Nat.le_of_eq g76.symm)
              obtain ⟨T76, h76, X76, e76, E76, A76, D76, -, st76⟩ := newO X67 hx hZ hown (hw _ (List.mem_of_getElem? (i := 6) rfl)) (hw _ (List.mem_of_getElem? (i := 7) rfl)) (hw _ (List.mem_of_getElem? (i := 8) rfl)) e67 (g := (mkF m 848 #[.val (.int p1), .val (.int p2), .val (.int p3), .val (.int p4), .val (.int p5), .val (.int p6), .val (.int (own_i2c p6)), .val (.int (own_i2c p4)), .val (.int (own_i2c p5)), .val (.ref b1), .val (.ref b4), .val (.ref b7), .val (.int (p1 &&& (3 : Int32))), .val (.ref b4), .val (.int (40 : Int32)), .val (.int ((p2 &&& (2147483647 : Int32)) % (40 : Int32))), .val (.int ((p3 &&& (2147483647 : Int32)) % (40 : Int32))), .val (.int (1 : Int32)), .unset] [])) rfl (hb hby at_848) (by decide) (by decide)
              rw [← g76] at A76 D76 st76
              have Z76 : n0 ≤ h76.size := Nat.le_trans Z40 E76.1
              have F76_coder : Fld Z h76 b76 "java/lang/String" "coder" "B" (.int (0 : Int32)) := D76 (Or.inr (hw _ (List.mem_of_getElem? (i := 32) rfl))) (ty := .byte) (by decide)
              have F76_value : Fld Z h76 b76 "java/lang/String" "value" "[B" .null := D76 (Or.inr (hw _ (List.mem_of_getElem? (i := 34) rfl))) (ty := (.array .byte)) (by decide)
              refine Gen.on (b := T76.setTop (mkF m 851 #[.val (.int p1), .val (.int p2), .val (.int p3), .val (.int p4), .val (.int p5), .val (.int p6), .val (.int (own_i2c p6)), .val (.int (own_i2c p4)), .val (.int (own_i2c p5)), .val (.ref b1), .val (.ref b4), .val (.ref b7), .val (.int (p1 &&& (3 : Int32))), .val (.ref b4), .val (.int (40 : Int32)), .val (.int ((p2 &&& (2147483647 : Int32)) % (40 : Int32))), .val (.int ((p3 &&& (2147483647 : Int32)) % (40 : Int32))), .val (.int (1 : Int32)), .unset] [(.ref b76)])) ?_ (fun t k => st76 t k)
              refine Gen.on (b := T76.setTop (mkF m 852 #[.val (.int p1), .val (.int p2), .val (.int p3), .val (.int p4), .val (.int p5), .val (.int p6), .val (.int (own_i2c p6)), .val (.int (own_i2c p4)), .val (.int (own_i2c p5)), .val (.ref b1), .val (.ref b4), .val (.ref b7), .val (.int (p1 &&& (3 : Int32))), .val (.ref b4), .val (.int (40 : Int32)), .val (.int ((p2 &&& (2147483647 : Int32)) % (40 : Int32))), .val (.int ((p3 &&& (2147483647 : Int32)) % (40 : Int32))), .val (.int (1 : Int32)), .unset] [(.ref b76), (.ref b76)])) ?_ (fun t k => XS.dup X76.here hx rfl (hb hby at_851) rfl rfl k)
              refine Gen.on (b := T76.setTop (mkF m 854 #[.val (.int p1), .val (.int p2), .val (.int p3), .val (.int p4), .val (.int p5), .val (.int p6), .val (.int (own_i2c p6)), .val (.int (own_i2c p4)), .val (.int (own_i2c p5)), .val (.ref b1), .val (.ref b4), .val (.ref b7), .val (.int (p1 &&& (3 : Int32))), .val (.ref b4), .val (.int (40 : Int32)), .val (.int ((p2 &&& (2147483647 : Int32)) % (40 : Int32))), .val (.int ((p3 &&& (2147483647 : Int32)) % (40 : Int32))), .val (.int (1 : Int32)), .unset] [(.ref b4), (.ref b76), (.ref b76)])) ?_ (fun t k => XS.aload X76.here hx rfl (hb hby at_852) rfl rfl k)
              have fa80 := (Y40.ext E76)
              have fa81 := (((((((((OL.ext E1).keep Kc3 (allS g_b1 all0)).ext E4).keep Kc6 (allS g_b4 all0)).ext E7).keep Kc10 (allS g_b7 all0)).wr W39 g_b4).wr W40 g_b4).ext E76)
              obtain ⟨_, _, ⟨T79, L79, k79, n79⟩, -, X79, ⟨Lc79, hQ79, l79, y79, z79⟩, st79⟩ := X76.specialBack hx (y := (⟨"java/lang/String", "<init>", "([C)V"⟩ : MethodName)) rfl hown (mvT hZ (hw _ (List.mem_of_getElem? (i := 9) rfl))) (mvT hZ (hw _ (List.mem_of_getElem? (i := 10) rfl))) (mvT hZ (hw _ (List.mem_of_getElem? (i := 11) rfl))) (by decide) (backOf (W := 1) (rm2 l Z a0 hw [] b76 b4 .null (.int (0 : Int32)) (40 : Int32) (own_Y p6 p4 p5 ((p2 &&& (2147483647 : Int32)) % (40 : Int32)) ((p3 &&& (2147483647 : Int32)) % (40 : Int32))) (80 : Int32) w0 f0 h76 n0 Z76 A76 F76_value F76_coder fa80 fa81 g_b76 (sts) (by decide) (by decide) (by decide +kernel) (by decide) (by decide +kernel) (by decide +kernel) (by decide +kernel) (by decide +kernel) (own_Yb _ _ _ _ _ _) (by decide)) hZ (hw _ (List.mem_of_getElem? (i := 11) rfl)) (hw _ (List.mem_of_getElem? (i := 8) rfl)) (by decide) (by decide)) (g := (mkF m 854 #[.val (.int p1), .val (.int p2), .val (.int p3), .val (.int p4), .val (.int p5), .val (.int p6), .val (.int (own_i2c p6)), .val (.int (own_i2c p4)), .val (.int (own_i2c p5)), .val (.ref b1), .val (.ref b4), .val (.ref b7), .val (.int (p1 &&& (3 : Int32))), .val (.ref b4), .val (.int (40 : Int32)), .val (.int ((p2 &&& (2147483647 : Int32)) % (40 : Int32))), .val (.int ((p3 &&& (2147483647 : Int32)) % (40 : Int32))), .val (.int (1 : Int32)), .unset] [(.ref b4), (.ref b76), (.ref b76)])) rfl (by rw [hml]; rfl) (Steps.refl _) (a := b76) (argsL := [(.ref b4)]) (rest := [(.ref b76)]) (lenOf pd_0_0 rfl) rfl (by show 2 * 0 + _ ≤ _; exact Nat.le_of_eq rfl) (hb hby at_854) (fun _ _ => ⟨rfl, e76, (by decide : 4 + 2 ≤ _), (by decide : 124 + 123 ≤ _)⟩)
              dsimp only [Pt.U, Pt.locs, Pt.cells, Pt.slots] at X79 l79 y79 z79 st79 hQ79
              subst l79 y79 z79
              obtain ⟨rfl, N79q, Kc79, hf79_0, hf79_1⟩ := hQ79
              have N79 := Fr.app N67 N79q
              have Z79 : n0 ≤ T79.heap.size := Nat.le_trans Z76 Kc79.1
              refine Gen.on (b := T79.setTop (mkF m 857 #[.val (.int p1), .val (.int p2), .val (.int p3), .val (.int p4), .val (.int p5), .val (.int p6), .val (.int (own_i2c p6)), .val (.int (own_i2c p4)), .val (.int (own_i2c p5)), .val (.ref b1), .val (.ref b4), .val (.ref b7), .val (.int (p1 &&& (3 : Int32))), .val (.ref b4), .val (.int (40 : Int32)), .val (.int ((p2 &&& (2147483647 : Int32)) % (40 : Int32))), .val (.int ((p3 &&& (2147483647 : Int32)) % (40 : Int32))), .val (.int (1 : Int32)), .unset] [(.ref b76)])) ?_ (fun t k => st79.trans k)
              refine Gen.on (b := T79.setTop (mkF m 859 #[.val (.int p1), .val (.int p2), .val (.int p3), .val (.int p4), .val (.int p5), .val (.int p6), .val (.int (own_i2c p6)), .val (.int (own_i2c p4)), .val (.int (own_i2c p5)), .val (.ref b1), .val (.ref b4), .val (.ref b7), .val (.int (p1 &&& (3 : Int32))), .val (.ref b4), .val (.int (40 : Int32)), .val (.int ((p2 &&& (2147483647 : Int32)) % (40 : Int32))), .val (.int ((p3 &&& (2147483647 : Int32)) % (40 : Int32))), .val (.int (1 : Int32)), .val (.ref b76)] [])) ?_ (fun t k => XS.astore X79.here hx rfl (hb hby at_857) rfl rfl (l' := #[.val (.int p1), .val (.int p2), .val (.int p3), .val (.int p4), .val (.int p5), .val (.int p6), .val (.int (own_i2c p6)), .val (.int (own_i2c p4)), .val (.int (own_i2c p5)), .val (.ref b1), .val (.ref b4), .val (.ref b7), .val (.int (p1 &&& (3 : Int32))), .val (.ref b4), .val (.int (40 : Int32)), .val (.int ((p2 &&& (2147483647 : Int32)) % (40 : Int32))), .val (.int ((p3 &&& (2147483647 : Int32)) % (40 : Int32))), .val (.int (1 : Int32)), .val (.ref b76)]) rfl k)
              refine Gen.on (b := T79.setTop (mkF m 861 #[.val (.int p1), .val (.int p2), .val (.int p3), .val (.int p4), .val (.int p5), .val (.int p6), .val (.int (own_i2c p6)), .val (.int (own_i2c p4)), .val (.int (own_i2c p5)), .val (.ref b1), .val (.ref b4), .val (.ref b7), .val (.int (p1 &&& (3 : Int32))), .val (.ref b4), .val (.int (40 : Int32)), .val (.int ((p2 &&& (2147483647 : Int32)) % (40 : Int32))), .val (.int ((p3 &&& (2147483647 : Int32)) % (40 : Int32))), .val (.int (1 : Int32)), .val (.ref b76)] [(.ref b76)])) ?_ (fun t k => XS.aload X79.here hx rfl (hb hby at_859) rfl rfl k)
              have fa83 := (fa81.keep Kc79 (allS g_b76 all0))
              obtain ⟨_, _, ⟨T82, L82, k82, n82⟩, -, X82, ⟨Lc82, hQ82, l82, y82, z82⟩, st82⟩ := Jvm.LawKit.callS X79 hx (y := (⟨"com/example/bandwarden/bandwarden/protocol/Sha1", "isHex", "(Ljava/lang/String;)Z"⟩ : MethodName)) hown (mvT hZ (hw _ (List.mem_of_getElem? (i := 35) rfl))) (mvT hZ (hw _ (List.mem_of_getElem? (i := 36) rfl))) (mvT hZ (hw _ (List.mem_of_getElem? (i := 37) rfl))) (mvT hZ (hw _ (List.mem_of_getElem? (i := 38) rfl))) (by decide) (backOf (W := 0) (rm8 l Z a0 hw [] b76 (40 : Int32) (own_Y p6 p4 p5 ((p2 &&& (2147483647 : Int32)) % (40 : Int32)) ((p3 &&& (2147483647 : Int32)) % (40 : Int32))) w0 f0 T79.heap n0 Z79 hf79_0 hf79_1 fa83 sts) hZ (hw _ (List.mem_of_getElem? (i := 38) rfl)) (hw _ (List.mem_of_getElem? (i := 37) rfl)) (by decide) (by decide)) (g := (mkF m 861 #[.val (.int p1), .val (.int p2), .val (.int p3), .val (.int p4), .val (.int p5), .val (.int p6), .val (.int (own_i2c p6)), .val (.int (own_i2c p4)), .val (.int (own_i2c p5)), .val (.ref b1), .val (.ref b4), .val (.ref b7), .val (.int (p1 &&& (3 : Int32))), .val (.ref b4), .val (.int (40 : Int32)), .val (.int ((p2 &&& (2147483647 : Int32)) % (40 : Int32))), .val (.int ((p3 &&& (2147483647 : Int32)) % (40 : Int32))), .val (.int (1 : Int32)), .val (.ref b76)] [(.ref b76)])) rfl (by rw [hml]; rfl) (argsL := [(.ref b76)]) (rest := []) (lenOf pd_0_1 rfl) rfl (by show 2 * 0 + _ ≤ _; exact Nat.le_of_eq rfl) (hb hby at_861) (fun _ _ => ⟨rfl, rfl, (by decide : 6 + 0 ≤ _), (by decide : 247 + 0 ≤ _)⟩)
              dsimp only [Pt.U, Pt.locs, Pt.cells, Pt.slots] at X82 l82 y82 z82 st82 hQ82
              subst l82 y82 z82
              obtain ⟨r82, rfl, N82q, e82, hH82⟩ := hQ82
              have N82 := Fr.app N79 N82q
              rcases hH82 with ⟨rfl, hz, hall⟩ | ⟨rfl, hno⟩
              · refine Gen.on (b := T82.setTop (mkF m 864 #[.val (.int p1), .val (.int p2), .val (.int p3), .val (.int p4), .val (.int p5), .val (.int p6), .val (.int (own_i2c p6)), .val (.int (own_i2c p4)), .val (.int (own_i2c p5)), .val (.ref b1), .val (.ref b4), .val (.ref b7), .val (.int (p1 &&& (3 : Int32))), .val (.ref b4), .val (.int (40 : Int32)), .val (.int ((p2 &&& (2147483647 : Int32)) % (40 : Int32))), .val (.int ((p3 &&& (2147483647 : Int32)) % (40 : Int32))), .val (.int (1 : Int32)), .val (.ref b76)] [(.int (1 : Int32))])) ?_ (fun t k => st82 t k)
                refine Gen.on (b := T82.setTop (mkF m 866 #[.val (.int p1), .val (.int p2), .val (.int p3), .val (.int p4), .val (.int p5), .val (.int p6), .val (.int (own_i2c p6)), .val (.int (own_i2c p4)), .val (.int (own_i2c p5)), .val (.ref b1), .val (.ref b4), .val (.ref b7), .val (.int (p1 &&& (3 : Int32))), .val (.ref b4), .val (.int (40 : Int32)), .val (.int ((p2 &&& (2147483647 : Int32)) % (40 : Int32))), .val (.int ((p3 &&& (2147483647 : Int32)) % (40 : Int32))), .val (.int (1 : Int32)), .val (.ref b76)] [(.int (1 : Int32)), (.int (1 : Int32))])) ?_ (fun t k => XS.iload X82.here hx rfl (hb hby at_864) rfl k)
                refine Gen.on (b := T82.setTop (mkF m 869 #[.val (.int p1), .val (.int p2), .val (.int p3), .val (.int p4), .val (.int p5), .val (.int p6), .val (.int (own_i2c p6)), .val (.int (own_i2c p4)), .val (.int (own_i2c p5)), .val (.ref b1), .val (.ref b4), .val (.ref b7), .val (.int (p1 &&& (3 : Int32))), .val (.ref b4), .val (.int (40 : Int32)), .val (.int ((p2 &&& (2147483647 : Int32)) % (40 : Int32))), .val (.int ((p3 &&& (2147483647 : Int32)) % (40 : Int32))), .val (.int (1 : Int32)), .val (.ref b76)] [])) ?_ (fun t k => XS.icmpNo X82.here hx rfl (hb hby at_866) rfl (teq (by decide : (1 : Int32) = (1 : Int32))).2 k)
                refine Gen.on (b := T82.setTop (mkF m 870 #[.val (.int p1), .val (.int p2), .val (.int p3), .val (.int p4), .val (.int p5), .val (.int p6), .val (.int (own_i2c p6)), .val (.int (own_i2c p4)), .val (.int (own_i2c p5)), .val (.ref b1), .val (.ref b4), .val (.ref b7), .val (.int (p1 &&& (3 : Int32))), .val (.ref b4), .val (.int (40 : Int32)), .val (.int ((p2 &&& (2147483647 : Int32)) % (40 : Int32))), .val (.int ((p3 &&& (2147483647 : Int32)) % (40 : Int32))), .val (.int (1 : Int32)), .val (.ref b76)] [(.int (1 : Int32))])) ?_ (fun t k => XS.iconst X82.here hx rfl (hb hby at_869) k)
                refine Gen.on (b := T82.setTop (mkF m 874 #[.val (.int p1), .val (.int p2), .val (.int p3), .val (.int p4), .val (.int p5), .val (.int p6), .val (.int (own_i2c p6)), .val (.int (own_i2c p4)), .val (.int (own_i2c p5)), .val (.ref b1), .val (.ref b4), .val (.ref b7), .val (.int (p1 &&& (3 : Int32))), .val (.ref b4), .val (.int (40 : Int32)), .val (.int ((p2 &&& (2147483647 : Int32)) % (40 : Int32))), .val (.int ((p3 &&& (2147483647 : Int32)) % (40 : Int32))), .val (.int (1 : Int32)), .val (.ref b76)] [(.int (1 : Int32))])) ?_ (fun t k => XS.goto X82.here hx rfl (pc0 := 870) (pc' := 874) rfl (hb hby at_870) (by decide) (by decide) k)
                refine own_retN (t := .boolean) X82 hx Bd.returns (by simp) (by decide) (hb hby at_874) (by decide) (by decide) ?_
                exact ⟨rfl, N82⟩
              · exact absurd ⟨rfl, fun j _ _ => own_all c815_3 c823_4 (Or.inr c838_6) j⟩ hno
set_option maxRecDepth 65536 in
set_option maxHeartbeats 40000000 in
theorem comes_1 {Post : Tables → Env → Array Value → State → Outcome → State → Prop} (hpost : ∀ tb e args s v u, (limb_1_1.after args s (.returned v) u = true ∧ limb_1_2.after args s (.returned v) u = true ∧ True) → FrameEnd s (.returned v) u (Jvm.fieldLocs frame_1_writes args s ++ Jvm.arrayLocs frame_1_arrays args s ++ Jvm.staticLocs frame_1_statics s) 24 576 → Post tb e args s (.returned v) u) :
    ArmFor flags0 classFile x code maxLocals ret World_1 tables_1 room_1 Calls_1 rest_1 Pre_1 Post := by
  intro l hfl _ _ p e ha hc hk s m args below hf hA hF happ hP
  obtain ⟨hcalls, hrest, hpre⟩ := hP
  obtain ⟨-, -, -, hnamed, -, -, -, hat⟩ := (Spec.applies_iff hf).mp happ
  obtain ⟨hg, hn⟩ := and_e (Cond.before_iff.mp (show (Jvm.Cond.and given_1 narrow_1).before args s = true from hpre))
  obtain ⟨hcount, hr1⟩ := and_e hg
  obtain ⟨ha0, hr2⟩ := and_e hr1
  obtain ⟨ha1, hr3⟩ := and_e hr2
  obtain ⟨ha2, hr4⟩ := and_e hr3
  obtain ⟨ha3, hr5⟩ := and_e hr4
  obtain ⟨ha4, hr6⟩ := and_e hr5
  obtain ⟨w0, w1, w2, w3, w4, w5, rfl⟩ : ∃ w0 w1 w2 w3 w4 w5 : Value, args = #[w0, w1, w2, w3, w4, w5] := by
    have hs : args.size = 6 := by simpa [Cond.value, given_1] using hcount
    obtain ⟨L⟩ := args
    match L, hs with
    | [w0, w1, w2, w3, w4, w5], _ => exact ⟨w0, w1, w2, w3, w4, w5, rfl⟩
  have hw := fun d (hd : d ∈ tables_1) => atoms_spec (ws := Jvm.Cond.code x code maxLocals ret :: tables_1) hat d (List.mem_cons_of_mem _ hd)
  have hfit : Fit s := fun {y c} hc i hi => by
    obtain ⟨ha, rfl⟩ := Array.getElem?_eq_some_iff.mp hc
    have q := List.all_eq_true.mp ((Array.all_eq_true_iff_forall_mem.mp hF) _ (Array.getElem_mem ha)) i (List.mem_range.mpr hi)
    simpa [Array.getElem?_eq_getElem hi] using q
  obtain ⟨i0, ei0⟩ := is_v ha0
  obtain rfl : w0 = (.int i0) := Option.some.inj ei0
  obtain ⟨i1, ei1⟩ := is_v ha1
  obtain rfl : w1 = (.int i1) := Option.some.inj ei1
  obtain ⟨i2, ei2⟩ := is_v ha2
  obtain rfl : w2 = (.int i2) := Option.some.inj ei2
  obtain ⟨i3, ei3⟩ := is_v ha3
  obtain rfl : w3 = (.int i3) := Option.some.inj ei3
  obtain ⟨i4, ei4⟩ := is_v ha4
  obtain rfl : w4 = (.int i4) := Option.some.inj ei4
  obtain ⟨i5, ei5⟩ := is_v hr6
  obtain rfl : w5 = (.int i5) := Option.some.inj ei5
  obtain ⟨hsets, hown0⟩ := atoms_of _ (rest_1_c_eq ▸ (show rest_1_c.before _ s = true from hrest))
  obtain ⟨w0, ew0⟩ := is_v (Cond.before_iff.mp (hsets _ (List.mem_of_getElem? (i := 1) rfl)))
  have S_C := Sta.start ew0 (Or.inl (hsets _ (List.mem_of_getElem? (i := 0) rfl)))
  have hw0 : ¬ w0 = (0 : Int32) := by
    intro q
    have q1 := not_v (Cond.before_iff.mp (hsets _ (List.mem_of_getElem? (i := 2) rfl)))
    have q2 := eq_i ew0 (Term.int_eval (0 : Int32)) (congrArg Value.int q)
    rw [q2] at q1
    exact absurd q1 (by decide)
  obtain ⟨f0, ef0, hf0⟩ := isR_v (Cond.before_iff.mp (hsets _ (List.mem_of_getElem? (i := 8) rfl)))
  have S_F := Sta.start ef0 (Or.inl (hsets _ (List.mem_of_getElem? (i := 7) rfl)))
  have S_A := Sta.start (own_eqi (Cond.before_iff.mp (hsets _ (List.mem_of_getElem? (i := 12) rfl)))) (Or.inl (hsets _ (List.mem_of_getElem? (i := 11) rfl)))
  have S_H := Sta.start (own_eqi (Cond.before_iff.mp (hsets _ (List.mem_of_getElem? (i := 15) rfl)))) (Or.inl (hsets _ (List.mem_of_getElem? (i := 14) rfl)))
  have S_L := Sta.start (own_eqi (Cond.before_iff.mp (hsets _ (List.mem_of_getElem? (i := 18) rfl)))) (Or.inl (hsets _ (List.mem_of_getElem? (i := 17) rfl)))
  obtain ⟨n, o, h1, h2, h3, _, L, rfl, ⟨rfl, N⟩, hq⟩ := rm0 l s _ hw tables_1 i0 i1 i2 i3 i4 i5 w0 f0 s.heap s.heap.size (Nat.le_refl _) (Old.start s) ⟨S_C, hw0, S_F, hf0, S_A, S_H, S_L⟩ p e ha hc hk s m _ below hf ((Spec.applies_iff_loose hf).mp happ).1 ⟨rfl, State.Warmed39.refl s, rfl⟩ trivial
  refine ⟨n, _, h1, h2, h3, hpost _ _ _ _ _ _ ⟨Cond.after_iff.mpr rfl, Cond.after_iff.mpr (eq_i res_at (Term.int_eval (1)) rfl), trivial⟩ ⟨hq.1, hq.2.1, (hq.2.2.sift fun y hy => Or.inr (N y hy)).mono (by decide) (by decide)⟩⟩
theorem main_1_1 : Claimed_1_1 := comes_1 fun _ _ _ _ _ _ h hF => ⟨h.1, hF⟩
theorem main_1_2 : Claimed_1_2 := comes_1 fun _ _ _ _ _ _ h hF => ⟨h.2.1, hF⟩
end Jvm.Pilot.@@N@@
namespace Jvm.Pilot.@@N@@
open Jvm Jvm.ClassFile Sem Op Lib Jvm.Free Jvm.Stand Jvm.Pilot.@@N@@.Jvm.D
/-! MADE BY PROGRAM (witnessworld.py) out of the Statement's table words and the real class files: 20 classes; the members and pool entries that the words name. The judged class is class 1, her method 2. -/
namespace start1
open Jvm.ClassFile
def u (s : String) : CpInfo := .utf8 (stringToUtf16 s)
/-- a pool by its gaps: so many unusable entries, then the entry; so many at the end -/
def gap : Nat → List CpInfo → List CpInfo
  | 0, r => r
  | n + 1, r => .unusable :: gap n r
def poolList (es : List (Nat × CpInfo)) (last : Nat) : List CpInfo := es.foldr (fun e r => gap e.1 (e.2 :: r)) (gap last [])
def pool (es : List (Nat × CpInfo)) (last : Nat) : Array CpInfo := ⟨poolList es last⟩
def fileOf (pool : Array CpInfo) (this : Nat) (attrs : Array Attribute := #[]) (ms : Array MethodInfo := #[]) (fl : Nat := 33) (sup : Nat := 0) (ifs : Array Nat := #[]) (fds : Array FieldInfo := #[]) : ClassFile where
  minorVersion := 0
  majorVersion := 65
  constantPool := pool
  accessFlags := fl
  thisClass := this
  superClass := sup
  interfaces := ifs
  fields := fds
  methods := ms
  attributes := attrs
def plain (name : String) (sup : Option ClassId) : Class where
  name := name
  kind := .ordinary
  loader := none
  accessFlags := 33
  super := sup
  interfaces := #[]
  cf := none
  fields := #[]
  methods := #[]
  instanceTypes := #[]
  staticTypes := #[]
  resolved := #[]
  callSites := []
  init := .initialized
  statics := none
  mirror := none

def pool0 : Array CpInfo := pool [(5, u "<init>"), (0, u "()V"), (1, .class_ 10), (1, u "java/lang/Object")] 113

def k0c0 : Code := { maxStack := 0, maxLocals := 1, code := object_method_1_code, exceptionTable := #[], attributes := #[] }
def k0m0 : Method := { name := "<init>", desc := "()V", sig := { parameters := [], returnType := none }, accessFlags := 1, code := some k0c0 }
/-- java/lang/Object -/
def k0 : Class := { plain "java/lang/Object" none with
  accessFlags := 33
  interfaces := #[]
  cf := some (fileOf pool0 8 #[] #[{ accessFlags := 1, nameIndex := 5, descriptorIndex := 6, attributes := #[] }] 33 0 #[] #[])
  fields := #[]
  methods := #[k0m0]
  instanceTypes := #[]
  staticTypes := #[]
  resolved := Array.replicate 124 none
  statics := none }

def pool1 : Array CpInfo := pool [(2, .class_ 4), (1, u "java/lang/Object"), (0, u "<init>"), (0, u "()V"), (0, .integer 2147483647), (0, .methodref 9 10), (0, .class_ 11), (0, .nameAndType 12 13), (0, u "com/example/bandwarden/bandwarden/protocol/Sha1IsHexPinLaw"), (0, u "ok"), (0, u "(C)Z"), (0, .class_ 15), (0, u "java/lang/String"), (0, .methodref 14 17), (0, .nameAndType 5 18), (0, u "([C)V"), (0, .methodref 20 21), (0, .class_ 22), (0, .nameAndType 23 24), (0, u "com/example/bandwarden/bandwarden/protocol/Sha1"), (0, u "isHex"), (0, u "(Ljava/lang/String;)Z"), (3, u "law"), (0, u "(IIIIII)Z")] 4

def k1m0 : Method := { name := "<init>", desc := "()V", sig := { parameters := [], returnType := none }, accessFlags := 2, code := none }
def k1c1 : Code := { maxStack := 2, maxLocals := 2, code := method_2_code, exceptionTable := #[], attributes := #[] }
def k1m1 : Method := { name := "ok", desc := "(C)Z", sig := { parameters := [.char], returnType := some .boolean }, accessFlags := 10, code := some k1c1 }
def k1c2 : Code := { maxStack := 4, maxLocals := 19, code := code, exceptionTable := #[], attributes := #[] }
def k1m2 : Method := { name := "law", desc := "(IIIIII)Z", sig := { parameters := [.int, .int, .int, .int, .int, .int], returnType := some .boolean }, accessFlags := 9, code := some k1c2 }
/-- com/example/bandwarden/bandwarden/protocol/Sha1IsHexPinLaw -/
def k1 : Class := { plain "com/example/bandwarden/bandwarden/protocol/Sha1IsHexPinLaw" (some 0) with
  accessFlags := 49
  interfaces := #[]
  cf := some (fileOf pool1 9 #[] #[{ accessFlags := 2, nameIndex := 5, descriptorIndex := 6, attributes := #[] }, { accessFlags := 10, nameIndex := 12, descriptorIndex := 13, attributes := #[] }, { accessFlags := 9, nameIndex := 28, descriptorIndex := 29, attributes := #[] }] 49 2 #[] #[])
  fields := #[]
  methods := #[k1m0, k1m1, k1m2]
  instanceTypes := #[]
  staticTypes := #[]
  resolved := Array.replicate 34 none
  statics := none }

def pool2 : Array CpInfo := pool [(1, .class_ 2), (0, u "java/io/Serializable"), (0, .class_ 4), (0, u "java/lang/Object")] 2

/-- java/io/Serializable -/
def k2 : Class := { plain "java/io/Serializable" (some 0) with
  accessFlags := 1537
  interfaces := #[]
  cf := some (fileOf pool2 1 #[] #[] 1537 3 #[] #[])
  fields := #[]
  methods := #[]
  instanceTypes := #[]
  staticTypes := #[]
  resolved := Array.replicate 7 none
  statics := none }

def pool3 : Array CpInfo := pool [(1, .class_ 2), (0, u "java/lang/Comparable"), (0, .class_ 4), (0, u "java/lang/Object")] 7

/-- java/lang/Comparable -/
def k3 : Class := { plain "java/lang/Comparable" (some 0) with
  accessFlags := 1537
  interfaces := #[]
  cf := some (fileOf pool3 1 #[] #[] 1537 3 #[] #[])
  fields := #[]
  methods := #[]
  instanceTypes := #[]
  staticTypes := #[]
  resolved := Array.replicate 12 none
  statics := none }

def pool4 : Array CpInfo := pool [(2, .class_ 4), (1, u "java/lang/CharSequence"), (42, .class_ 48), (0, u "java/lang/CharSequence$1CodePointIterator"), (10, .class_ 60), (0, u "java/lang/CharSequence$1CharIterator"), (5, .class_ 67), (0, u "java/lang/Object")] 63

/-- java/lang/CharSequence -/
def k4 : Class := { plain "java/lang/CharSequence" (some 0) with
  accessFlags := 1537
  interfaces := #[]
  cf := some (fileOf pool4 2 #[.nestMembers #[47, 59]] #[] 1537 66 #[] #[])
  fields := #[]
  methods := #[]
  instanceTypes := #[]
  staticTypes := #[]
  resolved := Array.replicate 131 none
  statics := none }

def pool5 : Array CpInfo := pool [(1, .class_ 2), (0, u "java/lang/constant/Constable"), (0, .class_ 4), (0, u "java/lang/Object")] 6

/-- java/lang/constant/Constable -/
def k5 : Class := { plain "java/lang/constant/Constable" (some 0) with
  accessFlags := 1537
  interfaces := #[]
  cf := some (fileOf pool5 1 #[] #[] 1537 3 #[] #[])
  fields := #[]
  methods := #[]
  instanceTypes := #[]
  staticTypes := #[]
  resolved := Array.replicate 11 none
  statics := none }

def pool6 : Array CpInfo := pool [(1, .class_ 2), (0, u "java/lang/constant/ConstantDesc"), (0, .class_ 4), (0, u "java/lang/Object")] 32

/-- java/lang/constant/ConstantDesc -/
def k6 : Class := { plain "java/lang/constant/ConstantDesc" (some 0) with
  accessFlags := 1537
  interfaces := #[]
  cf := some (fileOf pool6 1 #[] #[] 1537 3 #[] #[])
  fields := #[]
  methods := #[]
  instanceTypes := #[]
  staticTypes := #[]
  resolved := Array.replicate 37 none
  statics := none }

def pool7 : Array CpInfo := pool [(1, .methodref 2 3), (0, .class_ 4), (0, .nameAndType 5 6), (0, u "java/lang/Object"), (0, u "<init>"), (0, u "()V"), (2, .fieldref 10 11), (0, .class_ 12), (0, .nameAndType 13 14), (0, u "java/lang/String"), (0, u "value"), (0, u "[B"), (0, .fieldref 10 16), (0, .nameAndType 17 18), (0, u "coder"), (0, u "B"), (2, u "hash"), (0, u "I"), (2, u "hashIsZero"), (0, u "Z"), (0, .methodref 10 28), (0, .nameAndType 5 29), (0, u "([CIILjava/lang/Void;)V"), (8, .fieldref 10 39), (0, .nameAndType 40 26), (0, u "COMPACT_STRINGS"), (1, .class_ 44), (1, u "java/lang/StringUTF16"), (0, u "compress"), (1, .methodref 42 48), (0, .nameAndType 49 50), (0, u "coderFromArrayLen"), (0, u "([BI)B"), (56, .class_ 109), (1, u "java/lang/StringLatin1"), (32, u "()Z"), (34, .methodref 42 178), (0, .nameAndType 45 179), (0, u "([CII)[B"), (154, u "()I"), (0, .methodref 10 336), (0, .nameAndType 17 337), (0, u "()B"), (25, u "([BI)C"), (27, u "(II)V"), (35, u "(I)C"), (64, .methodref 10 493), (0, .nameAndType 494 142), (0, u "isLatin1"), (0, .methodref 107 496), (0, .nameAndType 497 363), (0, u "charAt"), (0, .methodref 42 496), (2, u "checkIndex"), (5, u "length"), (67, .class_ 576), (0, u "java/lang/CharSequence"), (22, u "CASE_INSENSITIVE_ORDER"), (0, u "Ljava/util/Comparator;"), (409, u "([C)V"), (42, .fieldref 1054 1055), (0, .class_ 1056), (0, .nameAndType 1057 1058), (0, u "jdk/internal/util/Preconditions"), (0, u "SIOOBE_FORMATTER"), (0, u "Ljava/util/function/BiFunction;"), (0, .methodref 1054 1060), (0, .nameAndType 501 1061), (0, u "(IILjava/util/function/BiFunction;)I"), (39, u "serialPersistentFields"), (0, u "[Ljava/io/ObjectStreamField;"), (0, .class_ 1104), (0, u "java/lang/String$CaseInsensitiveComparator"), (1, .class_ 1107), (0, u "java/io/Serializable"), (0, .class_ 1109), (0, u "java/lang/Comparable"), (0, .class_ 1111), (0, u "java/lang/constant/Constable"), (0, .class_ 1113), (0, u "java/lang/constant/ConstantDesc"), (2, u "serialVersionUID"), (0, u "J"), (3, u "REPL"), (0, u "C"), (2, u "LATIN1"), (1, u "UTF16")] 323

def k7m0 : Method := { name := "<init>", desc := "()V", sig := { parameters := [], returnType := none }, accessFlags := 1, code := none }
def k7c1 : Code := { maxStack := 5, maxLocals := 2, code := jdk_42_method_3_code, exceptionTable := #[], attributes := #[] }
def k7m1 : Method := { name := "<init>", desc := "([C)V", sig := { parameters := [(.array .char)], returnType := none }, accessFlags := 1, code := some k7c1 }
def k7c2 : Code := { maxStack := 2, maxLocals := 1, code := jdk_42_method_54_code, exceptionTable := #[], attributes := #[] }
def k7m2 : Method := { name := "length", desc := "()I", sig := { parameters := [], returnType := some .int }, accessFlags := 1, code := some k7c2 }
def k7c3 : Code := { maxStack := 2, maxLocals := 2, code := jdk_42_method_56_code, exceptionTable := #[], attributes := #[] }
def k7m3 : Method := { name := "charAt", desc := "(I)C", sig := { parameters := [.int], returnType := some .char }, accessFlags := 1, code := some k7c3 }
def k7c4 : Code := { maxStack := 4, maxLocals := 6, code := jdk_42_method_149_code, exceptionTable := #[], attributes := #[] }
def k7m4 : Method := { name := "<init>", desc := "([CIILjava/lang/Void;)V", sig := { parameters := [(.array .char), .int, .int, (.object "java/lang/Void")], returnType := none }, accessFlags := 2, code := some k7c4 }
def k7c5 : Code := { maxStack := 1, maxLocals := 1, code := jdk_42_method_152_code, exceptionTable := #[], attributes := #[] }
def k7m5 : Method := { name := "coder", desc := "()B", sig := { parameters := [], returnType := some .byte }, accessFlags := 0, code := some k7c5 }
def k7c6 : Code := { maxStack := 1, maxLocals := 1, code := jdk_42_method_154_code, exceptionTable := #[], attributes := #[] }
def k7m6 : Method := { name := "isLatin1", desc := "()Z", sig := { parameters := [], returnType := some .boolean }, accessFlags := 0, code := some k7c6 }
def k7c7 : Code := { maxStack := 3, maxLocals := 2, code := jdk_42_method_155_code, exceptionTable := #[], attributes := #[] }
def k7m7 : Method := { name := "checkIndex", desc := "(II)V", sig := { parameters := [.int, .int], returnType := none }, accessFlags := 8, code := some k7c7 }
/-- java/lang/String -/
def k7 : Class := { plain "java/lang/String" (some 0) with
  accessFlags := 49
  interfaces := #[2, 3, 4, 5, 6]
  cf := some (fileOf pool7 10 #[.nestMembers #[1103]] #[{ accessFlags := 1, nameIndex := 5, descriptorIndex := 6, attributes := #[] }, { accessFlags := 1, nameIndex := 5, descriptorIndex := 1010, attributes := #[] }, { accessFlags := 1, nameIndex := 507, descriptorIndex := 334, attributes := #[] }, { accessFlags := 1, nameIndex := 497, descriptorIndex := 427, attributes := #[] }, { accessFlags := 2, nameIndex := 5, descriptorIndex := 29, attributes := #[] }, { accessFlags := 0, nameIndex := 17, descriptorIndex := 337, attributes := #[] }, { accessFlags := 0, nameIndex := 494, descriptorIndex := 142, attributes := #[] }, { accessFlags := 8, nameIndex := 501, descriptorIndex := 391, attributes := #[] }] 49 2 #[1106, 1108, 575, 1110, 1112] #[{ accessFlags := 18, nameIndex := 13, descriptorIndex := 14, attributes := #[] }, { accessFlags := 18, nameIndex := 17, descriptorIndex := 18, attributes := #[] }, { accessFlags := 2, nameIndex := 21, descriptorIndex := 22, attributes := #[] }, { accessFlags := 2, nameIndex := 25, descriptorIndex := 26, attributes := #[] }, { accessFlags := 26, nameIndex := 1116, descriptorIndex := 1117, attributes := #[] }, { accessFlags := 24, nameIndex := 40, descriptorIndex := 26, attributes := #[] }, { accessFlags := 26, nameIndex := 1101, descriptorIndex := 1102, attributes := #[] }, { accessFlags := 26, nameIndex := 1121, descriptorIndex := 1122, attributes := #[] }, { accessFlags := 25, nameIndex := 599, descriptorIndex := 600, attributes := #[] }, { accessFlags := 24, nameIndex := 1125, descriptorIndex := 18, attributes := #[] }, { accessFlags := 24, nameIndex := 1127, descriptorIndex := 18, attributes := #[] }])
  fields := #[{ name := "value", type := (.array .byte), accessFlags := 18, slot := 0, constantValue := 0 }, { name := "coder", type := .byte, accessFlags := 18, slot := 1, constantValue := 0 }, { name := "hash", type := .int, accessFlags := 2, slot := 2, constantValue := 0 }, { name := "hashIsZero", type := .boolean, accessFlags := 2, slot := 3, constantValue := 0 }, { name := "serialVersionUID", type := .long, accessFlags := 26, slot := 0, constantValue := 0 }, { name := "COMPACT_STRINGS", type := .boolean, accessFlags := 24, slot := 1, constantValue := 0 }, { name := "serialPersistentFields", type := (.array (.object "java/io/ObjectStreamField")), accessFlags := 26, slot := 2, constantValue := 0 }, { name := "REPL", type := .char, accessFlags := 26, slot := 3, constantValue := 0 }, { name := "CASE_INSENSITIVE_ORDER", type := (.object "java/util/Comparator"), accessFlags := 25, slot := 4, constantValue := 0 }, { name := "LATIN1", type := .byte, accessFlags := 24, slot := 5, constantValue := 0 }, { name := "UTF16", type := .byte, accessFlags := 24, slot := 6, constantValue := 0 }]
  methods := #[k7m0, k7m1, k7m2, k7m3, k7m4, k7m5, k7m6, k7m7]
  instanceTypes := #[(.array .byte), .byte, .int, .boolean]
  staticTypes := #[.long, .boolean, (.array (.object "java/io/ObjectStreamField")), .char, (.object "java/util/Comparator"), .byte, .byte]
  resolved := Array.replicate 1451 none
  statics := some 0 }

def pool8 : Array CpInfo := pool [(3, .class_ 4), (0, u "java/lang/String"), (1, .class_ 8), (1, u "java/lang/Object"), (0, u "<init>"), (0, u "()V"), (0, .methodref 12 13), (0, .class_ 14), (0, .nameAndType 15 16), (0, u "java/lang/StringUTF16"), (0, u "newBytesLength"), (0, u "(I)I"), (3, .integer 1073741823), (23, .fieldref 12 45), (0, .nameAndType 46 47), (0, u "$assertionsDisabled"), (0, u "Z"), (0, .methodref 12 49), (0, .nameAndType 50 51), (0, u "length"), (0, u "([B)I"), (7, .fieldref 12 60), (0, .nameAndType 61 62), (0, u "HI_BYTE_SHIFT"), (0, u "I"), (0, .fieldref 12 64), (0, .nameAndType 65 62), (0, u "LO_BYTE_SHIFT"), (1, .methodref 12 68), (0, .nameAndType 69 70), (0, u "checkIndex"), (0, u "(I[B)V"), (0, .methodref 12 72), (0, .nameAndType 73 74), (0, u "getChar"), (0, u "([BI)C"), (32, .methodref 12 108), (0, .nameAndType 109 110), (0, u "newBytesFor"), (0, u "(I)[B"), (0, .methodref 12 112), (0, .nameAndType 113 114), (0, u "putChar"), (0, u "([BII)V"), (0, .methodref 12 116), (0, .nameAndType 117 118), (0, u "compress"), (0, u "([CI[BII)I"), (0, .methodref 12 120), (0, .nameAndType 121 122), (0, u "toBytes"), (0, u "([CII)[B"), (138, u "coderFromArrayLen"), (0, u "([BI)B"), (106, .class_ 371), (1, u "java/lang/StringUTF16$LinesSpliterator"), (20, u "charAt"), (21, .methodref 3 415), (0, .nameAndType 69 416), (0, u "(II)V"), (13, u "MAX_LENGTH"), (196, .class_ 628), (0, u "java/lang/StringUTF16$CodePointsSpliterator"), (0, .class_ 630), (0, u "java/lang/StringUTF16$CharsSpliterator")] 4

def k8m0 : Method := { name := "<init>", desc := "()V", sig := { parameters := [], returnType := none }, accessFlags := 0, code := none }
def k8c1 : Code := { maxStack := 1, maxLocals := 1, code := jdk_52_method_2_code, exceptionTable := #[], attributes := #[] }
def k8m1 : Method := { name := "newBytesFor", desc := "(I)[B", sig := { parameters := [.int], returnType := some (.array .byte) }, accessFlags := 9, code := some k8c1 }
def k8c2 : Code := { maxStack := 4, maxLocals := 1, code := jdk_52_method_3_code, exceptionTable := #[], attributes := #[] }
def k8m2 : Method := { name := "newBytesLength", desc := "(I)I", sig := { parameters := [.int], returnType := some .int }, accessFlags := 9, code := some k8c2 }
def k8c3 : Code := { maxStack := 4, maxLocals := 3, code := jdk_52_method_4_code, exceptionTable := #[], attributes := #[] }
def k8m3 : Method := { name := "putChar", desc := "([BII)V", sig := { parameters := [(.array .byte), .int, .int], returnType := none }, accessFlags := 8, code := some k8c3 }
def k8c4 : Code := { maxStack := 3, maxLocals := 2, code := jdk_52_method_5_code, exceptionTable := #[], attributes := #[] }
def k8m4 : Method := { name := "getChar", desc := "([BI)C", sig := { parameters := [(.array .byte), .int], returnType := some .char }, accessFlags := 8, code := some k8c4 }
def k8c5 : Code := { maxStack := 2, maxLocals := 1, code := jdk_52_method_6_code, exceptionTable := #[], attributes := #[] }
def k8m5 : Method := { name := "length", desc := "([B)I", sig := { parameters := [(.array .byte)], returnType := some .int }, accessFlags := 9, code := some k8c5 }
def k8c6 : Code := { maxStack := 4, maxLocals := 5, code := jdk_52_method_14_code, exceptionTable := #[], attributes := #[] }
def k8m6 : Method := { name := "toBytes", desc := "([CII)[B", sig := { parameters := [(.array .char), .int, .int], returnType := some (.array .byte) }, accessFlags := 9, code := some k8c6 }
def k8c7 : Code := { maxStack := 2, maxLocals := 2, code := jdk_52_method_15_code, exceptionTable := #[], attributes := #[] }
def k8m7 : Method := { name := "coderFromArrayLen", desc := "([BI)B", sig := { parameters := [(.array .byte), .int], returnType := some .byte }, accessFlags := 8, code := some k8c7 }
def k8c8 : Code := { maxStack := 5, maxLocals := 6, code := jdk_52_method_16_code, exceptionTable := #[], attributes := #[] }
def k8m8 : Method := { name := "compress", desc := "([CII)[B", sig := { parameters := [(.array .char), .int, .int], returnType := some (.array .byte) }, accessFlags := 9, code := some k8c8 }
def k8c9 : Code := { maxStack := 3, maxLocals := 7, code := jdk_52_method_21_code, exceptionTable := #[], attributes := #[] }
def k8m9 : Method := { name := "compress", desc := "([CI[BII)I", sig := { parameters := [(.array .char), .int, (.array .byte), .int, .int], returnType := some .int }, accessFlags := 9, code := some k8c9 }
def k8c10 : Code := { maxStack := 2, maxLocals := 2, code := jdk_52_method_83_code, exceptionTable := #[], attributes := #[] }
def k8m10 : Method := { name := "charAt", desc := "([BI)C", sig := { parameters := [(.array .byte), .int], returnType := some .char }, accessFlags := 9, code := some k8c10 }
def k8c11 : Code := { maxStack := 2, maxLocals := 2, code := jdk_52_method_91_code, exceptionTable := #[], attributes := #[] }
def k8m11 : Method := { name := "checkIndex", desc := "(I[B)V", sig := { parameters := [.int, (.array .byte)], returnType := none }, accessFlags := 9, code := some k8c11 }
/-- java/lang/StringUTF16 -/
def k8 : Class := { plain "java/lang/StringUTF16" (some 0) with
  accessFlags := 48
  interfaces := #[]
  cf := some (fileOf pool8 12 #[.nestMembers #[627, 629, 369]] #[{ accessFlags := 0, nameIndex := 9, descriptorIndex := 10, attributes := #[] }, { accessFlags := 9, nameIndex := 109, descriptorIndex := 110, attributes := #[] }, { accessFlags := 9, nameIndex := 15, descriptorIndex := 16, attributes := #[] }, { accessFlags := 8, nameIndex := 113, descriptorIndex := 114, attributes := #[] }, { accessFlags := 8, nameIndex := 73, descriptorIndex := 74, attributes := #[] }, { accessFlags := 9, nameIndex := 50, descriptorIndex := 51, attributes := #[] }, { accessFlags := 9, nameIndex := 121, descriptorIndex := 122, attributes := #[] }, { accessFlags := 8, nameIndex := 261, descriptorIndex := 262, attributes := #[] }, { accessFlags := 9, nameIndex := 117, descriptorIndex := 122, attributes := #[] }, { accessFlags := 9, nameIndex := 117, descriptorIndex := 118, attributes := #[] }, { accessFlags := 9, nameIndex := 392, descriptorIndex := 74, attributes := #[] }, { accessFlags := 9, nameIndex := 69, descriptorIndex := 70, attributes := #[] }] 48 6 #[] #[{ accessFlags := 26, nameIndex := 61, descriptorIndex := 62, attributes := #[] }, { accessFlags := 26, nameIndex := 65, descriptorIndex := 62, attributes := #[] }, { accessFlags := 24, nameIndex := 430, descriptorIndex := 62, attributes := #[] }, { accessFlags := 4120, nameIndex := 46, descriptorIndex := 47, attributes := #[] }])
  fields := #[{ name := "HI_BYTE_SHIFT", type := .int, accessFlags := 26, slot := 0, constantValue := 0 }, { name := "LO_BYTE_SHIFT", type := .int, accessFlags := 26, slot := 1, constantValue := 0 }, { name := "MAX_LENGTH", type := .int, accessFlags := 24, slot := 2, constantValue := 0 }, { name := "$assertionsDisabled", type := .boolean, accessFlags := 4120, slot := 3, constantValue := 0 }]
  methods := #[k8m0, k8m1, k8m2, k8m3, k8m4, k8m5, k8m6, k8m7, k8m8, k8m9, k8m10, k8m11]
  instanceTypes := #[]
  staticTypes := #[.int, .int, .int, .boolean]
  resolved := Array.replicate 635 none
  statics := some 1 }

def pool9 : Array CpInfo := pool [(2, .class_ 4), (1, u "java/lang/Object"), (0, u "<init>"), (0, u "()V"), (17, .methodref 25 26), (0, .class_ 27), (0, .nameAndType 28 29), (0, u "java/lang/String"), (0, u "length"), (0, u "()I"), (0, .class_ 31), (0, u "com/example/bandwarden/bandwarden/protocol/Sha1"), (0, .methodref 25 33), (0, .nameAndType 34 35), (0, u "charAt"), (0, u "(I)C"), (14, u "HEX_DIGITS"), (0, u "I"), (6, u "isHex"), (0, u "(Ljava/lang/String;)Z")] 4

def k9m0 : Method := { name := "<init>", desc := "()V", sig := { parameters := [], returnType := none }, accessFlags := 2, code := none }
def k9c1 : Code := { maxStack := 2, maxLocals := 4, code := prog_6_method_3_code, exceptionTable := #[], attributes := #[] }
def k9m1 : Method := { name := "isHex", desc := "(Ljava/lang/String;)Z", sig := { parameters := [(.object "java/lang/String")], returnType := some .boolean }, accessFlags := 8, code := some k9c1 }
/-- com/example/bandwarden/bandwarden/protocol/Sha1 -/
def k9 : Class := { plain "com/example/bandwarden/bandwarden/protocol/Sha1" (some 0) with
  accessFlags := 49
  interfaces := #[]
  cf := some (fileOf pool9 30 #[] #[{ accessFlags := 2, nameIndex := 5, descriptorIndex := 6, attributes := #[] }, { accessFlags := 8, nameIndex := 58, descriptorIndex := 59, attributes := #[] }] 49 2 #[] #[{ accessFlags := 26, nameIndex := 50, descriptorIndex := 51, attributes := #[] }])
  fields := #[{ name := "HEX_DIGITS", type := .int, accessFlags := 26, slot := 0, constantValue := 0 }]
  methods := #[k9m0, k9m1]
  instanceTypes := #[]
  staticTypes := #[.int]
  resolved := Array.replicate 64 none
  statics := none }

def pool10 : Array CpInfo := pool [(1, .class_ 2), (0, u "java/lang/String"), (1, .class_ 6), (1, u "java/lang/Object"), (0, u "<init>"), (0, u "()V"), (0, .methodref 1 10), (0, .nameAndType 11 12), (0, u "checkIndex"), (0, u "(II)V"), (1, .class_ 16), (1, u "java/lang/StringLatin1"), (36, u "([BI)C"), (67, u "$assertionsDisabled"), (0, u "Z"), (98, .class_ 223), (1, u "java/lang/StringLatin1$LinesSpliterator"), (28, u "charAt"), (137, .class_ 391), (0, u "java/lang/StringLatin1$CharsSpliterator")] 3

def k10m0 : Method := { name := "<init>", desc := "()V", sig := { parameters := [], returnType := none }, accessFlags := 0, code := none }
def k10c1 : Code := { maxStack := 2, maxLocals := 2, code := jdk_43_method_2_code, exceptionTable := #[], attributes := #[] }
def k10m1 : Method := { name := "charAt", desc := "([BI)C", sig := { parameters := [(.array .byte), .int], returnType := some .char }, accessFlags := 9, code := some k10c1 }
/-- java/lang/StringLatin1 -/
def k10 : Class := { plain "java/lang/StringLatin1" (some 0) with
  accessFlags := 48
  interfaces := #[]
  cf := some (fileOf pool10 14 #[.nestMembers #[390, 221]] #[{ accessFlags := 0, nameIndex := 7, descriptorIndex := 8, attributes := #[] }, { accessFlags := 9, nameIndex := 252, descriptorIndex := 53, attributes := #[] }] 48 4 #[] #[{ accessFlags := 4120, nameIndex := 121, descriptorIndex := 122, attributes := #[] }])
  fields := #[{ name := "$assertionsDisabled", type := .boolean, accessFlags := 4120, slot := 0, constantValue := 0 }]
  methods := #[k10m0, k10m1]
  instanceTypes := #[]
  staticTypes := #[.boolean]
  resolved := Array.replicate 395 none
  statics := none }

def pool11 : Array CpInfo := pool [(2, .class_ 4), (1, u "java/lang/Object"), (0, u "<init>"), (0, u "()V"), (17, .class_ 26), (1, u "jdk/internal/util/Preconditions"), (6, u "checkIndex"), (21, .class_ 56), (0, u "jdk/internal/util/Preconditions$4"), (57, .class_ 115), (0, u "jdk/internal/util/Preconditions$1"), (7, u "SIOOBE_FORMATTER"), (0, u "Ljava/util/function/BiFunction;"), (0, .class_ 126), (0, u "jdk/internal/util/Preconditions$2"), (3, u "AIOOBE_FORMATTER"), (0, .class_ 132), (0, u "jdk/internal/util/Preconditions$3"), (3, u "IOOBE_FORMATTER"), (41, u "(IILjava/util/function/BiFunction;)I")] 15

def k11m0 : Method := { name := "<init>", desc := "()V", sig := { parameters := [], returnType := none }, accessFlags := 1, code := none }
def k11c1 : Code := { maxStack := 3, maxLocals := 3, code := jdk_41_method_11_code, exceptionTable := #[], attributes := #[] }
def k11m1 : Method := { name := "checkIndex", desc := "(IILjava/util/function/BiFunction;)I", sig := { parameters := [.int, .int, (.object "java/util/function/BiFunction")], returnType := some .int }, accessFlags := 9, code := some k11c1 }
/-- jdk/internal/util/Preconditions -/
def k11 : Class := { plain "jdk/internal/util/Preconditions" (some 0) with
  accessFlags := 33
  interfaces := #[]
  cf := some (fileOf pool11 24 #[.nestMembers #[55, 131, 125, 114]] #[{ accessFlags := 1, nameIndex := 5, descriptorIndex := 6, attributes := #[] }, { accessFlags := 9, nameIndex := 33, descriptorIndex := 178, attributes := #[] }] 33 2 #[] #[{ accessFlags := 25, nameIndex := 123, descriptorIndex := 124, attributes := #[] }, { accessFlags := 25, nameIndex := 130, descriptorIndex := 124, attributes := #[] }, { accessFlags := 25, nameIndex := 136, descriptorIndex := 124, attributes := #[] }])
  fields := #[{ name := "SIOOBE_FORMATTER", type := (.object "java/util/function/BiFunction"), accessFlags := 25, slot := 0, constantValue := 0 }, { name := "AIOOBE_FORMATTER", type := (.object "java/util/function/BiFunction"), accessFlags := 25, slot := 1, constantValue := 0 }, { name := "IOOBE_FORMATTER", type := (.object "java/util/function/BiFunction"), accessFlags := 25, slot := 2, constantValue := 0 }]
  methods := #[k11m0, k11m1]
  instanceTypes := #[]
  staticTypes := #[(.object "java/util/function/BiFunction"), (.object "java/util/function/BiFunction"), (.object "java/util/function/BiFunction")]
  resolved := Array.replicate 194 none
  statics := some 2 }

def pool12 : Array CpInfo := pool [(9, u "<init>"), (6, .class_ 18), (1, u "java/lang/Object"), (0, u "()V"), (1, .class_ 23), (1, u "jdk/internal/util/ArraysSupport"), (0, u "LOG2_ARRAY_LONG_INDEX_SCALE"), (0, u "I"), (2, u "U"), (0, u "Ljdk/internal/misc/Unsafe;"), (8, u "BIG_ENDIAN"), (0, u "Z"), (8, u "LOG2_BYTE_BIT_SIZE"), (4, u "LOG2_ARRAY_INT_INDEX_SCALE"), (54, u "JLA"), (0, u "Ljdk/internal/access/JavaLangAccess;"), (11, u "LOG2_ARRAY_BOOLEAN_INDEX_SCALE"), (9, u "LOG2_ARRAY_BYTE_INDEX_SCALE"), (5, u "LOG2_ARRAY_CHAR_INDEX_SCALE"), (5, u "LOG2_ARRAY_SHORT_INDEX_SCALE"), (18, u "LOG2_ARRAY_FLOAT_INDEX_SCALE"), (24, u "LOG2_ARRAY_DOUBLE_INDEX_SCALE"), (89, u "T_BOOLEAN"), (2, u "T_CHAR"), (1, u "T_FLOAT"), (1, u "T_DOUBLE"), (1, u "T_BYTE"), (1, u "T_SHORT"), (1, u "T_INT"), (1, u "T_LONG"), (1, u "SOFT_MAX_ARRAY_LENGTH")] 83

def k12m0 : Method := { name := "<init>", desc := "()V", sig := { parameters := [], returnType := none }, accessFlags := 2, code := none }
/-- jdk/internal/util/ArraysSupport -/
def k12 : Class := { plain "jdk/internal/util/ArraysSupport" (some 0) with
  accessFlags := 33
  interfaces := #[]
  cf := some (fileOf pool12 21 #[] #[{ accessFlags := 2, nameIndex := 9, descriptorIndex := 19, attributes := #[] }] 33 16 #[] #[{ accessFlags := 24, nameIndex := 28, descriptorIndex := 29, attributes := #[] }, { accessFlags := 26, nameIndex := 38, descriptorIndex := 39, attributes := #[] }, { accessFlags := 25, nameIndex := 121, descriptorIndex := 25, attributes := #[] }, { accessFlags := 25, nameIndex := 131, descriptorIndex := 25, attributes := #[] }, { accessFlags := 25, nameIndex := 137, descriptorIndex := 25, attributes := #[] }, { accessFlags := 25, nameIndex := 143, descriptorIndex := 25, attributes := #[] }, { accessFlags := 25, nameIndex := 53, descriptorIndex := 25, attributes := #[] }, { accessFlags := 25, nameIndex := 24, descriptorIndex := 25, attributes := #[] }, { accessFlags := 25, nameIndex := 162, descriptorIndex := 25, attributes := #[] }, { accessFlags := 25, nameIndex := 187, descriptorIndex := 25, attributes := #[] }, { accessFlags := 26, nameIndex := 48, descriptorIndex := 25, attributes := #[] }, { accessFlags := 25, nameIndex := 277, descriptorIndex := 25, attributes := #[] }, { accessFlags := 25, nameIndex := 280, descriptorIndex := 25, attributes := #[] }, { accessFlags := 25, nameIndex := 282, descriptorIndex := 25, attributes := #[] }, { accessFlags := 25, nameIndex := 284, descriptorIndex := 25, attributes := #[] }, { accessFlags := 25, nameIndex := 286, descriptorIndex := 25, attributes := #[] }, { accessFlags := 25, nameIndex := 288, descriptorIndex := 25, attributes := #[] }, { accessFlags := 25, nameIndex := 290, descriptorIndex := 25, attributes := #[] }, { accessFlags := 25, nameIndex := 292, descriptorIndex := 25, attributes := #[] }, { accessFlags := 26, nameIndex := 108, descriptorIndex := 109, attributes := #[] }, { accessFlags := 25, nameIndex := 294, descriptorIndex := 25, attributes := #[] }])
  fields := #[{ name := "U", type := (.object "jdk/internal/misc/Unsafe"), accessFlags := 24, slot := 0, constantValue := 0 }, { name := "BIG_ENDIAN", type := .boolean, accessFlags := 26, slot := 1, constantValue := 0 }, { name := "LOG2_ARRAY_BOOLEAN_INDEX_SCALE", type := .int, accessFlags := 25, slot := 2, constantValue := 0 }, { name := "LOG2_ARRAY_BYTE_INDEX_SCALE", type := .int, accessFlags := 25, slot := 3, constantValue := 0 }, { name := "LOG2_ARRAY_CHAR_INDEX_SCALE", type := .int, accessFlags := 25, slot := 4, constantValue := 0 }, { name := "LOG2_ARRAY_SHORT_INDEX_SCALE", type := .int, accessFlags := 25, slot := 5, constantValue := 0 }, { name := "LOG2_ARRAY_INT_INDEX_SCALE", type := .int, accessFlags := 25, slot := 6, constantValue := 0 }, { name := "LOG2_ARRAY_LONG_INDEX_SCALE", type := .int, accessFlags := 25, slot := 7, constantValue := 0 }, { name := "LOG2_ARRAY_FLOAT_INDEX_SCALE", type := .int, accessFlags := 25, slot := 8, constantValue := 0 }, { name := "LOG2_ARRAY_DOUBLE_INDEX_SCALE", type := .int, accessFlags := 25, slot := 9, constantValue := 0 }, { name := "LOG2_BYTE_BIT_SIZE", type := .int, accessFlags := 26, slot := 10, constantValue := 0 }, { name := "T_BOOLEAN", type := .int, accessFlags := 25, slot := 11, constantValue := 0 }, { name := "T_CHAR", type := .int, accessFlags := 25, slot := 12, constantValue := 0 }, { name := "T_FLOAT", type := .int, accessFlags := 25, slot := 13, constantValue := 0 }, { name := "T_DOUBLE", type := .int, accessFlags := 25, slot := 14, constantValue := 0 }, { name := "T_BYTE", type := .int, accessFlags := 25, slot := 15, constantValue := 0 }, { name := "T_SHORT", type := .int, accessFlags := 25, slot := 16, constantValue := 0 }, { name := "T_INT", type := .int, accessFlags := 25, slot := 17, constantValue := 0 }, { name := "T_LONG", type := .int, accessFlags := 25, slot := 18, constantValue := 0 }, { name := "JLA", type := (.object "jdk/internal/access/JavaLangAccess"), accessFlags := 26, slot := 19, constantValue := 0 }, { name := "SOFT_MAX_ARRAY_LENGTH", type := .int, accessFlags := 25, slot := 20, constantValue := 0 }]
  methods := #[k12m0]
  instanceTypes := #[]
  staticTypes := #[(.object "jdk/internal/misc/Unsafe"), .boolean, .int, .int, .int, .int, .int, .int, .int, .int, .int, .int, .int, .int, .int, .int, .int, .int, .int, (.object "jdk/internal/access/JavaLangAccess"), .int]
  resolved := Array.replicate 378 none
  statics := none }

def pool13 : Array CpInfo := pool [(1, u "java/lang/Cloneable"), (0, .class_ 1), (0, u "java/lang/Object"), (0, .class_ 3)] 3

/-- java/lang/Cloneable -/
def k13 : Class := { plain "java/lang/Cloneable" (some 0) with
  accessFlags := 1537
  interfaces := #[]
  cf := some (fileOf pool13 2 #[] #[] 1537 4 #[] #[])
  fields := #[]
  methods := #[]
  instanceTypes := #[]
  staticTypes := #[]
  resolved := Array.replicate 8 none
  statics := none }

/-- the primitive byte -/
def k14 : Class := { plain "byte" none with kind := .primitive 'B', accessFlags := 0x411 }
/-- [B -/
def k15 : Class := { plain "[B" (some 0) with kind := .array 14 .byte, interfaces := #[13, 2], accessFlags := 1041 }

/-- the primitive char -/
def k16 : Class := { plain "char" none with kind := .primitive 'C', accessFlags := 0x411 }
/-- [C -/
def k17 : Class := { plain "[C" (some 0) with kind := .array 16 .char, interfaces := #[13, 2], accessFlags := 1041 }

/-- the primitive int -/
def k18 : Class := { plain "int" none with kind := .primitive 'I', accessFlags := 0x411 }
/-- [I -/
def k19 : Class := { plain "[I" (some 0) with kind := .array 18 .int, interfaces := #[13, 2], accessFlags := 1041 }

def heap : Heap := #[{ cls := 7, slots := #[.long 0, .int 1, .null, .int 0, .null, .int 0, .int 0], vm := .statics 7 },
  { cls := 8, slots := #[.int 0, .int 8, .int 0, .int 1], vm := .statics 8 },
  { cls := 11, slots := #[.null, .null, .null], vm := .statics 11 }]
def classes : Array Class := #[k0, k1, k2, k3, k4, k5, k6, k7, k8, k9, k10, k11, k12, k13, k14, k15, k16, k17, k18, k19]
def interned : List (Array UInt16 × Addr) := []
def slotsUsed : Nat := 14
def theMethod : MethodId := ⟨1, 2⟩
def args0 : Array Value := #[.int 1, .int 2, .int 3, .int 4, .int 5, .int 6]
def aboutOver (below : List Frame) : State where
  vm := { classes := classes, interned := interned.toArray }
  heap := heap
  slotsUsed := slotsUsed
  threads := #[{ frames := .invoking theMethod args0 :: below }]
def below0 : List Frame := [.native { method := ⟨0, 0⟩, args := #[] }]
def about1 : State := aboutOver below0
def p0 : Program := .bare "" "" ""
def e0 : Env := launch0.env 0 0 0
theorem w_frames : about1.frames = Frame.invoking theMethod args0 :: below0 := rfl
set_option maxRecDepth 65536 in
theorem w_args : argsFit about1.vm theMethod args0 = true := by decide +kernel
set_option maxRecDepth 65536 in
theorem w_heap : heapFits about1 = true := by decide +kernel
set_option maxRecDepth 65536 in
theorem w_runnable : about1.curStatus? = some .runnable := by decide +kernel
set_option maxRecDepth 65536 in
theorem w_alone : about1.alone = true := by decide +kernel
set_option maxRecDepth 65536 in
theorem w_named : about1.methodNamed? x = some theMethod := by decide +kernel
set_option maxRecDepth 65536 in
theorem w_hears : about1.hears theMethod below0 = true := by decide +kernel
set_option maxRecDepth 65536 in
theorem w_ripe : about1.ripe theMethod args0 below0 = true := by decide +kernel
theorem w_running : about1.status = .running := rfl
set_option maxRecDepth 65536 in
theorem w_room : about1.hasRoom e0.platform room_1 = true :=
  launch0.hasRoom_least _ room_1 (by decide +kernel) (by decide +kernel) (by decide +kernel) (by decide +kernel) (by decide +kernel) (by decide +kernel)
theorem allAtoms_all (ts : List Jvm.Cond) (a : Array Jvm.Value) (st : Jvm.State) : (allAtoms ts).before a st = ts.all (fun c => c.before a st) := by
  induction ts with
  | nil => rfl
  | cons c t ih =>
    show (Jvm.Cond.and c (allAtoms t)).before a st = _
    rw [Jvm.Cond.before_and, ih, List.all_cons]
def words1 : List Jvm.Cond := Jvm.Cond.code x code maxLocals ret :: tables_1
/-- a 'code' word, met by the world's own term for the bytes: nothing is compared byte by byte -/
theorem code_word {y : MethodName} {bytes : ByteArray} {mx : Nat} {rt : Option FieldType} {a : Array Value} {s : State} {m : MethodId} {meth : Method} {c : Code} (h1 : s.methodNamed? y = some m) (h2 : s.vm.method? m = some meth) (h3 : meth.code = some c) (h4 : c.code = bytes)
    (h5 : (c.maxLocals == mx && c.exceptionTable.isEmpty && decide (c.maxStack ≤ mostOperands) && decide (meth.sig.returnType = rt) && !meth.locks && decide (parseMethodDescriptor y.desc = some meth.sig)) = true) : (Jvm.Cond.code y bytes mx rt).before a s = true := by
  simp only [Bool.and_eq_true, beq_iff_eq, Bool.not_eq_true', decide_eq_true_eq] at h5
  obtain ⟨⟨⟨⟨⟨g1, g2⟩, g3⟩, g4⟩, g5⟩, g6⟩ := h5
  simp [Cond.before, Cond.holds, Cond.value, h1, h2, h3, h4, g1, g2, g3, g4, g5, g6]
def isCode : Jvm.Cond → Bool
  | .code _ _ _ _ => true
  | _ => false
theorem all_split {L : List Jvm.Cond} {P : Jvm.Cond → Bool} (h1 : L.all (fun c => isCode c || P c) = true) (h2 : ∀ c ∈ L.filter isCode, P c = true) : L.all P = true := by
  refine List.all_eq_true.mpr fun c hc => ?_
  have h := List.all_eq_true.mp h1 c hc
  rcases Bool.eq_false_or_eq_true (isCode c) with hi | hi
  · exact h2 c (List.mem_filter.mpr ⟨hc, hi⟩)
  · simpa [hi] using h
set_option maxRecDepth 65536 in
theorem w_c0 : (Jvm.Cond.code x code maxLocals ret).before args0 about1 = true := code_word (m := ⟨1, 2⟩) (meth := k1m2) (c := k1c2) (by decide +kernel) rfl rfl rfl (by decide +kernel)
set_option maxRecDepth 65536 in
theorem w_c1 : (Jvm.Cond.code ({ cls := "com/example/bandwarden/bandwarden/protocol/Sha1IsHexPinLaw", name := "ok", desc := "(C)Z" } : Jvm.MethodName) method_2_code (2 : Nat) (Option.some Jvm.ClassFile.FieldType.boolean)).before args0 about1 = true := code_word (m := ⟨1, 1⟩) (meth := k1m1) (c := k1c1) (by decide +kernel) rfl rfl rfl (by decide +kernel)
set_option maxRecDepth 65536 in
theorem w_c2 : (Jvm.Cond.code ({ cls := "java/lang/String", name := "<init>", desc := "([C)V" } : Jvm.MethodName) jdk_42_method_3_code (2 : Nat) (Option.none : Option Jvm.ClassFile.FieldType)).before args0 about1 = true := code_word (m := ⟨7, 1⟩) (meth := k7m1) (c := k7c1) (by decide +kernel) rfl rfl rfl (by decide +kernel)
set_option maxRecDepth 65536 in
theorem w_c3 : (Jvm.Cond.code ({ cls := "java/lang/String", name := "<init>", desc := "([CIILjava/lang/Void;)V" } : Jvm.MethodName) jdk_42_method_149_code (6 : Nat) (Option.none : Option Jvm.ClassFile.FieldType)).before args0 about1 = true := code_word (m := ⟨7, 4⟩) (meth := k7m4) (c := k7c4) (by decide +kernel) rfl rfl rfl (by decide +kernel)
set_option maxRecDepth 65536 in
theorem w_c4 : (Jvm.Cond.code ({ cls := "java/lang/Object", name := "<init>", desc := "()V" } : Jvm.MethodName) object_method_1_code (1 : Nat) (Option.none : Option Jvm.ClassFile.FieldType)).before args0 about1 = true := code_word (m := ⟨0, 0⟩) (meth := k0m0) (c := k0c0) (by decide +kernel) rfl rfl rfl (by decide +kernel)
set_option maxRecDepth 65536 in
theorem w_c5 : (Jvm.Cond.code ({ cls := "java/lang/StringUTF16", name := "compress", desc := "([CII)[B" } : Jvm.MethodName) jdk_52_method_16_code (6 : Nat) (Option.some (Jvm.ClassFile.FieldType.array Jvm.ClassFile.FieldType.byte))).before args0 about1 = true := code_word (m := ⟨8, 8⟩) (meth := k8m8) (c := k8c8) (by decide +kernel) rfl rfl rfl (by decide +kernel)
set_option maxRecDepth 65536 in
theorem w_c6 : (Jvm.Cond.code ({ cls := "java/lang/StringUTF16", name := "compress", desc := "([CI[BII)I" } : Jvm.MethodName) jdk_52_method_21_code (7 : Nat) (Option.some Jvm.ClassFile.FieldType.int)).before args0 about1 = true := code_word (m := ⟨8, 9⟩) (meth := k8m9) (c := k8c9) (by decide +kernel) rfl rfl rfl (by decide +kernel)
set_option maxRecDepth 65536 in
theorem w_c7 : (Jvm.Cond.code ({ cls := "java/lang/StringUTF16", name := "coderFromArrayLen", desc := "([BI)B" } : Jvm.MethodName) jdk_52_method_15_code (2 : Nat) (Option.some Jvm.ClassFile.FieldType.byte)).before args0 about1 = true := code_word (m := ⟨8, 7⟩) (meth := k8m7) (c := k8c7) (by decide +kernel) rfl rfl rfl (by decide +kernel)
set_option maxRecDepth 65536 in
theorem w_c8 : (Jvm.Cond.code ({ cls := "com/example/bandwarden/bandwarden/protocol/Sha1", name := "isHex", desc := "(Ljava/lang/String;)Z" } : Jvm.MethodName) prog_6_method_3_code (4 : Nat) (Option.some Jvm.ClassFile.FieldType.boolean)).before args0 about1 = true := code_word (m := ⟨9, 1⟩) (meth := k9m1) (c := k9c1) (by decide +kernel) rfl rfl rfl (by decide +kernel)
set_option maxRecDepth 65536 in
theorem w_c9 : (Jvm.Cond.code ({ cls := "java/lang/String", name := "length", desc := "()I" } : Jvm.MethodName) jdk_42_method_54_code (1 : Nat) (Option.some Jvm.ClassFile.FieldType.int)).before args0 about1 = true := code_word (m := ⟨7, 2⟩) (meth := k7m2) (c := k7c2) (by decide +kernel) rfl rfl rfl (by decide +kernel)
set_option maxRecDepth 65536 in
theorem w_c10 : (Jvm.Cond.code ({ cls := "java/lang/String", name := "coder", desc := "()B" } : Jvm.MethodName) jdk_42_method_152_code (1 : Nat) (Option.some Jvm.ClassFile.FieldType.byte)).before args0 about1 = true := code_word (m := ⟨7, 5⟩) (meth := k7m5) (c := k7c5) (by decide +kernel) rfl rfl rfl (by decide +kernel)
set_option maxRecDepth 65536 in
theorem w_c11 : (Jvm.Cond.code ({ cls := "java/lang/String", name := "charAt", desc := "(I)C" } : Jvm.MethodName) jdk_42_method_56_code (2 : Nat) (Option.some Jvm.ClassFile.FieldType.char)).before args0 about1 = true := code_word (m := ⟨7, 3⟩) (meth := k7m3) (c := k7c3) (by decide +kernel) rfl rfl rfl (by decide +kernel)
set_option maxRecDepth 65536 in
theorem w_c12 : (Jvm.Cond.code ({ cls := "java/lang/String", name := "isLatin1", desc := "()Z" } : Jvm.MethodName) jdk_42_method_154_code (1 : Nat) (Option.some Jvm.ClassFile.FieldType.boolean)).before args0 about1 = true := code_word (m := ⟨7, 6⟩) (meth := k7m6) (c := k7c6) (by decide +kernel) rfl rfl rfl (by decide +kernel)
set_option maxRecDepth 65536 in
theorem w_c13 : (Jvm.Cond.code ({ cls := "java/lang/StringLatin1", name := "charAt", desc := "([BI)C" } : Jvm.MethodName) jdk_43_method_2_code (2 : Nat) (Option.some Jvm.ClassFile.FieldType.char)).before args0 about1 = true := code_word (m := ⟨10, 1⟩) (meth := k10m1) (c := k10c1) (by decide +kernel) rfl rfl rfl (by decide +kernel)
set_option maxRecDepth 65536 in
theorem w_c14 : (Jvm.Cond.code ({ cls := "java/lang/String", name := "checkIndex", desc := "(II)V" } : Jvm.MethodName) jdk_42_method_155_code (2 : Nat) (Option.none : Option Jvm.ClassFile.FieldType)).before args0 about1 = true := code_word (m := ⟨7, 7⟩) (meth := k7m7) (c := k7c7) (by decide +kernel) rfl rfl rfl (by decide +kernel)
set_option maxRecDepth 65536 in
theorem w_c15 : (Jvm.Cond.code ({ cls := "jdk/internal/util/Preconditions", name := "checkIndex", desc := "(IILjava/util/function/BiFunction;)I" } : Jvm.MethodName) jdk_41_method_11_code (3 : Nat) (Option.some Jvm.ClassFile.FieldType.int)).before args0 about1 = true := code_word (m := ⟨11, 1⟩) (meth := k11m1) (c := k11c1) (by decide +kernel) rfl rfl rfl (by decide +kernel)
set_option maxRecDepth 65536 in
theorem w_c16 : (Jvm.Cond.code ({ cls := "java/lang/StringUTF16", name := "toBytes", desc := "([CII)[B" } : Jvm.MethodName) jdk_52_method_14_code (5 : Nat) (Option.some (Jvm.ClassFile.FieldType.array Jvm.ClassFile.FieldType.byte))).before args0 about1 = true := code_word (m := ⟨8, 6⟩) (meth := k8m6) (c := k8c6) (by decide +kernel) rfl rfl rfl (by decide +kernel)
set_option maxRecDepth 65536 in
theorem w_c17 : (Jvm.Cond.code ({ cls := "java/lang/StringUTF16", name := "newBytesFor", desc := "(I)[B" } : Jvm.MethodName) jdk_52_method_2_code (1 : Nat) (Option.some (Jvm.ClassFile.FieldType.array Jvm.ClassFile.FieldType.byte))).before args0 about1 = true := code_word (m := ⟨8, 1⟩) (meth := k8m1) (c := k8c1) (by decide +kernel) rfl rfl rfl (by decide +kernel)
set_option maxRecDepth 65536 in
theorem w_c18 : (Jvm.Cond.code ({ cls := "java/lang/StringUTF16", name := "newBytesLength", desc := "(I)I" } : Jvm.MethodName) jdk_52_method_3_code (1 : Nat) (Option.some Jvm.ClassFile.FieldType.int)).before args0 about1 = true := code_word (m := ⟨8, 2⟩) (meth := k8m2) (c := k8c2) (by decide +kernel) rfl rfl rfl (by decide +kernel)
set_option maxRecDepth 65536 in
theorem w_c19 : (Jvm.Cond.code ({ cls := "java/lang/StringUTF16", name := "putChar", desc := "([BII)V" } : Jvm.MethodName) jdk_52_method_4_code (3 : Nat) (Option.none : Option Jvm.ClassFile.FieldType)).before args0 about1 = true := code_word (m := ⟨8, 3⟩) (meth := k8m3) (c := k8c3) (by decide +kernel) rfl rfl rfl (by decide +kernel)
set_option maxRecDepth 65536 in
theorem w_c20 : (Jvm.Cond.code ({ cls := "java/lang/StringUTF16", name := "getChar", desc := "([BI)C" } : Jvm.MethodName) jdk_52_method_5_code (2 : Nat) (Option.some Jvm.ClassFile.FieldType.char)).before args0 about1 = true := code_word (m := ⟨8, 4⟩) (meth := k8m4) (c := k8c4) (by decide +kernel) rfl rfl rfl (by decide +kernel)
set_option maxRecDepth 65536 in
theorem w_c21 : (Jvm.Cond.code ({ cls := "java/lang/StringUTF16", name := "charAt", desc := "([BI)C" } : Jvm.MethodName) jdk_52_method_83_code (2 : Nat) (Option.some Jvm.ClassFile.FieldType.char)).before args0 about1 = true := code_word (m := ⟨8, 10⟩) (meth := k8m10) (c := k8c10) (by decide +kernel) rfl rfl rfl (by decide +kernel)
set_option maxRecDepth 65536 in
theorem w_c22 : (Jvm.Cond.code ({ cls := "java/lang/StringUTF16", name := "checkIndex", desc := "(I[B)V" } : Jvm.MethodName) jdk_52_method_91_code (2 : Nat) (Option.none : Option Jvm.ClassFile.FieldType)).before args0 about1 = true := code_word (m := ⟨8, 11⟩) (meth := k8m11) (c := k8c11) (by decide +kernel) rfl rfl rfl (by decide +kernel)
set_option maxRecDepth 65536 in
theorem w_c23 : (Jvm.Cond.code ({ cls := "java/lang/StringUTF16", name := "length", desc := "([B)I" } : Jvm.MethodName) jdk_52_method_6_code (1 : Nat) (Option.some Jvm.ClassFile.FieldType.int)).before args0 about1 = true := code_word (m := ⟨8, 5⟩) (meth := k8m5) (c := k8c5) (by decide +kernel) rfl rfl rfl (by decide +kernel)
def codes1 : List Jvm.Cond := [Jvm.Cond.code x code maxLocals ret, Jvm.Cond.code ({ cls := "com/example/bandwarden/bandwarden/protocol/Sha1IsHexPinLaw", name := "ok", desc := "(C)Z" } : Jvm.MethodName) method_2_code (2 : Nat) (Option.some Jvm.ClassFile.FieldType.boolean), Jvm.Cond.code ({ cls := "java/lang/String", name := "<init>", desc := "([C)V" } : Jvm.MethodName) jdk_42_method_3_code (2 : Nat) (Option.none : Option Jvm.ClassFile.FieldType), Jvm.Cond.code ({ cls := "java/lang/String", name := "<init>", desc := "([CIILjava/lang/Void;)V" } : Jvm.MethodName) jdk_42_method_149_code (6 : Nat) (Option.none : Option Jvm.ClassFile.FieldType), Jvm.Cond.code ({ cls := "java/lang/Object", name := "<init>", desc := "()V" } : Jvm.MethodName) object_method_1_code (1 : Nat) (Option.none : Option Jvm.ClassFile.FieldType), Jvm.Cond.code ({ cls := "java/lang/StringUTF16", name := "compress", desc := "([CII)[B" } : Jvm.MethodName) jdk_52_method_16_code (6 : Nat) (Option.some (Jvm.ClassFile.FieldType.array Jvm.ClassFile.FieldType.byte)), Jvm.Cond.code ({ cls := "java/lang/StringUTF16", name := "compress", desc := "([CI[BII)I" } : Jvm.MethodName) jdk_52_method_21_code (7 : Nat) (Option.some Jvm.ClassFile.FieldType.int), Jvm.Cond.code ({ cls := "java/lang/StringUTF16", name := "coderFromArrayLen", desc := "([BI)B" } : Jvm.MethodName) jdk_52_method_15_code (2 : Nat) (Option.some Jvm.ClassFile.FieldType.byte), Jvm.Cond.code ({ cls := "com/example/bandwarden/bandwarden/protocol/Sha1", name := "isHex", desc := "(Ljava/lang/String;)Z" } : Jvm.MethodName) prog_6_method_3_code (4 : Nat) (Option.some Jvm.ClassFile.FieldType.boolean), Jvm.Cond.code ({ cls := "java/lang/String", name := "length", desc := "()I" } : Jvm.MethodName) jdk_42_method_54_code (1 : Nat) (Option.some Jvm.ClassFile.FieldType.int), Jvm.Cond.code ({ cls := "java/lang/String", name := "coder", desc := "()B" } : Jvm.MethodName) jdk_42_method_152_code (1 : Nat) (Option.some Jvm.ClassFile.FieldType.byte), Jvm.Cond.code ({ cls := "java/lang/String", name := "charAt", desc := "(I)C" } : Jvm.MethodName) jdk_42_method_56_code (2 : Nat) (Option.some Jvm.ClassFile.FieldType.char), Jvm.Cond.code ({ cls := "java/lang/String", name := "isLatin1", desc := "()Z" } : Jvm.MethodName) jdk_42_method_154_code (1 : Nat) (Option.some Jvm.ClassFile.FieldType.boolean), Jvm.Cond.code ({ cls := "java/lang/StringLatin1", name := "charAt", desc := "([BI)C" } : Jvm.MethodName) jdk_43_method_2_code (2 : Nat) (Option.some Jvm.ClassFile.FieldType.char), Jvm.Cond.code ({ cls := "java/lang/String", name := "checkIndex", desc := "(II)V" } : Jvm.MethodName) jdk_42_method_155_code (2 : Nat) (Option.none : Option Jvm.ClassFile.FieldType), Jvm.Cond.code ({ cls := "jdk/internal/util/Preconditions", name := "checkIndex", desc := "(IILjava/util/function/BiFunction;)I" } : Jvm.MethodName) jdk_41_method_11_code (3 : Nat) (Option.some Jvm.ClassFile.FieldType.int), Jvm.Cond.code ({ cls := "java/lang/StringUTF16", name := "toBytes", desc := "([CII)[B" } : Jvm.MethodName) jdk_52_method_14_code (5 : Nat) (Option.some (Jvm.ClassFile.FieldType.array Jvm.ClassFile.FieldType.byte)), Jvm.Cond.code ({ cls := "java/lang/StringUTF16", name := "newBytesFor", desc := "(I)[B" } : Jvm.MethodName) jdk_52_method_2_code (1 : Nat) (Option.some (Jvm.ClassFile.FieldType.array Jvm.ClassFile.FieldType.byte)), Jvm.Cond.code ({ cls := "java/lang/StringUTF16", name := "newBytesLength", desc := "(I)I" } : Jvm.MethodName) jdk_52_method_3_code (1 : Nat) (Option.some Jvm.ClassFile.FieldType.int), Jvm.Cond.code ({ cls := "java/lang/StringUTF16", name := "putChar", desc := "([BII)V" } : Jvm.MethodName) jdk_52_method_4_code (3 : Nat) (Option.none : Option Jvm.ClassFile.FieldType), Jvm.Cond.code ({ cls := "java/lang/StringUTF16", name := "getChar", desc := "([BI)C" } : Jvm.MethodName) jdk_52_method_5_code (2 : Nat) (Option.some Jvm.ClassFile.FieldType.char), Jvm.Cond.code ({ cls := "java/lang/StringUTF16", name := "charAt", desc := "([BI)C" } : Jvm.MethodName) jdk_52_method_83_code (2 : Nat) (Option.some Jvm.ClassFile.FieldType.char), Jvm.Cond.code ({ cls := "java/lang/StringUTF16", name := "checkIndex", desc := "(I[B)V" } : Jvm.MethodName) jdk_52_method_91_code (2 : Nat) (Option.none : Option Jvm.ClassFile.FieldType), Jvm.Cond.code ({ cls := "java/lang/StringUTF16", name := "length", desc := "([B)I" } : Jvm.MethodName) jdk_52_method_6_code (1 : Nat) (Option.some Jvm.ClassFile.FieldType.int)]
set_option maxRecDepth 65536 in
theorem codes_eq : words1.filter isCode = codes1 := rfl
theorem w_codes : ∀ c ∈ words1.filter isCode, c.before args0 about1 = true := by
  rw [codes_eq]
  intro c hc
  simp only [codes1, List.mem_cons, List.not_mem_nil, or_false] at hc
  rcases hc with rfl | rfl | rfl | rfl | rfl | rfl | rfl | rfl | rfl | rfl | rfl | rfl | rfl | rfl | rfl | rfl | rfl | rfl | rfl | rfl | rfl | rfl | rfl | rfl
  · exact w_c0
  · exact w_c1
  · exact w_c2
  · exact w_c3
  · exact w_c4
  · exact w_c5
  · exact w_c6
  · exact w_c7
  · exact w_c8
  · exact w_c9
  · exact w_c10
  · exact w_c11
  · exact w_c12
  · exact w_c13
  · exact w_c14
  · exact w_c15
  · exact w_c16
  · exact w_c17
  · exact w_c18
  · exact w_c19
  · exact w_c20
  · exact w_c21
  · exact w_c22
  · exact w_c23
set_option maxRecDepth 65536 in
theorem w_t1 : (words1.take 24).all (fun c => isCode c || c.before args0 about1) = true := by decide +kernel
set_option maxRecDepth 65536 in
theorem w_t2 : ((words1.drop 24).take 24).all (fun c => isCode c || c.before args0 about1) = true := by decide +kernel
set_option maxRecDepth 65536 in
theorem w_t3 : (((words1.drop 24).drop 24).take 24).all (fun c => isCode c || c.before args0 about1) = true := by decide +kernel
set_option maxRecDepth 65536 in
theorem w_t4 : ((((words1.drop 24).drop 24).drop 24).take 24).all (fun c => isCode c || c.before args0 about1) = true := by decide +kernel
set_option maxRecDepth 65536 in
theorem w_t5 : ((((words1.drop 24).drop 24).drop 24).drop 24).all (fun c => isCode c || c.before args0 about1) = true := by decide +kernel
theorem w_tables : (allAtoms (Jvm.Cond.code x code maxLocals ret :: tables_1)).before args0 about1 = true := by
  rw [allAtoms_all]
  show words1.all (fun c => c.before args0 about1) = true
  refine all_split ?_ w_codes
  rw [← List.take_append_drop 24 words1, List.all_append, w_t1, ← List.take_append_drop 24 (words1.drop 24), List.all_append, w_t2, ← List.take_append_drop 24 ((words1.drop 24).drop 24), List.all_append, w_t3, ← List.take_append_drop 24 (((words1.drop 24).drop 24).drop 24), List.all_append, w_t4, w_t5]
  rfl
set_option maxRecDepth 65536 in
theorem w_rest : rest_1_c.before args0 about1 = true := by decide +kernel
set_option maxRecDepth 65536 in
theorem w_case : (Jvm.Cond.and given_1 narrow_1).before args0 about1 = true := by decide +kernel
theorem w_applies : (headSpec (Jvm.Cond.code x code maxLocals ret :: tables_1) room_1).applies x e0.platform about1 = true :=
  (Spec.applies_iff w_frames).mpr ⟨w_running, w_runnable, w_alone, w_named, w_hears, w_ripe, w_room, w_tables⟩
theorem atStart : AtStart classFile x code maxLocals ret World_1 tables_1 room_1 Calls_1 rest_1 Pre_1 launch0 p0 e0 about1 theMethod args0 below0 :=
  ⟨lists_1, trivial, launch0.admits_env _ _ _, launch0.least_env, fairChoices_fair.cas, fairChoices_fair.clock, w_frames, w_args, w_heap, w_applies, trivial, w_rest, w_case⟩
end start1
theorem witness_1 : WitnessClaimed_1 := ⟨start1.p0, start1.e0, start1.about1, start1.theMethod, start1.args0, start1.below0, start1.atStart⟩
end Jvm.Pilot.@@N@@
