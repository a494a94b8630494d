import JvmDerived
import JvmDerived.Pilot.@@N@@Statement
import JvmDerived.Pilot.@@N@@Code
set_option linter.unusedVariables false
set_option linter.unusedSimpArgs false
@@BLOCK:NumsL.lean.txt@@
namespace Jvm.Pilot.@@N@@
open Jvm Jvm.ClassFile Sem Op Lib Jvm.Free Jvm.Stand Jvm.LawKit Jvm.RoadKit Bundle Jvm.Pilot.@@N@@.Jvm.D
section OwnKit
variable {p : Program} {l : Launch} {e : Env} {R : Room} {s : State} {m : MethodId} {args : Array Value} {below : List Frame} {meth : Method} {c : Code} {T : State} {locs : List Loc} {cells slots : Nat}
/-- from the state a the run comes to a state of which P holds -/
def Gen (p : Program) (e : Env) (below : List Frame) (P : State → Prop) (a : State) : Prop := ∃ s₂, Steps p.tables e below a s₂ ∧ P s₂
theorem Gen.on {P : State → Prop} {a b : State} (k : Gen p e below P b) (h : ∀ t, Steps p.tables e below b t → Steps p.tables e below a t) : Gen p e below P a := by
  obtain ⟨s2, h1, h2⟩ := k
  exact ⟨s2, h _ h1, h2⟩
/-- the body has returned, and Q holds of what it returns, leaves and has written -/
def OwnP (below : List Frame) (s : State) (Q : Option Value → Heap → List Loc → Prop) (C S : Nat) (s₂ : State) : Prop := ∃ o, s₂.status = .running ∧ Ended s₂ below o ∧ ∃ v L, o = .returned v ∧ Q v s₂.heap L ∧ FrameEnd s o s₂ L C S
def Own (p : Program) (e : Env) (below : List Frame) (s : State) (Q : Option Value → Heap → List Loc → Prop) (C S : Nat) (a : State) : Prop := Gen p e below (OwnP below s Q C S) a
variable {Q : Option Value → Heap → List Loc → Prop} {C S : Nat}
theorem own_start {a : State} (k : Own p e below s Q C S a) : ∃ s₂ o, Steps p.tables e below a s₂ ∧ s₂.status = .running ∧ Ended s₂ below o ∧ ∃ v L, o = .returned v ∧ Q v s₂.heap L ∧ FrameEnd s o s₂ L C S := by
  obtain ⟨s2, h1, o, h2⟩ := k
  exact ⟨s2, o, h1, h2⟩
/-- the walk stands in a frame F, the heap being H, with what X had written -/
def own_at (X : Stand p l e R s m args below meth c T locs cells slots) (H : Heap) (F : JFrame) (s₂ : State) : Prop := ∃ T', Stand p l e R s m args below meth c T' locs cells slots ∧ T'.heap = H ∧ s₂ = T'.setTop F
theorem own_ret (X : Stand p l e R s m args below meth c T locs cells slots) {g : JFrame} {v : Option Value} (hv : meth.sig.returnType = none → v = none) (hlocks : meth.locks = false) (hc : cells ≤ C) (hs : slots ≤ S) (hq : Q v T.heap locs)
    (st : ∀ fs, (∀ (f : JFrame) (acts : List Action), f.method = m → f.locked = none → f.entered = [] → (doReturn e (T.setTop f) acts v).1 = T.setFrames fs) → Steps p.tables e below (T.setTop g) (T.setFrames fs)) : Own p e below s Q C S (T.setTop g) := by
  obtain ⟨fs, hr, hrun, hended, hW, hsame⟩ := X.leave (v := v) hv hlocks
  exact ⟨_, st fs hr, _, hrun, hended, _, _, rfl, hq, ⟨_, rfl⟩, hW, hsame.mono hc hs⟩
theorem own_retI (X : Stand p l e R s m args below meth c T locs cells slots) (hx : p.tables.exec = Jvm.exec) {pc : Nat} {Ls : Array Slot} {z : Int32} {rest : List Value} (hret : meth.sig.returnType = some .int) (hd : decode c.code pc = .ok (.ireturn, 1)) (hc : cells ≤ C) (hs : slots ≤ S) (hq : Q (some (.int z)) T.heap locs) (hlocks : meth.locks = false := by first | assumption | exact BodyLoose.notSynchronized (by assumption)) : Own p e below s Q C S (T.setTop (mkF m pc Ls (.int z :: rest))) :=
  own_ret X (fun h => by rw [hret] at h; cases h) hlocks hc hs hq fun fs hr => retOut X hx hret rfl (Or.inl ⟨rfl, Or.inl rfl, z, rfl⟩) hd hr
theorem own_retN (X : Stand p l e R s m args below meth c T locs cells slots) (hx : p.tables.exec = Jvm.exec) {pc : Nat} {Ls : Array Slot} {z : Int32} {t : FieldType} {rest : List Value} (hret : meth.sig.returnType = some t) (ht : t = .boolean ∨ t = .byte ∨ t = .char ∨ t = .short) (hz : nar t z = z) (hd : decode c.code pc = .ok (.ireturn, 1)) (hc : cells ≤ C) (hs : slots ≤ S) (hq : Q (some (.int z)) T.heap locs) (hlocks : meth.locks = false := by first | assumption | exact BodyLoose.notSynchronized (by assumption)) : Own p e below s Q C S (T.setTop (mkF m pc Ls (.int z :: rest))) :=
  own_ret X (fun h => by rw [hret] at h; cases h) hlocks hc hs hq fun fs hr => retN X hx hret ht hd (by rw [hz]; exact hr)
theorem own_retJ (X : Stand p l e R s m args below meth c T locs cells slots) (hx : p.tables.exec = Jvm.exec) {pc : Nat} {Ls : Array Slot} {z : Int64} {rest : List Value} (hret : meth.sig.returnType = some .long) (hd : decode c.code pc = .ok (.lreturn, 1)) (hc : cells ≤ C) (hs : slots ≤ S) (hq : Q (some (.long z)) T.heap locs) (hlocks : meth.locks = false := by first | assumption | exact BodyLoose.notSynchronized (by assumption)) : Own p e below s Q C S (T.setTop (mkF m pc Ls (.long z :: rest))) :=
  own_ret X (fun h => by rw [hret] at h; cases h) hlocks hc hs hq fun fs hr => retOut X hx hret rfl (Or.inr (Or.inl ⟨rfl, rfl, z, rfl⟩)) hd hr
theorem own_retA (X : Stand p l e R s m args below meth c T locs cells slots) (hx : p.tables.exec = Jvm.exec) {pc : Nat} {Ls : Array Slot} {w : Value} {t : FieldType} {rest : List Value} (hret : meth.sig.returnType = some t) (ht : t.isReference = true) (hw : w.isRef = true) (hd : decode c.code pc = .ok (.areturn, 1)) (hc : cells ≤ C) (hs : slots ≤ S) (hq : Q (some w) T.heap locs) (hlocks : meth.locks = false := by first | assumption | exact BodyLoose.notSynchronized (by assumption)) : Own p e below s Q C S (T.setTop (mkF m pc Ls (w :: rest))) :=
  own_ret X (fun h => by rw [hret] at h; cases h) hlocks hc hs hq fun fs hr => retOut X hx hret (by cases t <;> cases w <;> simp [FieldType.isReference, Value.isRef] at ht hw <;> rfl) (Or.inr (Or.inr (Or.inr (Or.inr ⟨rfl, ht, hw⟩)))) hd hr
theorem own_ret0 (X : Stand p l e R s m args below meth c T locs cells slots) (hx : p.tables.exec = Jvm.exec) {pc : Nat} {Ls : Array Slot} (hret : meth.sig.returnType = none) (hd : decode c.code pc = .ok (.return_, 1)) (hc : cells ≤ C) (hs : slots ≤ S) (hq : Q none T.heap locs) (hlocks : meth.locks = false := by first | assumption | exact BodyLoose.notSynchronized (by assumption)) : Own p e below s Q C S (T.setTop (mkF m pc Ls [])) :=
  own_ret X (fun _ => rfl) hlocks hc hs hq fun fs hr => X.returnOut hx hret hd hr
theorem own_lt1 {a b : Int64} (h : a < b) : ifCond.holds .lt (lcmpW a b) = true ∧ ifCond.holds .ge (lcmpW a b) = false := by
  have h1 : ¬ a > b := fun q => by rw [gt_iff_lt, Int64.lt_iff_toInt_lt] at q; rw [Int64.lt_iff_toInt_lt] at h; omega
  have h2 : ¬ a = b := fun q => by subst q; exact h1 h
  rw [lcmpW, if_neg h1, if_neg h2]; exact ⟨rfl, rfl⟩
theorem own_lt0 {a b : Int64} (h : ¬ a < b) : ifCond.holds .lt (lcmpW a b) = false ∧ ifCond.holds .ge (lcmpW a b) = true := by
  rw [lcmpW]
  by_cases h1 : a > b
  · rw [if_pos h1]; exact ⟨rfl, rfl⟩
  · have h2 : a = b := by rw [gt_iff_lt, Int64.lt_iff_toInt_lt] at h1; rw [Int64.lt_iff_toInt_lt] at h; exact Int64.toInt_inj.mp (by omega)
    rw [if_neg h1, if_pos h2]; exact ⟨rfl, rfl⟩
theorem own_gt1 {a b : Int64} (h : b < a) : ifCond.holds .gt (lcmpW a b) = true ∧ ifCond.holds .le (lcmpW a b) = false := by
  rw [lcmpW, if_pos h]; exact ⟨rfl, rfl⟩
theorem own_gt0 {a b : Int64} (h : ¬ b < a) : ifCond.holds .gt (lcmpW a b) = false ∧ ifCond.holds .le (lcmpW a b) = true := by
  rw [lcmpW, if_neg h]
  by_cases h1 : a = b
  · rw [if_pos h1]; exact ⟨rfl, rfl⟩
  · rw [if_neg h1]; exact ⟨rfl, rfl⟩
theorem own_eq1 {a b : Int64} (h : a = b) : ifCond.holds .eq (lcmpW a b) = true ∧ ifCond.holds .ne (lcmpW a b) = false := by
  have h1 : ¬ a > b := fun q => by subst h; rw [gt_iff_lt, Int64.lt_iff_toInt_lt] at q; omega
  rw [lcmpW, if_neg h1, if_pos h]; exact ⟨rfl, rfl⟩
theorem own_eq0 {a b : Int64} (h : ¬ a = b) : ifCond.holds .eq (lcmpW a b) = false ∧ ifCond.holds .ne (lcmpW a b) = true := by
  rw [lcmpW]
  by_cases h1 : a > b
  · rw [if_pos h1]; exact ⟨rfl, rfl⟩
  · rw [if_neg h1, if_neg h]; exact ⟨rfl, rfl⟩
theorem own_sta_keep {Z : State} {h h' : Heap} {C n d : String} {w : Value} (F : Sta Z h C n d w) (K : Keep h h' []) : Sta Z h' C n d w := by
  obtain ⟨cf, i, k, f, st, cell, h1, h2, h3, h4, h5, h6⟩ := F
  exact ⟨cf, i, k, f, st, cell, h1, h2, h3, h4, K.2.1 st cell h5 nin0, h6⟩
theorem own_arr_keep {Z : State} {h h' : Heap} {a : Addr} {cl : Cell} {ty : FieldType} {ws : List Addr} (A : Arr Z h a cl ty) (K : Keep h h' ws) (q : a ∉ ws) : Arr Z h' a cl ty := ⟨K.2.1 a cl A.1 q, A.2⟩
end OwnKit

theorem d1_0 : decode prog_37_method_22_code 0 = .ok (.iload_n 0, 1) := by decide +kernel
theorem d1_1 : decode prog_37_method_22_code 1 = .ok (.sipush 128, 3) := by decide +kernel
theorem d1_4 : decode prog_37_method_22_code 4 = .ok (.if_icmp .ge 69, 3) := by decide +kernel
theorem d1_7 : decode prog_37_method_22_code 7 = .ok (.iload_n 0, 1) := by decide +kernel
theorem d1_8 : decode prog_37_method_22_code 8 = .ok (.bipush 97, 2) := by decide +kernel
theorem d1_10 : decode prog_37_method_22_code 10 = .ok (.if_icmp .lt 9, 3) := by decide +kernel
theorem d1_13 : decode prog_37_method_22_code 13 = .ok (.iload_n 0, 1) := by decide +kernel
theorem d1_14 : decode prog_37_method_22_code 14 = .ok (.bipush 122, 2) := by decide +kernel
theorem d1_16 : decode prog_37_method_22_code 16 = .ok (.if_icmp .le 51, 3) := by decide +kernel
theorem d1_19 : decode prog_37_method_22_code 19 = .ok (.iload_n 0, 1) := by decide +kernel
theorem d1_20 : decode prog_37_method_22_code 20 = .ok (.bipush 65, 2) := by decide +kernel
theorem d1_22 : decode prog_37_method_22_code 22 = .ok (.if_icmp .lt 9, 3) := by decide +kernel
theorem d1_25 : decode prog_37_method_22_code 25 = .ok (.iload_n 0, 1) := by decide +kernel
theorem d1_26 : decode prog_37_method_22_code 26 = .ok (.bipush 90, 2) := by decide +kernel
theorem d1_28 : decode prog_37_method_22_code 28 = .ok (.if_icmp .le 39, 3) := by decide +kernel
theorem d1_31 : decode prog_37_method_22_code 31 = .ok (.iload_n 0, 1) := by decide +kernel
theorem d1_32 : decode prog_37_method_22_code 32 = .ok (.bipush 48, 2) := by decide +kernel
theorem d1_34 : decode prog_37_method_22_code 34 = .ok (.if_icmp .lt 9, 3) := by decide +kernel
theorem d1_37 : decode prog_37_method_22_code 37 = .ok (.iload_n 0, 1) := by decide +kernel
theorem d1_38 : decode prog_37_method_22_code 38 = .ok (.bipush 57, 2) := by decide +kernel
theorem d1_40 : decode prog_37_method_22_code 40 = .ok (.if_icmp .le 27, 3) := by decide +kernel
theorem d1_43 : decode prog_37_method_22_code 43 = .ok (.iload_n 0, 1) := by decide +kernel
theorem d1_44 : decode prog_37_method_22_code 44 = .ok (.bipush 45, 2) := by decide +kernel
theorem d1_46 : decode prog_37_method_22_code 46 = .ok (.if_icmp .eq 21, 3) := by decide +kernel
theorem d1_49 : decode prog_37_method_22_code 49 = .ok (.iload_n 0, 1) := by decide +kernel
theorem d1_50 : decode prog_37_method_22_code 50 = .ok (.bipush 46, 2) := by decide +kernel
theorem d1_52 : decode prog_37_method_22_code 52 = .ok (.if_icmp .eq 15, 3) := by decide +kernel
theorem d1_55 : decode prog_37_method_22_code 55 = .ok (.iload_n 0, 1) := by decide +kernel
theorem d1_56 : decode prog_37_method_22_code 56 = .ok (.bipush 95, 2) := by decide +kernel
theorem d1_58 : decode prog_37_method_22_code 58 = .ok (.if_icmp .eq 9, 3) := by decide +kernel
theorem d1_61 : decode prog_37_method_22_code 61 = .ok (.iload_n 0, 1) := by decide +kernel
theorem d1_62 : decode prog_37_method_22_code 62 = .ok (.bipush 126, 2) := by decide +kernel
theorem d1_64 : decode prog_37_method_22_code 64 = .ok (.if_icmp .ne 7, 3) := by decide +kernel
theorem d1_67 : decode prog_37_method_22_code 67 = .ok (.iconst 1, 1) := by decide +kernel
theorem d1_68 : decode prog_37_method_22_code 68 = .ok (.goto 4, 3) := by decide +kernel
theorem d1_71 : decode prog_37_method_22_code 71 = .ok (.iconst 0, 1) := by decide +kernel
theorem d1_72 : decode prog_37_method_22_code 72 = .ok (.ireturn, 1) := by decide +kernel
theorem d1_73 : decode prog_37_method_22_code 73 = .ok (.iload_n 0, 1) := by decide +kernel
theorem d1_74 : decode prog_37_method_22_code 74 = .ok (.sipush 160, 3) := by decide +kernel
theorem d1_77 : decode prog_37_method_22_code 77 = .ok (.if_icmp .lt 10, 3) := by decide +kernel
theorem d1_80 : decode prog_37_method_22_code 80 = .ok (.iload_n 0, 1) := by decide +kernel
theorem d1_81 : decode prog_37_method_22_code 81 = .ok (.ldc_w 361, 3) := by decide +kernel
theorem d1_84 : decode prog_37_method_22_code 84 = .ok (.if_icmp .le 70, 3) := by decide +kernel
theorem d1_87 : decode prog_37_method_22_code 87 = .ok (.iload_n 0, 1) := by decide +kernel
theorem d1_88 : decode prog_37_method_22_code 88 = .ok (.ldc_w 362, 3) := by decide +kernel
theorem d1_91 : decode prog_37_method_22_code 91 = .ok (.if_icmp .lt 10, 3) := by decide +kernel
theorem d1_94 : decode prog_37_method_22_code 94 = .ok (.iload_n 0, 1) := by decide +kernel
theorem d1_95 : decode prog_37_method_22_code 95 = .ok (.ldc_w 363, 3) := by decide +kernel
theorem d1_98 : decode prog_37_method_22_code 98 = .ok (.if_icmp .le 56, 3) := by decide +kernel
theorem d1_101 : decode prog_37_method_22_code 101 = .ok (.iload_n 0, 1) := by decide +kernel
theorem d1_102 : decode prog_37_method_22_code 102 = .ok (.ldc_w 364, 3) := by decide +kernel
theorem d1_105 : decode prog_37_method_22_code 105 = .ok (.if_icmp .lt 10, 3) := by decide +kernel
theorem d1_108 : decode prog_37_method_22_code 108 = .ok (.iload_n 0, 1) := by decide +kernel
theorem d1_109 : decode prog_37_method_22_code 109 = .ok (.ldc_w 365, 3) := by decide +kernel
theorem d1_112 : decode prog_37_method_22_code 112 = .ok (.if_icmp .le 42, 3) := by decide +kernel
theorem d1_115 : decode prog_37_method_22_code 115 = .ok (.iload_n 0, 1) := by decide +kernel
theorem d1_116 : decode prog_37_method_22_code 116 = .ok (.ldc_w 366, 3) := by decide +kernel
theorem d1_119 : decode prog_37_method_22_code 119 = .ok (.if_icmp .lt 21, 3) := by decide +kernel
theorem d1_122 : decode prog_37_method_22_code 122 = .ok (.iload_n 0, 1) := by decide +kernel
theorem d1_123 : decode prog_37_method_22_code 123 = .ok (.ldc_w 367, 3) := by decide +kernel
theorem d1_126 : decode prog_37_method_22_code 126 = .ok (.if_icmp .ge 14, 3) := by decide +kernel
theorem d1_129 : decode prog_37_method_22_code 129 = .ok (.iload_n 0, 1) := by decide +kernel
theorem d1_130 : decode prog_37_method_22_code 130 = .ok (.ldc_w 368, 3) := by decide +kernel
theorem d1_133 : decode prog_37_method_22_code 133 = .ok (.iand, 1) := by decide +kernel
theorem d1_134 : decode prog_37_method_22_code 134 = .ok (.ldc_w 369, 3) := by decide +kernel
theorem d1_137 : decode prog_37_method_22_code 137 = .ok (.if_icmp .le 17, 3) := by decide +kernel
theorem d1_140 : decode prog_37_method_22_code 140 = .ok (.iload_n 0, 1) := by decide +kernel
theorem d1_141 : decode prog_37_method_22_code 141 = .ok (.ldc_w 370, 3) := by decide +kernel
theorem d1_144 : decode prog_37_method_22_code 144 = .ok (.if_icmp .lt 14, 3) := by decide +kernel
theorem d1_147 : decode prog_37_method_22_code 147 = .ok (.iload_n 0, 1) := by decide +kernel
theorem d1_148 : decode prog_37_method_22_code 148 = .ok (.ldc_w 371, 3) := by decide +kernel
theorem d1_151 : decode prog_37_method_22_code 151 = .ok (.if_icmp .gt 7, 3) := by decide +kernel
theorem d1_154 : decode prog_37_method_22_code 154 = .ok (.iconst 1, 1) := by decide +kernel
theorem d1_155 : decode prog_37_method_22_code 155 = .ok (.goto 4, 3) := by decide +kernel
theorem d1_158 : decode prog_37_method_22_code 158 = .ok (.iconst 0, 1) := by decide +kernel
theorem d1_159 : decode prog_37_method_22_code 159 = .ok (.ireturn, 1) := by decide +kernel
theorem pn_1 : plainName "com/example/mapwright/mapwright/mapping/StringTemplate" = true := by first | (simp [plainName, overriddenIn]; done) | decide +kernel
theorem ef_1 (m : MethodId) (x0 : Int32) : entryFrame m #[(.int x0)] 1 = mkF m 0 #[.val (.int x0)] [] := by first | (simp [entryFrame, mkF, argsToLocals, Value.category]; done) | rfl
def f1_154 (p1 : Int32) : Int32 := (1 : Int32)
def f1_140 (p1 : Int32) : Int32 := (if p1 < (921600 : Int32) then (0 : Int32) else (if (983037 : Int32) < p1 then (0 : Int32) else (f1_154 p1)))
def f1_115 (p1 : Int32) : Int32 := (if p1 < (65536 : Int32) then (f1_140 p1) else (if p1 < (917504 : Int32) then (if (65533 : Int32) < (p1 &&& (65535 : Int32)) then (f1_140 p1) else (f1_154 p1)) else (f1_140 p1)))
def f1_101 (p1 : Int32) : Int32 := (if p1 < (65008 : Int32) then (f1_115 p1) else (if (65519 : Int32) < p1 then (f1_115 p1) else (f1_154 p1)))
def f1_87 (p1 : Int32) : Int32 := (if p1 < (63744 : Int32) then (f1_101 p1) else (if (64975 : Int32) < p1 then (f1_101 p1) else (f1_154 p1)))
def f1_67 (p1 : Int32) : Int32 := (1 : Int32)
def f1_43 (p1 : Int32) : Int32 := (if p1 = (45 : Int32) then (f1_67 p1) else (if p1 = (46 : Int32) then (f1_67 p1) else (if p1 = (95 : Int32) then (f1_67 p1) else (if p1 = (126 : Int32) then (f1_67 p1) else (0 : Int32)))))
def f1_31 (p1 : Int32) : Int32 := (if p1 < (48 : Int32) then (f1_43 p1) else (if (57 : Int32) < p1 then (f1_43 p1) else (f1_67 p1)))
def f1_19 (p1 : Int32) : Int32 := (if p1 < (65 : Int32) then (f1_31 p1) else (if (90 : Int32) < p1 then (f1_31 p1) else (f1_67 p1)))
def f1 (p1 : Int32) : Int32 := (if p1 < (128 : Int32) then (if p1 < (97 : Int32) then (f1_19 p1) else (if (122 : Int32) < p1 then (f1_19 p1) else (f1_67 p1))) else (if p1 < (160 : Int32) then (f1_87 p1) else (if (55295 : Int32) < p1 then (f1_87 p1) else (f1_154 p1))))
def Q1 (p1 : Int32) (h0 : Heap) (n0 : Nat) (v : Option Value) (h : Heap) (L : List Loc) : Prop := v = some (.int (f1 p1)) ∧ Fr n0 L ∧ h = h0
set_option maxRecDepth 65536 in
set_option maxHeartbeats 40000000 in
theorem rm1 (l : Launch) (Z : State) (a0 : Array Value) (hw : ∀ d ∈ tables_1, d.before a0 Z = true) (ws : List Jvm.Cond) (p1 : Int32) (h0 : Heap) (n0 : Nat) (Z0 : n0 ≤ h0.size)  :
    MetFree l (⟨"com/example/mapwright/mapwright/mapping/StringTemplate", "isIunreserved", "(I)Z"⟩ : MethodName) (head1 (Jvm.Cond.code (⟨"com/example/mapwright/mapwright/mapping/StringTemplate", "isIunreserved", "(I)Z"⟩ : MethodName) prog_37_method_22_code 1 (some .boolean) :: ws) ({ frames := 0, cells := 0, slots := 0, locals := 0 } : Room)) (fun a U => a = #[(.int p1)] ∧ Z.Warmed39 U.vm ∧ U.heap = h0) (fun _ _ _ _ _ => True) (fun _ U o U' => ∃ v L, o = .returned v ∧ Q1 p1 h0 n0 v U'.heap L ∧ FrameEnd U o U' L ({ frames := 0, cells := 0, slots := 0, locals := 0 } : Room).cells ({ frames := 0, cells := 0, slots := 0, locals := 0 } : Room).slots) := by
  refine MetFree.of_bodySF (plainFor_of_name pn_1) hisR ?_
  intro p e s m args below meth c s₁ Bd hml0 hP hK
  obtain ⟨rfl, hZ, hh⟩ := hP
  have hx := Bd.exec
  have hby := Bd.bytes
  have hml : c.maxLocals = 1 := hml0
  have hown : s.vm.findClass "com/example/mapwright/mapwright/mapping/StringTemplate" = some m.cls := findClass_of_methodNamed Bd.named
  have hnm := (name_of_methodNamed Bd.named Bd.method).1
  have X0 : Stand p l e ({ frames := 0, cells := 0, slots := 0, locals := 0 } : Room) s m #[(.int p1)] below meth c s₁ [] 0 0 := Stand.of_body Bd
  have e0 : s₁.heap = h0 := by rw [← hh, Bd.state]; rfl
  have N0 := Fr.nil n0
  refine own_start (Q := Q1 p1 h0 n0) (C := ({ frames := 0, cells := 0, slots := 0, locals := 0 } : Room).cells) (S := ({ frames := 0, cells := 0, slots := 0, locals := 0 } : Room).slots) ?_
  rw [ef_1 m p1]
  have j154 : ∀ Q' : Option Value → Heap → List Loc → Prop, (∀ v hh L, v = some (.int (f1_154 p1)) → Fr n0 L → hh = h0 → Q' v hh L) → Own p e below s Q' 0 0 (s₁.setTop (mkF m 154 #[.val (.int p1)] [])) := by
    intro Q' hq
    refine Gen.on (b := s₁.setTop (mkF m 155 #[.val (.int p1)] [(.int (1 : Int32))])) ?_ (fun t k => XS.iconst X0.here hx rfl (hb hby d1_154) k)
    refine Gen.on (b := s₁.setTop (mkF m 159 #[.val (.int p1)] [(.int (1 : Int32))])) ?_ (fun t k => XS.goto X0.here hx rfl (pc0 := 155) (pc' := 159) rfl (hb hby d1_155) (by decide) (by decide) k)
    refine own_retN (t := .boolean) X0 hx Bd.returns (by simp) (by decide) (hb hby d1_159) (by decide) (by decide) ?_
    exact hq _ _ _ (by simp only [f1_154]) N0 e0
  have j140 : ∀ Q' : Option Value → Heap → List Loc → Prop, (∀ v hh L, v = some (.int (f1_140 p1)) → Fr n0 L → hh = h0 → Q' v hh L) → Own p e below s Q' 0 0 (s₁.setTop (mkF m 140 #[.val (.int p1)] [])) := by
    intro Q' hq
    refine Gen.on (b := s₁.setTop (mkF m 141 #[.val (.int p1)] [(.int p1)])) ?_ (fun t k => XS.iloadN X0.here hx rfl (hb hby d1_140) rfl k)
    refine Gen.on (b := s₁.setTop (mkF m 144 #[.val (.int p1)] [(.int (921600 : Int32)), (.int p1)])) ?_ (fun t k => X0.ldcwInt hx hown (mvT hZ (hw _ (List.mem_of_getElem? (i := 51) rfl))) (g := (mkF m 141 #[.val (.int p1)] [(.int p1)])) rfl (hb hby d1_141) t k)
    by_cases c144_1 : p1 < (921600 : Int32)
    · refine Gen.on (b := s₁.setTop (mkF m 158 #[.val (.int p1)] [])) ?_ (fun t k => XS.icmpYes X0.here hx rfl (pc0 := 144) (pc' := 158) rfl (hb hby d1_144) rfl (tlt c144_1).1 (by decide) (by decide) k)
      refine Gen.on (b := s₁.setTop (mkF m 159 #[.val (.int p1)] [(.int (0 : Int32))])) ?_ (fun t k => XS.iconst X0.here hx rfl (hb hby d1_158) k)
      refine own_retN (t := .boolean) X0 hx Bd.returns (by simp) (by decide) (hb hby d1_159) (by decide) (by decide) ?_
      exact hq _ _ _ (by simp only [f1_140, if_pos c144_1]) N0 e0
    · refine Gen.on (b := s₁.setTop (mkF m 147 #[.val (.int p1)] [])) ?_ (fun t k => XS.icmpNo X0.here hx rfl (hb hby d1_144) rfl (flt c144_1).1 k)
      refine Gen.on (b := s₁.setTop (mkF m 148 #[.val (.int p1)] [(.int p1)])) ?_ (fun t k => XS.iloadN X0.here hx rfl (hb hby d1_147) rfl k)
      refine Gen.on (b := s₁.setTop (mkF m 151 #[.val (.int p1)] [(.int (983037 : Int32)), (.int p1)])) ?_ (fun t k => X0.ldcwInt hx hown (mvT hZ (hw _ (List.mem_of_getElem? (i := 52) rfl))) (g := (mkF m 148 #[.val (.int p1)] [(.int p1)])) rfl (hb hby d1_148) t k)
      by_cases c151_2 : (983037 : Int32) < p1
      · refine Gen.on (b := s₁.setTop (mkF m 158 #[.val (.int p1)] [])) ?_ (fun t k => XS.icmpYes X0.here hx rfl (pc0 := 151) (pc' := 158) rfl (hb hby d1_151) rfl (tlt c151_2).2.2.1 (by decide) (by decide) k)
        refine Gen.on (b := s₁.setTop (mkF m 159 #[.val (.int p1)] [(.int (0 : Int32))])) ?_ (fun t k => XS.iconst X0.here hx rfl (hb hby d1_158) k)
        refine own_retN (t := .boolean) X0 hx Bd.returns (by simp) (by decide) (hb hby d1_159) (by decide) (by decide) ?_
        exact hq _ _ _ (by simp only [f1_140, if_neg c144_1, if_pos c151_2]) N0 e0
      · refine Gen.on (b := s₁.setTop (mkF m 154 #[.val (.int p1)] [])) ?_ (fun t k => XS.icmpNo X0.here hx rfl (hb hby d1_151) rfl (flt c151_2).2.2.1 k)
        exact j154 _ (fun v hh L q1 q2 q3 => hq v hh L (by rw [q1]; simp only [f1_140, if_neg c144_1, if_neg c151_2]) q2 q3)
  have j115 : ∀ Q' : Option Value → Heap → List Loc → Prop, (∀ v hh L, v = some (.int (f1_115 p1)) → Fr n0 L → hh = h0 → Q' v hh L) → Own p e below s Q' 0 0 (s₁.setTop (mkF m 115 #[.val (.int p1)] [])) := by
    intro Q' hq
    refine Gen.on (b := s₁.setTop (mkF m 116 #[.val (.int p1)] [(.int p1)])) ?_ (fun t k => XS.iloadN X0.here hx rfl (hb hby d1_115) rfl k)
    refine Gen.on (b := s₁.setTop (mkF m 119 #[.val (.int p1)] [(.int (65536 : Int32)), (.int p1)])) ?_ (fun t k => X0.ldcwInt hx hown (mvT hZ (hw _ (List.mem_of_getElem? (i := 49) rfl))) (g := (mkF m 116 #[.val (.int p1)] [(.int p1)])) rfl (hb hby d1_116) t k)
    by_cases c119_3 : p1 < (65536 : Int32)
    · refine Gen.on (b := s₁.setTop (mkF m 140 #[.val (.int p1)] [])) ?_ (fun t k => XS.icmpYes X0.here hx rfl (pc0 := 119) (pc' := 140) rfl (hb hby d1_119) rfl (tlt c119_3).1 (by decide) (by decide) k)
      exact j140 _ (fun v hh L q1 q2 q3 => hq v hh L (by rw [q1]; simp only [f1_115, if_pos c119_3]) q2 q3)
    · refine Gen.on (b := s₁.setTop (mkF m 122 #[.val (.int p1)] [])) ?_ (fun t k => XS.icmpNo X0.here hx rfl (hb hby d1_119) rfl (flt c119_3).1 k)
      refine Gen.on (b := s₁.setTop (mkF m 123 #[.val (.int p1)] [(.int p1)])) ?_ (fun t k => XS.iloadN X0.here hx rfl (hb hby d1_122) rfl k)
      refine Gen.on (b := s₁.setTop (mkF m 126 #[.val (.int p1)] [(.int (917504 : Int32)), (.int p1)])) ?_ (fun t k => X0.ldcwInt hx hown (mvT hZ (hw _ (List.mem_of_getElem? (i := 50) rfl))) (g := (mkF m 123 #[.val (.int p1)] [(.int p1)])) rfl (hb hby d1_123) t k)
      by_cases c126_4 : p1 < (917504 : Int32)
      · refine Gen.on (b := s₁.setTop (mkF m 129 #[.val (.int p1)] [])) ?_ (fun t k => XS.icmpNo X0.here hx rfl (hb hby d1_126) rfl (tlt c126_4).2.1 k)
        refine Gen.on (b := s₁.setTop (mkF m 130 #[.val (.int p1)] [(.int p1)])) ?_ (fun t k => XS.iloadN X0.here hx rfl (hb hby d1_129) rfl k)
        refine Gen.on (b := s₁.setTop (mkF m 133 #[.val (.int p1)] [(.int (65535 : Int32)), (.int p1)])) ?_ (fun t k => X0.ldcwInt hx hown (mvT hZ (hw _ (List.mem_of_getElem? (i := 53) rfl))) (g := (mkF m 130 #[.val (.int p1)] [(.int p1)])) rfl (hb hby d1_130) t k)
        refine Gen.on (b := s₁.setTop (mkF m 134 #[.val (.int p1)] [(.int (p1 &&& (65535 : Int32)))])) ?_ (fun t k => XS.iand X0.here hx rfl (hb hby d1_133) rfl k)
        refine Gen.on (b := s₁.setTop (mkF m 137 #[.val (.int p1)] [(.int (65533 : Int32)), (.int (p1 &&& (65535 : Int32)))])) ?_ (fun t k => X0.ldcwInt hx hown (mvT hZ (hw _ (List.mem_of_getElem? (i := 54) rfl))) (g := (mkF m 134 #[.val (.int p1)] [(.int (p1 &&& (65535 : Int32)))])) rfl (hb hby d1_134) t k)
        by_cases c137_5 : (65533 : Int32) < (p1 &&& (65535 : Int32))
        · refine Gen.on (b := s₁.setTop (mkF m 140 #[.val (.int p1)] [])) ?_ (fun t k => XS.icmpNo X0.here hx rfl (hb hby d1_137) rfl (tlt c137_5).2.2.2 k)
          exact j140 _ (fun v hh L q1 q2 q3 => hq v hh L (by rw [q1]; simp only [f1_115, if_neg c119_3, if_pos c126_4, if_pos c137_5]) q2 q3)
        · refine Gen.on (b := s₁.setTop (mkF m 154 #[.val (.int p1)] [])) ?_ (fun t k => XS.icmpYes X0.here hx rfl (pc0 := 137) (pc' := 154) rfl (hb hby d1_137) rfl (flt c137_5).2.2.2 (by decide) (by decide) k)
          exact j154 _ (fun v hh L q1 q2 q3 => hq v hh L (by rw [q1]; simp only [f1_115, if_neg c119_3, if_pos c126_4, if_neg c137_5]) q2 q3)
      · refine Gen.on (b := s₁.setTop (mkF m 140 #[.val (.int p1)] [])) ?_ (fun t k => XS.icmpYes X0.here hx rfl (pc0 := 126) (pc' := 140) rfl (hb hby d1_126) rfl (flt c126_4).2.1 (by decide) (by decide) k)
        exact j140 _ (fun v hh L q1 q2 q3 => hq v hh L (by rw [q1]; simp only [f1_115, if_neg c119_3, if_neg c126_4]) q2 q3)
  have j101 : ∀ Q' : Option Value → Heap → List Loc → Prop, (∀ v hh L, v = some (.int (f1_101 p1)) → Fr n0 L → hh = h0 → Q' v hh L) → Own p e below s Q' 0 0 (s₁.setTop (mkF m 101 #[.val (.int p1)] [])) := by
    intro Q' hq
    refine Gen.on (b := s₁.setTop (mkF m 102 #[.val (.int p1)] [(.int p1)])) ?_ (fun t k => XS.iloadN X0.here hx rfl (hb hby d1_101) rfl k)
    refine Gen.on (b := s₁.setTop (mkF m 105 #[.val (.int p1)] [(.int (65008 : Int32)), (.int p1)])) ?_ (fun t k => X0.ldcwInt hx hown (mvT hZ (hw _ (List.mem_of_getElem? (i := 47) rfl))) (g := (mkF m 102 #[.val (.int p1)] [(.int p1)])) rfl (hb hby d1_102) t k)
    by_cases c105_6 : p1 < (65008 : Int32)
    · refine Gen.on (b := s₁.setTop (mkF m 115 #[.val (.int p1)] [])) ?_ (fun t k => XS.icmpYes X0.here hx rfl (pc0 := 105) (pc' := 115) rfl (hb hby d1_105) rfl (tlt c105_6).1 (by decide) (by decide) k)
      exact j115 _ (fun v hh L q1 q2 q3 => hq v hh L (by rw [q1]; simp only [f1_101, if_pos c105_6]) q2 q3)
    · refine Gen.on (b := s₁.setTop (mkF m 108 #[.val (.int p1)] [])) ?_ (fun t k => XS.icmpNo X0.here hx rfl (hb hby d1_105) rfl (flt c105_6).1 k)
      refine Gen.on (b := s₁.setTop (mkF m 109 #[.val (.int p1)] [(.int p1)])) ?_ (fun t k => XS.iloadN X0.here hx rfl (hb hby d1_108) rfl k)
      refine Gen.on (b := s₁.setTop (mkF m 112 #[.val (.int p1)] [(.int (65519 : Int32)), (.int p1)])) ?_ (fun t k => X0.ldcwInt hx hown (mvT hZ (hw _ (List.mem_of_getElem? (i := 48) rfl))) (g := (mkF m 109 #[.val (.int p1)] [(.int p1)])) rfl (hb hby d1_109) t k)
      by_cases c112_7 : (65519 : Int32) < p1
      · refine Gen.on (b := s₁.setTop (mkF m 115 #[.val (.int p1)] [])) ?_ (fun t k => XS.icmpNo X0.here hx rfl (hb hby d1_112) rfl (tlt c112_7).2.2.2 k)
        exact j115 _ (fun v hh L q1 q2 q3 => hq v hh L (by rw [q1]; simp only [f1_101, if_neg c105_6, if_pos c112_7]) q2 q3)
      · refine Gen.on (b := s₁.setTop (mkF m 154 #[.val (.int p1)] [])) ?_ (fun t k => XS.icmpYes X0.here hx rfl (pc0 := 112) (pc' := 154) rfl (hb hby d1_112) rfl (flt c112_7).2.2.2 (by decide) (by decide) k)
        exact j154 _ (fun v hh L q1 q2 q3 => hq v hh L (by rw [q1]; simp only [f1_101, if_neg c105_6, if_neg c112_7]) q2 q3)
  have j87 : ∀ Q' : Option Value → Heap → List Loc → Prop, (∀ v hh L, v = some (.int (f1_87 p1)) → Fr n0 L → hh = h0 → Q' v hh L) → Own p e below s Q' 0 0 (s₁.setTop (mkF m 87 #[.val (.int p1)] [])) := by
    intro Q' hq
    refine Gen.on (b := s₁.setTop (mkF m 88 #[.val (.int p1)] [(.int p1)])) ?_ (fun t k => XS.iloadN X0.here hx rfl (hb hby d1_87) rfl k)
    refine Gen.on (b := s₁.setTop (mkF m 91 #[.val (.int p1)] [(.int (63744 : Int32)), (.int p1)])) ?_ (fun t k => X0.ldcwInt hx hown (mvT hZ (hw _ (List.mem_of_getElem? (i := 45) rfl))) (g := (mkF m 88 #[.val (.int p1)] [(.int p1)])) rfl (hb hby d1_88) t k)
    by_cases c91_8 : p1 < (63744 : Int32)
    · refine Gen.on (b := s₁.setTop (mkF m 101 #[.val (.int p1)] [])) ?_ (fun t k => XS.icmpYes X0.here hx rfl (pc0 := 91) (pc' := 101) rfl (hb hby d1_91) rfl (tlt c91_8).1 (by decide) (by decide) k)
      exact j101 _ (fun v hh L q1 q2 q3 => hq v hh L (by rw [q1]; simp only [f1_87, if_pos c91_8]) q2 q3)
    · refine Gen.on (b := s₁.setTop (mkF m 94 #[.val (.int p1)] [])) ?_ (fun t k => XS.icmpNo X0.here hx rfl (hb hby d1_91) rfl (flt c91_8).1 k)
      refine Gen.on (b := s₁.setTop (mkF m 95 #[.val (.int p1)] [(.int p1)])) ?_ (fun t k => XS.iloadN X0.here hx rfl (hb hby d1_94) rfl k)
      refine Gen.on (b := s₁.setTop (mkF m 98 #[.val (.int p1)] [(.int (64975 : Int32)), (.int p1)])) ?_ (fun t k => X0.ldcwInt hx hown (mvT hZ (hw _ (List.mem_of_getElem? (i := 46) rfl))) (g := (mkF m 95 #[.val (.int p1)] [(.int p1)])) rfl (hb hby d1_95) t k)
      by_cases c98_9 : (64975 : Int32) < p1
      · refine Gen.on (b := s₁.setTop (mkF m 101 #[.val (.int p1)] [])) ?_ (fun t k => XS.icmpNo X0.here hx rfl (hb hby d1_98) rfl (tlt c98_9).2.2.2 k)
        exact j101 _ (fun v hh L q1 q2 q3 => hq v hh L (by rw [q1]; simp only [f1_87, if_neg c91_8, if_pos c98_9]) q2 q3)
      · refine Gen.on (b := s₁.setTop (mkF m 154 #[.val (.int p1)] [])) ?_ (fun t k => XS.icmpYes X0.here hx rfl (pc0 := 98) (pc' := 154) rfl (hb hby d1_98) rfl (flt c98_9).2.2.2 (by decide) (by decide) k)
        exact j154 _ (fun v hh L q1 q2 q3 => hq v hh L (by rw [q1]; simp only [f1_87, if_neg c91_8, if_neg c98_9]) q2 q3)
  have j67 : ∀ Q' : Option Value → Heap → List Loc → Prop, (∀ v hh L, v = some (.int (f1_67 p1)) → Fr n0 L → hh = h0 → Q' v hh L) → Own p e below s Q' 0 0 (s₁.setTop (mkF m 67 #[.val (.int p1)] [])) := by
    intro Q' hq
    refine Gen.on (b := s₁.setTop (mkF m 68 #[.val (.int p1)] [(.int (1 : Int32))])) ?_ (fun t k => XS.iconst X0.here hx rfl (hb hby d1_67) k)
    refine Gen.on (b := s₁.setTop (mkF m 72 #[.val (.int p1)] [(.int (1 : Int32))])) ?_ (fun t k => XS.goto X0.here hx rfl (pc0 := 68) (pc' := 72) rfl (hb hby d1_68) (by decide) (by decide) k)
    refine own_retN (t := .boolean) X0 hx Bd.returns (by simp) (by decide) (hb hby d1_72) (by decide) (by decide) ?_
    exact hq _ _ _ (by simp only [f1_67]) N0 e0
  have j43 : ∀ Q' : Option Value → Heap → List Loc → Prop, (∀ v hh L, v = some (.int (f1_43 p1)) → Fr n0 L → hh = h0 → Q' v hh L) → Own p e below s Q' 0 0 (s₁.setTop (mkF m 43 #[.val (.int p1)] [])) := by
    intro Q' hq
    refine Gen.on (b := s₁.setTop (mkF m 44 #[.val (.int p1)] [(.int p1)])) ?_ (fun t k => XS.iloadN X0.here hx rfl (hb hby d1_43) rfl k)
    refine Gen.on (b := s₁.setTop (mkF m 46 #[.val (.int p1)] [(.int (45 : Int32)), (.int p1)])) ?_ (fun t k => XS.bipush X0.here hx rfl (hb hby d1_44) k)
    by_cases c46_10 : p1 = (45 : Int32)
    · refine Gen.on (b := s₁.setTop (mkF m 67 #[.val (.int p1)] [])) ?_ (fun t k => XS.icmpYes X0.here hx rfl (pc0 := 46) (pc' := 67) rfl (hb hby d1_46) rfl (teq c46_10).1 (by decide) (by decide) k)
      exact j67 _ (fun v hh L q1 q2 q3 => hq v hh L (by rw [q1]; simp only [f1_43, if_pos c46_10]) q2 q3)
    · refine Gen.on (b := s₁.setTop (mkF m 49 #[.val (.int p1)] [])) ?_ (fun t k => XS.icmpNo X0.here hx rfl (hb hby d1_46) rfl (feq c46_10).1 k)
      refine Gen.on (b := s₁.setTop (mkF m 50 #[.val (.int p1)] [(.int p1)])) ?_ (fun t k => XS.iloadN X0.here hx rfl (hb hby d1_49) rfl k)
      refine Gen.on (b := s₁.setTop (mkF m 52 #[.val (.int p1)] [(.int (46 : Int32)), (.int p1)])) ?_ (fun t k => XS.bipush X0.here hx rfl (hb hby d1_50) k)
      by_cases c52_11 : p1 = (46 : Int32)
      · refine Gen.on (b := s₁.setTop (mkF m 67 #[.val (.int p1)] [])) ?_ (fun t k => XS.icmpYes X0.here hx rfl (pc0 := 52) (pc' := 67) rfl (hb hby d1_52) rfl (teq c52_11).1 (by decide) (by decide) k)
        exact j67 _ (fun v hh L q1 q2 q3 => hq v hh L (by rw [q1]; simp only [f1_43, if_neg c46_10, if_pos c52_11]) q2 q3)
      · refine Gen.on (b := s₁.setTop (mkF m 55 #[.val (.int p1)] [])) ?_ (fun t k => XS.icmpNo X0.here hx rfl (hb hby d1_52) rfl (feq c52_11).1 k)
        refine Gen.on (b := s₁.setTop (mkF m 56 #[.val (.int p1)] [(.int p1)])) ?_ (fun t k => XS.iloadN X0.here hx rfl (hb hby d1_55) rfl k)
        refine Gen.on (b := s₁.setTop (mkF m 58 #[.val (.int p1)] [(.int (95 : Int32)), (.int p1)])) ?_ (fun t k => XS.bipush X0.here hx rfl (hb hby d1_56) k)
        by_cases c58_12 : p1 = (95 : Int32)
        · refine Gen.on (b := s₁.setTop (mkF m 67 #[.val (.int p1)] [])) ?_ (fun t k => XS.icmpYes X0.here hx rfl (pc0 := 58) (pc' := 67) rfl (hb hby d1_58) rfl (teq c58_12).1 (by decide) (by decide) k)
          exact j67 _ (fun v hh L q1 q2 q3 => hq v hh L (by rw [q1]; simp only [f1_43, if_neg c46_10, if_neg c52_11, if_pos c58_12]) q2 q3)
        · refine Gen.on (b := s₁.setTop (mkF m 61 #[.val (.int p1)] [])) ?_ (fun t k => XS.icmpNo X0.here hx rfl (hb hby d1_58) rfl (feq c58_12).1 k)
          refine Gen.on (b := s₁.setTop (mkF m 62 #[.val (.int p1)] [(.int p1)])) ?_ (fun t k => XS.iloadN X0.here hx rfl (hb hby d1_61) rfl k)
          refine Gen.on (b := s₁.setTop (mkF m 64 #[.val (.int p1)] [(.int (126 : Int32)), (.int p1)])) ?_ (fun t k => XS.bipush X0.here hx rfl (hb hby d1_62) k)
          by_cases c64_13 : p1 = (126 : Int32)
          · refine Gen.on (b := s₁.setTop (mkF m 67 #[.val (.int p1)] [])) ?_ (fun t k => XS.icmpNo X0.here hx rfl (hb hby d1_64) rfl (teq c64_13).2 k)
            exact j67 _ (fun v hh L q1 q2 q3 => hq v hh L (by rw [q1]; simp only [f1_43, if_neg c46_10, if_neg c52_11, if_neg c58_12, if_pos c64_13]) q2 q3)
          · refine Gen.on (b := s₁.setTop (mkF m 71 #[.val (.int p1)] [])) ?_ (fun t k => XS.icmpYes X0.here hx rfl (pc0 := 64) (pc' := 71) rfl (hb hby d1_64) rfl (feq c64_13).2 (by decide) (by decide) k)
            refine Gen.on (b := s₁.setTop (mkF m 72 #[.val (.int p1)] [(.int (0 : Int32))])) ?_ (fun t k => XS.iconst X0.here hx rfl (hb hby d1_71) k)
            refine own_retN (t := .boolean) X0 hx Bd.returns (by simp) (by decide) (hb hby d1_72) (by decide) (by decide) ?_
            exact hq _ _ _ (by simp only [f1_43, if_neg c46_10, if_neg c52_11, if_neg c58_12, if_neg c64_13]) N0 e0
  have j31 : ∀ Q' : Option Value → Heap → List Loc → Prop, (∀ v hh L, v = some (.int (f1_31 p1)) → Fr n0 L → hh = h0 → Q' v hh L) → Own p e below s Q' 0 0 (s₁.setTop (mkF m 31 #[.val (.int p1)] [])) := by
    intro Q' hq
    refine Gen.on (b := s₁.setTop (mkF m 32 #[.val (.int p1)] [(.int p1)])) ?_ (fun t k => XS.iloadN X0.here hx rfl (hb hby d1_31) rfl k)
    refine Gen.on (b := s₁.setTop (mkF m 34 #[.val (.int p1)] [(.int (48 : Int32)), (.int p1)])) ?_ (fun t k => XS.bipush X0.here hx rfl (hb hby d1_32) k)
    by_cases c34_14 : p1 < (48 : Int32)
    · refine Gen.on (b := s₁.setTop (mkF m 43 #[.val (.int p1)] [])) ?_ (fun t k => XS.icmpYes X0.here hx rfl (pc0 := 34) (pc' := 43) rfl (hb hby d1_34) rfl (tlt c34_14).1 (by decide) (by decide) k)
      exact j43 _ (fun v hh L q1 q2 q3 => hq v hh L (by rw [q1]; simp only [f1_31, if_pos c34_14]) q2 q3)
    · refine Gen.on (b := s₁.setTop (mkF m 37 #[.val (.int p1)] [])) ?_ (fun t k => XS.icmpNo X0.here hx rfl (hb hby d1_34) rfl (flt c34_14).1 k)
      refine Gen.on (b := s₁.setTop (mkF m 38 #[.val (.int p1)] [(.int p1)])) ?_ (fun t k => XS.iloadN X0.here hx rfl (hb hby d1_37) rfl k)
      refine Gen.on (b := s₁.setTop (mkF m 40 #[.val (.int p1)] [(.int (57 : Int32)), (.int p1)])) ?_ (fun t k => XS.bipush X0.here hx rfl (hb hby d1_38) k)
      by_cases c40_15 : (57 : Int32) < p1
      · refine Gen.on (b := s₁.setTop (mkF m 43 #[.val (.int p1)] [])) ?_ (fun t k => XS.icmpNo X0.here hx rfl (hb hby d1_40) rfl (tlt c40_15).2.2.2 k)
        exact j43 _ (fun v hh L q1 q2 q3 => hq v hh L (by rw [q1]; simp only [f1_31, if_neg c34_14, if_pos c40_15]) q2 q3)
      · refine Gen.on (b := s₁.setTop (mkF m 67 #[.val (.int p1)] [])) ?_ (fun t k => XS.icmpYes X0.here hx rfl (pc0 := 40) (pc' := 67) rfl (hb hby d1_40) rfl (flt c40_15).2.2.2 (by decide) (by decide) k)
        exact j67 _ (fun v hh L q1 q2 q3 => hq v hh L (by rw [q1]; simp only [f1_31, if_neg c34_14, if_neg c40_15]) q2 q3)
  have j19 : ∀ Q' : Option Value → Heap → List Loc → Prop, (∀ v hh L, v = some (.int (f1_19 p1)) → Fr n0 L → hh = h0 → Q' v hh L) → Own p e below s Q' 0 0 (s₁.setTop (mkF m 19 #[.val (.int p1)] [])) := by
    intro Q' hq
    refine Gen.on (b := s₁.setTop (mkF m 20 #[.val (.int p1)] [(.int p1)])) ?_ (fun t k => XS.iloadN X0.here hx rfl (hb hby d1_19) rfl k)
    refine Gen.on (b := s₁.setTop (mkF m 22 #[.val (.int p1)] [(.int (65 : Int32)), (.int p1)])) ?_ (fun t k => XS.bipush X0.here hx rfl (hb hby d1_20) k)
    by_cases c22_16 : p1 < (65 : Int32)
    · refine Gen.on (b := s₁.setTop (mkF m 31 #[.val (.int p1)] [])) ?_ (fun t k => XS.icmpYes X0.here hx rfl (pc0 := 22) (pc' := 31) rfl (hb hby d1_22) rfl (tlt c22_16).1 (by decide) (by decide) k)
      exact j31 _ (fun v hh L q1 q2 q3 => hq v hh L (by rw [q1]; simp only [f1_19, if_pos c22_16]) q2 q3)
    · refine Gen.on (b := s₁.setTop (mkF m 25 #[.val (.int p1)] [])) ?_ (fun t k => XS.icmpNo X0.here hx rfl (hb hby d1_22) rfl (flt c22_16).1 k)
      refine Gen.on (b := s₁.setTop (mkF m 26 #[.val (.int p1)] [(.int p1)])) ?_ (fun t k => XS.iloadN X0.here hx rfl (hb hby d1_25) rfl k)
      refine Gen.on (b := s₁.setTop (mkF m 28 #[.val (.int p1)] [(.int (90 : Int32)), (.int p1)])) ?_ (fun t k => XS.bipush X0.here hx rfl (hb hby d1_26) k)
      by_cases c28_17 : (90 : Int32) < p1
      · refine Gen.on (b := s₁.setTop (mkF m 31 #[.val (.int p1)] [])) ?_ (fun t k => XS.icmpNo X0.here hx rfl (hb hby d1_28) rfl (tlt c28_17).2.2.2 k)
        exact j31 _ (fun v hh L q1 q2 q3 => hq v hh L (by rw [q1]; simp only [f1_19, if_neg c22_16, if_pos c28_17]) q2 q3)
      · refine Gen.on (b := s₁.setTop (mkF m 67 #[.val (.int p1)] [])) ?_ (fun t k => XS.icmpYes X0.here hx rfl (pc0 := 28) (pc' := 67) rfl (hb hby d1_28) rfl (flt c28_17).2.2.2 (by decide) (by decide) k)
        exact j67 _ (fun v hh L q1 q2 q3 => hq v hh L (by rw [q1]; simp only [f1_19, if_neg c22_16, if_neg c28_17]) q2 q3)
  have hq : ∀ v hh L, v = some (.int (f1 p1)) → Fr n0 L → hh = h0 → Q1 p1 h0 n0 v hh L := fun v hh L q1 q2 q3 => ⟨q1, q2, q3⟩
  refine Gen.on (b := s₁.setTop (mkF m 1 #[.val (.int p1)] [(.int p1)])) ?_ (fun t k => XS.iloadN X0.here hx rfl (hb hby d1_0) rfl k)
  refine Gen.on (b := s₁.setTop (mkF m 4 #[.val (.int p1)] [(.int (128 : Int32)), (.int p1)])) ?_ (fun t k => XS.sipush X0.here hx rfl (hb hby d1_1) k)
  by_cases c4_18 : p1 < (128 : Int32)
  · refine Gen.on (b := s₁.setTop (mkF m 7 #[.val (.int p1)] [])) ?_ (fun t k => XS.icmpNo X0.here hx rfl (hb hby d1_4) rfl (tlt c4_18).2.1 k)
    refine Gen.on (b := s₁.setTop (mkF m 8 #[.val (.int p1)] [(.int p1)])) ?_ (fun t k => XS.iloadN X0.here hx rfl (hb hby d1_7) rfl k)
    refine Gen.on (b := s₁.setTop (mkF m 10 #[.val (.int p1)] [(.int (97 : Int32)), (.int p1)])) ?_ (fun t k => XS.bipush X0.here hx rfl (hb hby d1_8) k)
    by_cases c10_19 : p1 < (97 : Int32)
    · refine Gen.on (b := s₁.setTop (mkF m 19 #[.val (.int p1)] [])) ?_ (fun t k => XS.icmpYes X0.here hx rfl (pc0 := 10) (pc' := 19) rfl (hb hby d1_10) rfl (tlt c10_19).1 (by decide) (by decide) k)
      exact j19 _ (fun v hh L q1 q2 q3 => hq v hh L (by rw [q1]; simp only [f1, if_pos c4_18, if_pos c10_19]) q2 q3)
    · refine Gen.on (b := s₁.setTop (mkF m 13 #[.val (.int p1)] [])) ?_ (fun t k => XS.icmpNo X0.here hx rfl (hb hby d1_10) rfl (flt c10_19).1 k)
      refine Gen.on (b := s₁.setTop (mkF m 14 #[.val (.int p1)] [(.int p1)])) ?_ (fun t k => XS.iloadN X0.here hx rfl (hb hby d1_13) rfl k)
      refine Gen.on (b := s₁.setTop (mkF m 16 #[.val (.int p1)] [(.int (122 : Int32)), (.int p1)])) ?_ (fun t k => XS.bipush X0.here hx rfl (hb hby d1_14) k)
      by_cases c16_20 : (122 : Int32) < p1
      · refine Gen.on (b := s₁.setTop (mkF m 19 #[.val (.int p1)] [])) ?_ (fun t k => XS.icmpNo X0.here hx rfl (hb hby d1_16) rfl (tlt c16_20).2.2.2 k)
        exact j19 _ (fun v hh L q1 q2 q3 => hq v hh L (by rw [q1]; simp only [f1, if_pos c4_18, if_neg c10_19, if_pos c16_20]) q2 q3)
      · refine Gen.on (b := s₁.setTop (mkF m 67 #[.val (.int p1)] [])) ?_ (fun t k => XS.icmpYes X0.here hx rfl (pc0 := 16) (pc' := 67) rfl (hb hby d1_16) rfl (flt c16_20).2.2.2 (by decide) (by decide) k)
        exact j67 _ (fun v hh L q1 q2 q3 => hq v hh L (by rw [q1]; simp only [f1, if_pos c4_18, if_neg c10_19, if_neg c16_20]) q2 q3)
  · refine Gen.on (b := s₁.setTop (mkF m 73 #[.val (.int p1)] [])) ?_ (fun t k => XS.icmpYes X0.here hx rfl (pc0 := 4) (pc' := 73) rfl (hb hby d1_4) rfl (flt c4_18).2.1 (by decide) (by decide) k)
    refine Gen.on (b := s₁.setTop (mkF m 74 #[.val (.int p1)] [(.int p1)])) ?_ (fun t k => XS.iloadN X0.here hx rfl (hb hby d1_73) rfl k)
    refine Gen.on (b := s₁.setTop (mkF m 77 #[.val (.int p1)] [(.int (160 : Int32)), (.int p1)])) ?_ (fun t k => XS.sipush X0.here hx rfl (hb hby d1_74) k)
    by_cases c77_21 : p1 < (160 : Int32)
    · refine Gen.on (b := s₁.setTop (mkF m 87 #[.val (.int p1)] [])) ?_ (fun t k => XS.icmpYes X0.here hx rfl (pc0 := 77) (pc' := 87) rfl (hb hby d1_77) rfl (tlt c77_21).1 (by decide) (by decide) k)
      exact j87 _ (fun v hh L q1 q2 q3 => hq v hh L (by rw [q1]; simp only [f1, if_neg c4_18, if_pos c77_21]) q2 q3)
    · refine Gen.on (b := s₁.setTop (mkF m 80 #[.val (.int p1)] [])) ?_ (fun t k => XS.icmpNo X0.here hx rfl (hb hby d1_77) rfl (flt c77_21).1 k)
      refine Gen.on (b := s₁.setTop (mkF m 81 #[.val (.int p1)] [(.int p1)])) ?_ (fun t k => XS.iloadN X0.here hx rfl (hb hby d1_80) rfl k)
      refine Gen.on (b := s₁.setTop (mkF m 84 #[.val (.int p1)] [(.int (55295 : Int32)), (.int p1)])) ?_ (fun t k => X0.ldcwInt hx hown (mvT hZ (hw _ (List.mem_of_getElem? (i := 44) rfl))) (g := (mkF m 81 #[.val (.int p1)] [(.int p1)])) rfl (hb hby d1_81) t k)
      by_cases c84_22 : (55295 : Int32) < p1
      · refine Gen.on (b := s₁.setTop (mkF m 87 #[.val (.int p1)] [])) ?_ (fun t k => XS.icmpNo X0.here hx rfl (hb hby d1_84) rfl (tlt c84_22).2.2.2 k)
        exact j87 _ (fun v hh L q1 q2 q3 => hq v hh L (by rw [q1]; simp only [f1, if_neg c4_18, if_neg c77_21, if_pos c84_22]) q2 q3)
      · refine Gen.on (b := s₁.setTop (mkF m 154 #[.val (.int p1)] [])) ?_ (fun t k => XS.icmpYes X0.here hx rfl (pc0 := 84) (pc' := 154) rfl (hb hby d1_84) rfl (flt c84_22).2.2.2 (by decide) (by decide) k)
        exact j154 _ (fun v hh L q1 q2 q3 => hq v hh L (by rw [q1]; simp only [f1, if_neg c4_18, if_neg c77_21, if_neg c84_22]) q2 q3)
theorem d3_0 : decode method_3_code 0 = .ok (.iload_n 0, 1) := by decide +kernel
theorem d3_1 : decode method_3_code 1 = .ok (.iload_n 1, 1) := by decide +kernel
theorem d3_2 : decode method_3_code 2 = .ok (.if_icmp .lt 12, 3) := by decide +kernel
theorem d3_5 : decode method_3_code 5 = .ok (.iload_n 0, 1) := by decide +kernel
theorem d3_6 : decode method_3_code 6 = .ok (.iload_n 2, 1) := by decide +kernel
theorem d3_7 : decode method_3_code 7 = .ok (.if_icmp .gt 7, 3) := by decide +kernel
theorem d3_10 : decode method_3_code 10 = .ok (.iconst 1, 1) := by decide +kernel
theorem d3_11 : decode method_3_code 11 = .ok (.goto 4, 3) := by decide +kernel
theorem d3_14 : decode method_3_code 14 = .ok (.iconst 0, 1) := by decide +kernel
theorem d3_15 : decode method_3_code 15 = .ok (.ireturn, 1) := by decide +kernel
theorem pn_3 : plainName "com/example/mapwright/mapwright/mapping/StringTemplateIsIunreservedPinLaw" = true := by first | (simp [plainName, overriddenIn]; done) | decide +kernel
theorem ef_3 (m : MethodId) (x0 : Int32) (x1 : Int32) (x2 : Int32) : entryFrame m #[(.int x0), (.int x1), (.int x2)] 3 = mkF m 0 #[.val (.int x0), .val (.int x1), .val (.int x2)] [] := by first | (simp [entryFrame, mkF, argsToLocals, Value.category]; done) | rfl
def f3 (p1 : Int32) (p2 : Int32) (p3 : Int32) : Int32 := (if p1 < p2 then (0 : Int32) else (if p3 < p1 then (0 : Int32) else (1 : Int32)))
def Q3 (p1 : Int32) (p2 : Int32) (p3 : Int32) (h0 : Heap) (n0 : Nat) (v : Option Value) (h : Heap) (L : List Loc) : Prop := v = some (.int (f3 p1 p2 p3)) ∧ Fr n0 L ∧ h = h0
set_option maxRecDepth 65536 in
set_option maxHeartbeats 40000000 in
theorem rm3 (l : Launch) (Z : State) (a0 : Array Value) (hw : ∀ d ∈ tables_1, d.before a0 Z = true) (ws : List Jvm.Cond) (p1 : Int32) (p2 : Int32) (p3 : Int32) (h0 : Heap) (n0 : Nat) (Z0 : n0 ≤ h0.size)  :
    MetFree l (⟨"com/example/mapwright/mapwright/mapping/StringTemplateIsIunreservedPinLaw", "in", "(III)Z"⟩ : MethodName) (head1 (Jvm.Cond.code (⟨"com/example/mapwright/mapwright/mapping/StringTemplateIsIunreservedPinLaw", "in", "(III)Z"⟩ : MethodName) method_3_code 3 (some .boolean) :: ws) ({ frames := 0, cells := 0, slots := 0, locals := 0 } : Room)) (fun a U => a = #[(.int p1), (.int p2), (.int p3)] ∧ Z.Warmed39 U.vm ∧ U.heap = h0) (fun _ _ _ _ _ => True) (fun _ U o U' => ∃ v L, o = .returned v ∧ Q3 p1 p2 p3 h0 n0 v U'.heap L ∧ FrameEnd U o U' L ({ frames := 0, cells := 0, slots := 0, locals := 0 } : Room).cells ({ frames := 0, cells := 0, slots := 0, locals := 0 } : Room).slots) := by
  refine MetFree.of_bodySF (plainFor_of_name pn_3) hisR ?_
  intro p e s m args below meth c s₁ Bd hml0 hP hK
  obtain ⟨rfl, hZ, hh⟩ := hP
  have hx := Bd.exec
  have hby := Bd.bytes
  have hml : c.maxLocals = 3 := hml0
  have hown : s.vm.findClass "com/example/mapwright/mapwright/mapping/StringTemplateIsIunreservedPinLaw" = some m.cls := findClass_of_methodNamed Bd.named
  have hnm := (name_of_methodNamed Bd.named Bd.method).1
  have X0 : Stand p l e ({ frames := 0, cells := 0, slots := 0, locals := 0 } : Room) s m #[(.int p1), (.int p2), (.int p3)] below meth c s₁ [] 0 0 := Stand.of_body Bd
  have e0 : s₁.heap = h0 := by rw [← hh, Bd.state]; rfl
  have N0 := Fr.nil n0
  refine own_start (Q := Q3 p1 p2 p3 h0 n0) (C := ({ frames := 0, cells := 0, slots := 0, locals := 0 } : Room).cells) (S := ({ frames := 0, cells := 0, slots := 0, locals := 0 } : Room).slots) ?_
  rw [ef_3 m p1 p2 p3]
  have hq : ∀ v hh L, v = some (.int (f3 p1 p2 p3)) → Fr n0 L → hh = h0 → Q3 p1 p2 p3 h0 n0 v hh L := fun v hh L q1 q2 q3 => ⟨q1, q2, q3⟩
  refine Gen.on (b := s₁.setTop (mkF m 1 #[.val (.int p1), .val (.int p2), .val (.int p3)] [(.int p1)])) ?_ (fun t k => XS.iloadN X0.here hx rfl (hb hby d3_0) rfl k)
  refine Gen.on (b := s₁.setTop (mkF m 2 #[.val (.int p1), .val (.int p2), .val (.int p3)] [(.int p2), (.int p1)])) ?_ (fun t k => XS.iloadN X0.here hx rfl (hb hby d3_1) rfl k)
  by_cases c2_1 : p1 < p2
  · refine Gen.on (b := s₁.setTop (mkF m 14 #[.val (.int p1), .val (.int p2), .val (.int p3)] [])) ?_ (fun t k => XS.icmpYes X0.here hx rfl (pc0 := 2) (pc' := 14) rfl (hb hby d3_2) rfl (tlt c2_1).1 (by decide) (by decide) k)
    refine Gen.on (b := s₁.setTop (mkF m 15 #[.val (.int p1), .val (.int p2), .val (.int p3)] [(.int (0 : Int32))])) ?_ (fun t k => XS.iconst X0.here hx rfl (hb hby d3_14) k)
    refine own_retN (t := .boolean) X0 hx Bd.returns (by simp) (by decide) (hb hby d3_15) (by decide) (by decide) ?_
    exact hq _ _ _ (by simp only [f3, if_pos c2_1]) N0 e0
  · refine Gen.on (b := s₁.setTop (mkF m 5 #[.val (.int p1), .val (.int p2), .val (.int p3)] [])) ?_ (fun t k => XS.icmpNo X0.here hx rfl (hb hby d3_2) rfl (flt c2_1).1 k)
    refine Gen.on (b := s₁.setTop (mkF m 6 #[.val (.int p1), .val (.int p2), .val (.int p3)] [(.int p1)])) ?_ (fun t k => XS.iloadN X0.here hx rfl (hb hby d3_5) rfl k)
    refine Gen.on (b := s₁.setTop (mkF m 7 #[.val (.int p1), .val (.int p2), .val (.int p3)] [(.int p3), (.int p1)])) ?_ (fun t k => XS.iloadN X0.here hx rfl (hb hby d3_6) rfl k)
    by_cases c7_2 : p3 < p1
    · refine Gen.on (b := s₁.setTop (mkF m 14 #[.val (.int p1), .val (.int p2), .val (.int p3)] [])) ?_ (fun t k => XS.icmpYes X0.here hx rfl (pc0 := 7) (pc' := 14) rfl (hb hby d3_7) rfl (tlt c7_2).2.2.1 (by decide) (by decide) k)
      refine Gen.on (b := s₁.setTop (mkF m 15 #[.val (.int p1), .val (.int p2), .val (.int p3)] [(.int (0 : Int32))])) ?_ (fun t k => XS.iconst X0.here hx rfl (hb hby d3_14) k)
      refine own_retN (t := .boolean) X0 hx Bd.returns (by simp) (by decide) (hb hby d3_15) (by decide) (by decide) ?_
      exact hq _ _ _ (by simp only [f3, if_neg c2_1, if_pos c7_2]) N0 e0
    · refine Gen.on (b := s₁.setTop (mkF m 10 #[.val (.int p1), .val (.int p2), .val (.int p3)] [])) ?_ (fun t k => XS.icmpNo X0.here hx rfl (hb hby d3_7) rfl (flt c7_2).2.2.1 k)
      refine Gen.on (b := s₁.setTop (mkF m 11 #[.val (.int p1), .val (.int p2), .val (.int p3)] [(.int (1 : Int32))])) ?_ (fun t k => XS.iconst X0.here hx rfl (hb hby d3_10) k)
      refine Gen.on (b := s₁.setTop (mkF m 15 #[.val (.int p1), .val (.int p2), .val (.int p3)] [(.int (1 : Int32))])) ?_ (fun t k => XS.goto X0.here hx rfl (pc0 := 11) (pc' := 15) rfl (hb hby d3_11) (by decide) (by decide) k)
      refine own_retN (t := .boolean) X0 hx Bd.returns (by simp) (by decide) (hb hby d3_15) (by decide) (by decide) ?_
      exact hq _ _ _ (by simp only [f3, if_neg c2_1, if_neg c7_2]) N0 e0
theorem d2_0 : decode method_4_code 0 = .ok (.iload_n 0, 1) := by decide +kernel
theorem d2_1 : decode method_4_code 1 = .ok (.bipush 97, 2) := by decide +kernel
theorem d2_3 : decode method_4_code 3 = .ok (.bipush 122, 2) := by decide +kernel
theorem d2_5 : decode method_4_code 5 = .ok (.invokestatic 18, 3) := by decide +kernel
theorem d2_8 : decode method_4_code 8 = .ok (.ifCond .eq 5, 3) := by decide +kernel
theorem d2_11 : decode method_4_code 11 = .ok (.iconst 1, 1) := by decide +kernel
theorem d2_12 : decode method_4_code 12 = .ok (.ireturn, 1) := by decide +kernel
theorem d2_13 : decode method_4_code 13 = .ok (.iload_n 0, 1) := by decide +kernel
theorem d2_14 : decode method_4_code 14 = .ok (.bipush 65, 2) := by decide +kernel
theorem d2_16 : decode method_4_code 16 = .ok (.bipush 90, 2) := by decide +kernel
theorem d2_18 : decode method_4_code 18 = .ok (.invokestatic 18, 3) := by decide +kernel
theorem d2_21 : decode method_4_code 21 = .ok (.ifCond .eq 5, 3) := by decide +kernel
theorem d2_24 : decode method_4_code 24 = .ok (.iconst 1, 1) := by decide +kernel
theorem d2_25 : decode method_4_code 25 = .ok (.ireturn, 1) := by decide +kernel
theorem d2_26 : decode method_4_code 26 = .ok (.iload_n 0, 1) := by decide +kernel
theorem d2_27 : decode method_4_code 27 = .ok (.bipush 48, 2) := by decide +kernel
theorem d2_29 : decode method_4_code 29 = .ok (.bipush 57, 2) := by decide +kernel
theorem d2_31 : decode method_4_code 31 = .ok (.invokestatic 18, 3) := by decide +kernel
theorem d2_34 : decode method_4_code 34 = .ok (.ifCond .eq 5, 3) := by decide +kernel
theorem d2_37 : decode method_4_code 37 = .ok (.iconst 1, 1) := by decide +kernel
theorem d2_38 : decode method_4_code 38 = .ok (.ireturn, 1) := by decide +kernel
theorem d2_39 : decode method_4_code 39 = .ok (.iload_n 0, 1) := by decide +kernel
theorem d2_40 : decode method_4_code 40 = .ok (.bipush 45, 2) := by decide +kernel
theorem d2_42 : decode method_4_code 42 = .ok (.if_icmp .eq 21, 3) := by decide +kernel
theorem d2_45 : decode method_4_code 45 = .ok (.iload_n 0, 1) := by decide +kernel
theorem d2_46 : decode method_4_code 46 = .ok (.bipush 46, 2) := by decide +kernel
theorem d2_48 : decode method_4_code 48 = .ok (.if_icmp .eq 15, 3) := by decide +kernel
theorem d2_51 : decode method_4_code 51 = .ok (.iload_n 0, 1) := by decide +kernel
theorem d2_52 : decode method_4_code 52 = .ok (.bipush 95, 2) := by decide +kernel
theorem d2_54 : decode method_4_code 54 = .ok (.if_icmp .eq 9, 3) := by decide +kernel
theorem d2_57 : decode method_4_code 57 = .ok (.iload_n 0, 1) := by decide +kernel
theorem d2_58 : decode method_4_code 58 = .ok (.bipush 126, 2) := by decide +kernel
theorem d2_60 : decode method_4_code 60 = .ok (.if_icmp .ne 5, 3) := by decide +kernel
theorem d2_63 : decode method_4_code 63 = .ok (.iconst 1, 1) := by decide +kernel
theorem d2_64 : decode method_4_code 64 = .ok (.ireturn, 1) := by decide +kernel
theorem d2_65 : decode method_4_code 65 = .ok (.iload_n 0, 1) := by decide +kernel
theorem d2_66 : decode method_4_code 66 = .ok (.sipush 160, 3) := by decide +kernel
theorem d2_69 : decode method_4_code 69 = .ok (.ldc 22, 2) := by decide +kernel
theorem d2_71 : decode method_4_code 71 = .ok (.invokestatic 18, 3) := by decide +kernel
theorem d2_74 : decode method_4_code 74 = .ok (.ifCond .eq 5, 3) := by decide +kernel
theorem d2_77 : decode method_4_code 77 = .ok (.iconst 1, 1) := by decide +kernel
theorem d2_78 : decode method_4_code 78 = .ok (.ireturn, 1) := by decide +kernel
theorem d2_79 : decode method_4_code 79 = .ok (.iload_n 0, 1) := by decide +kernel
theorem d2_80 : decode method_4_code 80 = .ok (.ldc 23, 2) := by decide +kernel
theorem d2_82 : decode method_4_code 82 = .ok (.ldc 24, 2) := by decide +kernel
theorem d2_84 : decode method_4_code 84 = .ok (.invokestatic 18, 3) := by decide +kernel
theorem d2_87 : decode method_4_code 87 = .ok (.ifCond .eq 5, 3) := by decide +kernel
theorem d2_90 : decode method_4_code 90 = .ok (.iconst 1, 1) := by decide +kernel
theorem d2_91 : decode method_4_code 91 = .ok (.ireturn, 1) := by decide +kernel
theorem d2_92 : decode method_4_code 92 = .ok (.iload_n 0, 1) := by decide +kernel
theorem d2_93 : decode method_4_code 93 = .ok (.ldc 25, 2) := by decide +kernel
theorem d2_95 : decode method_4_code 95 = .ok (.ldc 26, 2) := by decide +kernel
theorem d2_97 : decode method_4_code 97 = .ok (.invokestatic 18, 3) := by decide +kernel
theorem d2_100 : decode method_4_code 100 = .ok (.ifCond .eq 5, 3) := by decide +kernel
theorem d2_103 : decode method_4_code 103 = .ok (.iconst 1, 1) := by decide +kernel
theorem d2_104 : decode method_4_code 104 = .ok (.ireturn, 1) := by decide +kernel
theorem d2_105 : decode method_4_code 105 = .ok (.iload_n 0, 1) := by decide +kernel
theorem d2_106 : decode method_4_code 106 = .ok (.ldc 27, 2) := by decide +kernel
theorem d2_108 : decode method_4_code 108 = .ok (.ldc 28, 2) := by decide +kernel
theorem d2_110 : decode method_4_code 110 = .ok (.invokestatic 18, 3) := by decide +kernel
theorem d2_113 : decode method_4_code 113 = .ok (.ifCond .eq 5, 3) := by decide +kernel
theorem d2_116 : decode method_4_code 116 = .ok (.iconst 1, 1) := by decide +kernel
theorem d2_117 : decode method_4_code 117 = .ok (.ireturn, 1) := by decide +kernel
theorem d2_118 : decode method_4_code 118 = .ok (.iload_n 0, 1) := by decide +kernel
theorem d2_119 : decode method_4_code 119 = .ok (.ldc 29, 2) := by decide +kernel
theorem d2_121 : decode method_4_code 121 = .ok (.ldc 30, 2) := by decide +kernel
theorem d2_123 : decode method_4_code 123 = .ok (.invokestatic 18, 3) := by decide +kernel
theorem d2_126 : decode method_4_code 126 = .ok (.ifCond .eq 5, 3) := by decide +kernel
theorem d2_129 : decode method_4_code 129 = .ok (.iconst 1, 1) := by decide +kernel
theorem d2_130 : decode method_4_code 130 = .ok (.ireturn, 1) := by decide +kernel
theorem d2_131 : decode method_4_code 131 = .ok (.iload_n 0, 1) := by decide +kernel
theorem d2_132 : decode method_4_code 132 = .ok (.ldc 31, 2) := by decide +kernel
theorem d2_134 : decode method_4_code 134 = .ok (.ldc 32, 2) := by decide +kernel
theorem d2_136 : decode method_4_code 136 = .ok (.invokestatic 18, 3) := by decide +kernel
theorem d2_139 : decode method_4_code 139 = .ok (.ifCond .eq 5, 3) := by decide +kernel
theorem d2_142 : decode method_4_code 142 = .ok (.iconst 1, 1) := by decide +kernel
theorem d2_143 : decode method_4_code 143 = .ok (.ireturn, 1) := by decide +kernel
theorem d2_144 : decode method_4_code 144 = .ok (.iload_n 0, 1) := by decide +kernel
theorem d2_145 : decode method_4_code 145 = .ok (.ldc 33, 2) := by decide +kernel
theorem d2_147 : decode method_4_code 147 = .ok (.ldc 34, 2) := by decide +kernel
theorem d2_149 : decode method_4_code 149 = .ok (.invokestatic 18, 3) := by decide +kernel
theorem d2_152 : decode method_4_code 152 = .ok (.ifCond .eq 5, 3) := by decide +kernel
theorem d2_155 : decode method_4_code 155 = .ok (.iconst 1, 1) := by decide +kernel
theorem d2_156 : decode method_4_code 156 = .ok (.ireturn, 1) := by decide +kernel
theorem d2_157 : decode method_4_code 157 = .ok (.iload_n 0, 1) := by decide +kernel
theorem d2_158 : decode method_4_code 158 = .ok (.ldc 35, 2) := by decide +kernel
theorem d2_160 : decode method_4_code 160 = .ok (.ldc 36, 2) := by decide +kernel
theorem d2_162 : decode method_4_code 162 = .ok (.invokestatic 18, 3) := by decide +kernel
theorem d2_165 : decode method_4_code 165 = .ok (.ifCond .eq 5, 3) := by decide +kernel
theorem d2_168 : decode method_4_code 168 = .ok (.iconst 1, 1) := by decide +kernel
theorem d2_169 : decode method_4_code 169 = .ok (.ireturn, 1) := by decide +kernel
theorem d2_170 : decode method_4_code 170 = .ok (.iload_n 0, 1) := by decide +kernel
theorem d2_171 : decode method_4_code 171 = .ok (.ldc 37, 2) := by decide +kernel
theorem d2_173 : decode method_4_code 173 = .ok (.ldc 38, 2) := by decide +kernel
theorem d2_175 : decode method_4_code 175 = .ok (.invokestatic 18, 3) := by decide +kernel
theorem d2_178 : decode method_4_code 178 = .ok (.ifCond .eq 5, 3) := by decide +kernel
theorem d2_181 : decode method_4_code 181 = .ok (.iconst 1, 1) := by decide +kernel
theorem d2_182 : decode method_4_code 182 = .ok (.ireturn, 1) := by decide +kernel
theorem d2_183 : decode method_4_code 183 = .ok (.iload_n 0, 1) := by decide +kernel
theorem d2_184 : decode method_4_code 184 = .ok (.ldc 39, 2) := by decide +kernel
theorem d2_186 : decode method_4_code 186 = .ok (.ldc 40, 2) := by decide +kernel
theorem d2_188 : decode method_4_code 188 = .ok (.invokestatic 18, 3) := by decide +kernel
theorem d2_191 : decode method_4_code 191 = .ok (.ifCond .eq 5, 3) := by decide +kernel
theorem d2_194 : decode method_4_code 194 = .ok (.iconst 1, 1) := by decide +kernel
theorem d2_195 : decode method_4_code 195 = .ok (.ireturn, 1) := by decide +kernel
theorem d2_196 : decode method_4_code 196 = .ok (.iload_n 0, 1) := by decide +kernel
theorem d2_197 : decode method_4_code 197 = .ok (.ldc 41, 2) := by decide +kernel
theorem d2_199 : decode method_4_code 199 = .ok (.ldc 42, 2) := by decide +kernel
theorem d2_201 : decode method_4_code 201 = .ok (.invokestatic 18, 3) := by decide +kernel
theorem d2_204 : decode method_4_code 204 = .ok (.ifCond .eq 5, 3) := by decide +kernel
theorem d2_207 : decode method_4_code 207 = .ok (.iconst 1, 1) := by decide +kernel
theorem d2_208 : decode method_4_code 208 = .ok (.ireturn, 1) := by decide +kernel
theorem d2_209 : decode method_4_code 209 = .ok (.iload_n 0, 1) := by decide +kernel
theorem d2_210 : decode method_4_code 210 = .ok (.ldc 43, 2) := by decide +kernel
theorem d2_212 : decode method_4_code 212 = .ok (.ldc 44, 2) := by decide +kernel
theorem d2_214 : decode method_4_code 214 = .ok (.invokestatic 18, 3) := by decide +kernel
theorem d2_217 : decode method_4_code 217 = .ok (.ifCond .eq 5, 3) := by decide +kernel
theorem d2_220 : decode method_4_code 220 = .ok (.iconst 1, 1) := by decide +kernel
theorem d2_221 : decode method_4_code 221 = .ok (.ireturn, 1) := by decide +kernel
theorem d2_222 : decode method_4_code 222 = .ok (.iload_n 0, 1) := by decide +kernel
theorem d2_223 : decode method_4_code 223 = .ok (.ldc 45, 2) := by decide +kernel
theorem d2_225 : decode method_4_code 225 = .ok (.ldc 46, 2) := by decide +kernel
theorem d2_227 : decode method_4_code 227 = .ok (.invokestatic 18, 3) := by decide +kernel
theorem d2_230 : decode method_4_code 230 = .ok (.ifCond .eq 5, 3) := by decide +kernel
theorem d2_233 : decode method_4_code 233 = .ok (.iconst 1, 1) := by decide +kernel
theorem d2_234 : decode method_4_code 234 = .ok (.ireturn, 1) := by decide +kernel
theorem d2_235 : decode method_4_code 235 = .ok (.iload_n 0, 1) := by decide +kernel
theorem d2_236 : decode method_4_code 236 = .ok (.ldc 47, 2) := by decide +kernel
theorem d2_238 : decode method_4_code 238 = .ok (.ldc 48, 2) := by decide +kernel
theorem d2_240 : decode method_4_code 240 = .ok (.invokestatic 18, 3) := by decide +kernel
theorem d2_243 : decode method_4_code 243 = .ok (.ifCond .eq 5, 3) := by decide +kernel
theorem d2_246 : decode method_4_code 246 = .ok (.iconst 1, 1) := by decide +kernel
theorem d2_247 : decode method_4_code 247 = .ok (.ireturn, 1) := by decide +kernel
theorem d2_248 : decode method_4_code 248 = .ok (.iload_n 0, 1) := by decide +kernel
theorem d2_249 : decode method_4_code 249 = .ok (.ldc 49, 2) := by decide +kernel
theorem d2_251 : decode method_4_code 251 = .ok (.ldc 50, 2) := by decide +kernel
theorem d2_253 : decode method_4_code 253 = .ok (.invokestatic 18, 3) := by decide +kernel
theorem d2_256 : decode method_4_code 256 = .ok (.ifCond .eq 5, 3) := by decide +kernel
theorem d2_259 : decode method_4_code 259 = .ok (.iconst 1, 1) := by decide +kernel
theorem d2_260 : decode method_4_code 260 = .ok (.ireturn, 1) := by decide +kernel
theorem d2_261 : decode method_4_code 261 = .ok (.iload_n 0, 1) := by decide +kernel
theorem d2_262 : decode method_4_code 262 = .ok (.ldc 51, 2) := by decide +kernel
theorem d2_264 : decode method_4_code 264 = .ok (.ldc 52, 2) := by decide +kernel
theorem d2_266 : decode method_4_code 266 = .ok (.invokestatic 18, 3) := by decide +kernel
theorem d2_269 : decode method_4_code 269 = .ok (.ifCond .eq 5, 3) := by decide +kernel
theorem d2_272 : decode method_4_code 272 = .ok (.iconst 1, 1) := by decide +kernel
theorem d2_273 : decode method_4_code 273 = .ok (.ireturn, 1) := by decide +kernel
theorem d2_274 : decode method_4_code 274 = .ok (.iload_n 0, 1) := by decide +kernel
theorem d2_275 : decode method_4_code 275 = .ok (.ldc 53, 2) := by decide +kernel
theorem d2_277 : decode method_4_code 277 = .ok (.ldc 54, 2) := by decide +kernel
theorem d2_279 : decode method_4_code 279 = .ok (.invokestatic 18, 3) := by decide +kernel
theorem d2_282 : decode method_4_code 282 = .ok (.ifCond .eq 5, 3) := by decide +kernel
theorem d2_285 : decode method_4_code 285 = .ok (.iconst 1, 1) := by decide +kernel
theorem d2_286 : decode method_4_code 286 = .ok (.ireturn, 1) := by decide +kernel
theorem d2_287 : decode method_4_code 287 = .ok (.iconst 0, 1) := by decide +kernel
theorem d2_288 : decode method_4_code 288 = .ok (.ireturn, 1) := by decide +kernel
theorem pn_2 : plainName "com/example/mapwright/mapwright/mapping/StringTemplateIsIunreservedPinLaw" = true := by first | (simp [plainName, overriddenIn]; done) | decide +kernel
theorem pd_2_0 : parseMethodDescriptor "(III)Z" = some ⟨[.int, .int, .int], some .boolean⟩ := by decide +kernel
theorem ef_2 (m : MethodId) (x0 : Int32) : entryFrame m #[(.int x0)] 1 = mkF m 0 #[.val (.int x0)] [] := by first | (simp [entryFrame, mkF, argsToLocals, Value.category]; done) | rfl
def f2 (p1 : Int32) : Int32 := (if (f3 p1 (97 : Int32) (122 : Int32)) = (0 : Int32) then (if (f3 p1 (65 : Int32) (90 : Int32)) = (0 : Int32) then (if (f3 p1 (48 : Int32) (57 : Int32)) = (0 : Int32) then (if p1 = (45 : Int32) then (1 : Int32) else (if p1 = (46 : Int32) then (1 : Int32) else (if p1 = (95 : Int32) then (1 : Int32) else (if p1 = (126 : Int32) then (1 : Int32) else (if (f3 p1 (160 : Int32) (55295 : Int32)) = (0 : Int32) then (if (f3 p1 (63744 : Int32) (64975 : Int32)) = (0 : Int32) then (if (f3 p1 (65008 : Int32) (65519 : Int32)) = (0 : Int32) then (if (f3 p1 (65536 : Int32) (131069 : Int32)) = (0 : Int32) then (if (f3 p1 (131072 : Int32) (196605 : Int32)) = (0 : Int32) then (if (f3 p1 (196608 : Int32) (262141 : Int32)) = (0 : Int32) then (if (f3 p1 (262144 : Int32) (327677 : Int32)) = (0 : Int32) then (if (f3 p1 (327680 : Int32) (393213 : Int32)) = (0 : Int32) then (if (f3 p1 (393216 : Int32) (458749 : Int32)) = (0 : Int32) then (if (f3 p1 (458752 : Int32) (524285 : Int32)) = (0 : Int32) then (if (f3 p1 (524288 : Int32) (589821 : Int32)) = (0 : Int32) then (if (f3 p1 (589824 : Int32) (655357 : Int32)) = (0 : Int32) then (if (f3 p1 (655360 : Int32) (720893 : Int32)) = (0 : Int32) then (if (f3 p1 (720896 : Int32) (786429 : Int32)) = (0 : Int32) then (if (f3 p1 (786432 : Int32) (851965 : Int32)) = (0 : Int32) then (if (f3 p1 (851968 : Int32) (917501 : Int32)) = (0 : Int32) then (if (f3 p1 (921600 : Int32) (983037 : Int32)) = (0 : Int32) then (0 : Int32) else (1 : Int32)) else (1 : Int32)) else (1 : Int32)) else (1 : Int32)) else (1 : Int32)) else (1 : Int32)) else (1 : Int32)) else (1 : Int32)) else (1 : Int32)) else (1 : Int32)) else (1 : Int32)) else (1 : Int32)) else (1 : Int32)) else (1 : Int32)) else (1 : Int32)) else (1 : Int32)) else (1 : Int32)))))) else (1 : Int32)) else (1 : Int32)) else (1 : Int32))
def Q2 (p1 : Int32) (h0 : Heap) (n0 : Nat) (v : Option Value) (h : Heap) (L : List Loc) : Prop := v = some (.int (f2 p1)) ∧ Fr n0 L ∧ h = h0
set_option maxRecDepth 65536 in
set_option maxHeartbeats 40000000 in
theorem rm2 (l : Launch) (Z : State) (a0 : Array Value) (hw : ∀ d ∈ tables_1, d.before a0 Z = true) (ws : List Jvm.Cond) (p1 : Int32) (h0 : Heap) (n0 : Nat) (Z0 : n0 ≤ h0.size)  :
    MetFree l (⟨"com/example/mapwright/mapwright/mapping/StringTemplateIsIunreservedPinLaw", "reference", "(I)Z"⟩ : MethodName) (head1 (Jvm.Cond.code (⟨"com/example/mapwright/mapwright/mapping/StringTemplateIsIunreservedPinLaw", "reference", "(I)Z"⟩ : MethodName) method_4_code 1 (some .boolean) :: ws) ({ frames := 1, cells := 0, slots := 0, locals := 14 } : Room)) (fun a U => a = #[(.int p1)] ∧ Z.Warmed39 U.vm ∧ U.heap = h0) (fun _ _ _ _ _ => True) (fun _ U o U' => ∃ v L, o = .returned v ∧ Q2 p1 h0 n0 v U'.heap L ∧ FrameEnd U o U' L ({ frames := 1, cells := 0, slots := 0, locals := 14 } : Room).cells ({ frames := 1, cells := 0, slots := 0, locals := 14 } : Room).slots) := by
  refine MetFree.of_bodySF (plainFor_of_name pn_2) hisR ?_
  intro p e s m args below meth c s₁ Bd hml0 hP hK
  obtain ⟨rfl, hZ, hh⟩ := hP
  have hx := Bd.exec
  have hby := Bd.bytes
  have hml : c.maxLocals = 1 := hml0
  have hown : s.vm.findClass "com/example/mapwright/mapwright/mapping/StringTemplateIsIunreservedPinLaw" = some m.cls := findClass_of_methodNamed Bd.named
  have hnm := (name_of_methodNamed Bd.named Bd.method).1
  have X0 : Stand p l e ({ frames := 1, cells := 0, slots := 0, locals := 14 } : Room) s m #[(.int p1)] below meth c s₁ [] 0 0 := Stand.of_body Bd
  have e0 : s₁.heap = h0 := by rw [← hh, Bd.state]; rfl
  have N0 := Fr.nil n0
  refine own_start (Q := Q2 p1 h0 n0) (C := ({ frames := 1, cells := 0, slots := 0, locals := 14 } : Room).cells) (S := ({ frames := 1, cells := 0, slots := 0, locals := 14 } : Room).slots) ?_
  rw [ef_2 m p1]
  have hq : ∀ v hh L, v = some (.int (f2 p1)) → Fr n0 L → hh = h0 → Q2 p1 h0 n0 v hh L := fun v hh L q1 q2 q3 => ⟨q1, q2, q3⟩
  refine Gen.on (b := s₁.setTop (mkF m 1 #[.val (.int p1)] [(.int p1)])) ?_ (fun t k => XS.iloadN X0.here hx rfl (hb hby d2_0) rfl k)
  refine Gen.on (b := s₁.setTop (mkF m 3 #[.val (.int p1)] [(.int (97 : Int32)), (.int p1)])) ?_ (fun t k => XS.bipush X0.here hx rfl (hb hby d2_1) k)
  refine Gen.on (b := s₁.setTop (mkF m 5 #[.val (.int p1)] [(.int (122 : Int32)), (.int (97 : Int32)), (.int p1)])) ?_ (fun t k => XS.bipush X0.here hx rfl (hb hby d2_3) k)
  obtain ⟨_, _, ⟨T1, L1, k1, n1⟩, -, X1, ⟨Lc1, hQ1, l1, y1, z1⟩, st1⟩ := Jvm.LawKit.callS X0 hx (y := (⟨"com/example/mapwright/mapwright/mapping/StringTemplateIsIunreservedPinLaw", "in", "(III)Z"⟩ : MethodName)) hown (mvT hZ (hw _ (List.mem_of_getElem? (i := 8) rfl))) (mvT hZ (hw _ (List.mem_of_getElem? (i := 9) rfl))) (mvT hZ (hw _ (List.mem_of_getElem? (i := 6) rfl))) (mvT hZ (hw _ (List.mem_of_getElem? (i := 10) rfl))) (by decide) (backOf (W := 0) (rm3 l Z a0 hw [] p1 (97 : Int32) (122 : Int32)  h0 n0 Z0 ) hZ (hw _ (List.mem_of_getElem? (i := 10) rfl)) (hw _ (List.mem_of_getElem? (i := 6) rfl)) (by decide) (by decide)) (g := (mkF m 5 #[.val (.int p1)] [(.int (122 : Int32)), (.int (97 : Int32)), (.int p1)])) rfl (by rw [hml]; rfl) (argsL := [(.int p1), (.int (97 : Int32)), (.int (122 : Int32))]) (rest := []) (lenOf pd_2_0 rfl) rfl (by show 2 * 0 + _ ≤ _; exact Nat.le_of_eq rfl) (hb hby d2_5) (fun _ _ => ⟨rfl, e0, (by decide : 0 + 0 ≤ _), (by decide : 0 + 0 ≤ _)⟩)
  dsimp only [Pt.U, Pt.locs, Pt.cells, Pt.slots] at X1 l1 y1 z1 st1 hQ1
  subst l1 y1 z1
  obtain ⟨rfl, N1q, e1⟩ := hQ1
  have N1 := Fr.app N0 N1q
  refine Gen.on (b := T1.setTop (mkF m 8 #[.val (.int p1)] [(.int (f3 p1 (97 : Int32) (122 : Int32)))])) ?_ (fun t k => st1 t k)
  by_cases c8_1 : (f3 p1 (97 : Int32) (122 : Int32)) = (0 : Int32)
  · refine Gen.on (b := T1.setTop (mkF m 13 #[.val (.int p1)] [])) ?_ (fun t k => XS.ifYes X1.here hx rfl (pc0 := 8) (pc' := 13) rfl (hb hby d2_8) rfl ((if0 _ _).trans (teq c8_1).1) (by decide) (by decide) k)
    refine Gen.on (b := T1.setTop (mkF m 14 #[.val (.int p1)] [(.int p1)])) ?_ (fun t k => XS.iloadN X1.here hx rfl (hb hby d2_13) rfl k)
    refine Gen.on (b := T1.setTop (mkF m 16 #[.val (.int p1)] [(.int (65 : Int32)), (.int p1)])) ?_ (fun t k => XS.bipush X1.here hx rfl (hb hby d2_14) k)
    refine Gen.on (b := T1.setTop (mkF m 18 #[.val (.int p1)] [(.int (90 : Int32)), (.int (65 : Int32)), (.int p1)])) ?_ (fun t k => XS.bipush X1.here hx rfl (hb hby d2_16) k)
    obtain ⟨_, _, ⟨T2, L2, k2, n2⟩, -, X2, ⟨Lc2, hQ2, l2, y2, z2⟩, st2⟩ := Jvm.LawKit.callS X1 hx (y := (⟨"com/example/mapwright/mapwright/mapping/StringTemplateIsIunreservedPinLaw", "in", "(III)Z"⟩ : MethodName)) hown (mvT hZ (hw _ (List.mem_of_getElem? (i := 8) rfl))) (mvT hZ (hw _ (List.mem_of_getElem? (i := 9) rfl))) (mvT hZ (hw _ (List.mem_of_getElem? (i := 6) rfl))) (mvT hZ (hw _ (List.mem_of_getElem? (i := 10) rfl))) (by decide) (backOf (W := 0) (rm3 l Z a0 hw [] p1 (65 : Int32) (90 : Int32)  h0 n0 Z0 ) hZ (hw _ (List.mem_of_getElem? (i := 10) rfl)) (hw _ (List.mem_of_getElem? (i := 6) rfl)) (by decide) (by decide)) (g := (mkF m 18 #[.val (.int p1)] [(.int (90 : Int32)), (.int (65 : Int32)), (.int p1)])) rfl (by rw [hml]; rfl) (argsL := [(.int p1), (.int (65 : Int32)), (.int (90 : Int32))]) (rest := []) (lenOf pd_2_0 rfl) rfl (by show 2 * 0 + _ ≤ _; exact Nat.le_of_eq rfl) (hb hby d2_18) (fun _ _ => ⟨rfl, e1, (by decide : 0 + 0 ≤ _), (by decide : 0 + 0 ≤ _)⟩)
    dsimp only [Pt.U, Pt.locs, Pt.cells, Pt.slots] at X2 l2 y2 z2 st2 hQ2
    subst l2 y2 z2
    obtain ⟨rfl, N2q, e2⟩ := hQ2
    have N2 := Fr.app N1 N2q
    refine Gen.on (b := T2.setTop (mkF m 21 #[.val (.int p1)] [(.int (f3 p1 (65 : Int32) (90 : Int32)))])) ?_ (fun t k => st2 t k)
    by_cases c21_2 : (f3 p1 (65 : Int32) (90 : Int32)) = (0 : Int32)
    · refine Gen.on (b := T2.setTop (mkF m 26 #[.val (.int p1)] [])) ?_ (fun t k => XS.ifYes X2.here hx rfl (pc0 := 21) (pc' := 26) rfl (hb hby d2_21) rfl ((if0 _ _).trans (teq c21_2).1) (by decide) (by decide) k)
      refine Gen.on (b := T2.setTop (mkF m 27 #[.val (.int p1)] [(.int p1)])) ?_ (fun t k => XS.iloadN X2.here hx rfl (hb hby d2_26) rfl k)
      refine Gen.on (b := T2.setTop (mkF m 29 #[.val (.int p1)] [(.int (48 : Int32)), (.int p1)])) ?_ (fun t k => XS.bipush X2.here hx rfl (hb hby d2_27) k)
      refine Gen.on (b := T2.setTop (mkF m 31 #[.val (.int p1)] [(.int (57 : Int32)), (.int (48 : Int32)), (.int p1)])) ?_ (fun t k => XS.bipush X2.here hx rfl (hb hby d2_29) k)
      obtain ⟨_, _, ⟨T3, L3, k3, n3⟩, -, X3, ⟨Lc3, hQ3, l3, y3, z3⟩, st3⟩ := Jvm.LawKit.callS X2 hx (y := (⟨"com/example/mapwright/mapwright/mapping/StringTemplateIsIunreservedPinLaw", "in", "(III)Z"⟩ : MethodName)) hown (mvT hZ (hw _ (List.mem_of_getElem? (i := 8) rfl))) (mvT hZ (hw _ (List.mem_of_getElem? (i := 9) rfl))) (mvT hZ (hw _ (List.mem_of_getElem? (i := 6) rfl))) (mvT hZ (hw _ (List.mem_of_getElem? (i := 10) rfl))) (by decide) (backOf (W := 0) (rm3 l Z a0 hw [] p1 (48 : Int32) (57 : Int32)  h0 n0 Z0 ) hZ (hw _ (List.mem_of_getElem? (i := 10) rfl)) (hw _ (List.mem_of_getElem? (i := 6) rfl)) (by decide) (by decide)) (g := (mkF m 31 #[.val (.int p1)] [(.int (57 : Int32)), (.int (48 : Int32)), (.int p1)])) rfl (by rw [hml]; rfl) (argsL := [(.int p1), (.int (48 : Int32)), (.int (57 : Int32))]) (rest := []) (lenOf pd_2_0 rfl) rfl (by show 2 * 0 + _ ≤ _; exact Nat.le_of_eq rfl) (hb hby d2_31) (fun _ _ => ⟨rfl, e2, (by decide : 0 + 0 ≤ _), (by decide : 0 + 0 ≤ _)⟩)
      dsimp only [Pt.U, Pt.locs, Pt.cells, Pt.slots] at X3 l3 y3 z3 st3 hQ3
      subst l3 y3 z3
      obtain ⟨rfl, N3q, e3⟩ := hQ3
      have N3 := Fr.app N2 N3q
      refine Gen.on (b := T3.setTop (mkF m 34 #[.val (.int p1)] [(.int (f3 p1 (48 : Int32) (57 : Int32)))])) ?_ (fun t k => st3 t k)
      by_cases c34_3 : (f3 p1 (48 : Int32) (57 : Int32)) = (0 : Int32)
      · refine Gen.on (b := T3.setTop (mkF m 39 #[.val (.int p1)] [])) ?_ (fun t k => XS.ifYes X3.here hx rfl (pc0 := 34) (pc' := 39) rfl (hb hby d2_34) rfl ((if0 _ _).trans (teq c34_3).1) (by decide) (by decide) k)
        refine Gen.on (b := T3.setTop (mkF m 40 #[.val (.int p1)] [(.int p1)])) ?_ (fun t k => XS.iloadN X3.here hx rfl (hb hby d2_39) rfl k)
        refine Gen.on (b := T3.setTop (mkF m 42 #[.val (.int p1)] [(.int (45 : Int32)), (.int p1)])) ?_ (fun t k => XS.bipush X3.here hx rfl (hb hby d2_40) k)
        by_cases c42_4 : p1 = (45 : Int32)
        · refine Gen.on (b := T3.setTop (mkF m 63 #[.val (.int p1)] [])) ?_ (fun t k => XS.icmpYes X3.here hx rfl (pc0 := 42) (pc' := 63) rfl (hb hby d2_42) rfl (teq c42_4).1 (by decide) (by decide) k)
          refine Gen.on (b := T3.setTop (mkF m 64 #[.val (.int p1)] [(.int (1 : Int32))])) ?_ (fun t k => XS.iconst X3.here hx rfl (hb hby d2_63) k)
          refine own_retN (t := .boolean) X3 hx Bd.returns (by simp) (by decide) (hb hby d2_64) (by decide) (by decide) ?_
          exact hq _ _ _ (by simp only [f2, if_pos c8_1, if_pos c21_2, if_pos c34_3, if_pos c42_4]) N3 e3
        · refine Gen.on (b := T3.setTop (mkF m 45 #[.val (.int p1)] [])) ?_ (fun t k => XS.icmpNo X3.here hx rfl (hb hby d2_42) rfl (feq c42_4).1 k)
          refine Gen.on (b := T3.setTop (mkF m 46 #[.val (.int p1)] [(.int p1)])) ?_ (fun t k => XS.iloadN X3.here hx rfl (hb hby d2_45) rfl k)
          refine Gen.on (b := T3.setTop (mkF m 48 #[.val (.int p1)] [(.int (46 : Int32)), (.int p1)])) ?_ (fun t k => XS.bipush X3.here hx rfl (hb hby d2_46) k)
          by_cases c48_5 : p1 = (46 : Int32)
          · refine Gen.on (b := T3.setTop (mkF m 63 #[.val (.int p1)] [])) ?_ (fun t k => XS.icmpYes X3.here hx rfl (pc0 := 48) (pc' := 63) rfl (hb hby d2_48) rfl (teq c48_5).1 (by decide) (by decide) k)
            refine Gen.on (b := T3.setTop (mkF m 64 #[.val (.int p1)] [(.int (1 : Int32))])) ?_ (fun t k => XS.iconst X3.here hx rfl (hb hby d2_63) k)
            refine own_retN (t := .boolean) X3 hx Bd.returns (by simp) (by decide) (hb hby d2_64) (by decide) (by decide) ?_
            exact hq _ _ _ (by simp only [f2, if_pos c8_1, if_pos c21_2, if_pos c34_3, if_neg c42_4, if_pos c48_5]) N3 e3
          · refine Gen.on (b := T3.setTop (mkF m 51 #[.val (.int p1)] [])) ?_ (fun t k => XS.icmpNo X3.here hx rfl (hb hby d2_48) rfl (feq c48_5).1 k)
            refine Gen.on (b := T3.setTop (mkF m 52 #[.val (.int p1)] [(.int p1)])) ?_ (fun t k => XS.iloadN X3.here hx rfl (hb hby d2_51) rfl k)
            refine Gen.on (b := T3.setTop (mkF m 54 #[.val (.int p1)] [(.int (95 : Int32)), (.int p1)])) ?_ (fun t k => XS.bipush X3.here hx rfl (hb hby d2_52) k)
            by_cases c54_6 : p1 = (95 : Int32)
            · refine Gen.on (b := T3.setTop (mkF m 63 #[.val (.int p1)] [])) ?_ (fun t k => XS.icmpYes X3.here hx rfl (pc0 := 54) (pc' := 63) rfl (hb hby d2_54) rfl (teq c54_6).1 (by decide) (by decide) k)
              refine Gen.on (b := T3.setTop (mkF m 64 #[.val (.int p1)] [(.int (1 : Int32))])) ?_ (fun t k => XS.iconst X3.here hx rfl (hb hby d2_63) k)
              refine own_retN (t := .boolean) X3 hx Bd.returns (by simp) (by decide) (hb hby d2_64) (by decide) (by decide) ?_
              exact hq _ _ _ (by simp only [f2, if_pos c8_1, if_pos c21_2, if_pos c34_3, if_neg c42_4, if_neg c48_5, if_pos c54_6]) N3 e3
            · refine Gen.on (b := T3.setTop (mkF m 57 #[.val (.int p1)] [])) ?_ (fun t k => XS.icmpNo X3.here hx rfl (hb hby d2_54) rfl (feq c54_6).1 k)
              refine Gen.on (b := T3.setTop (mkF m 58 #[.val (.int p1)] [(.int p1)])) ?_ (fun t k => XS.iloadN X3.here hx rfl (hb hby d2_57) rfl k)
              refine Gen.on (b := T3.setTop (mkF m 60 #[.val (.int p1)] [(.int (126 : Int32)), (.int p1)])) ?_ (fun t k => XS.bipush X3.here hx rfl (hb hby d2_58) k)
              by_cases c60_7 : p1 = (126 : Int32)
              · refine Gen.on (b := T3.setTop (mkF m 63 #[.val (.int p1)] [])) ?_ (fun t k => XS.icmpNo X3.here hx rfl (hb hby d2_60) rfl (teq c60_7).2 k)
                refine Gen.on (b := T3.setTop (mkF m 64 #[.val (.int p1)] [(.int (1 : Int32))])) ?_ (fun t k => XS.iconst X3.here hx rfl (hb hby d2_63) k)
                refine own_retN (t := .boolean) X3 hx Bd.returns (by simp) (by decide) (hb hby d2_64) (by decide) (by decide) ?_
                exact hq _ _ _ (by simp only [f2, if_pos c8_1, if_pos c21_2, if_pos c34_3, if_neg c42_4, if_neg c48_5, if_neg c54_6, if_pos c60_7]) N3 e3
              · refine Gen.on (b := T3.setTop (mkF m 65 #[.val (.int p1)] [])) ?_ (fun t k => XS.icmpYes X3.here hx rfl (pc0 := 60) (pc' := 65) rfl (hb hby d2_60) rfl (feq c60_7).2 (by decide) (by decide) k)
                refine Gen.on (b := T3.setTop (mkF m 66 #[.val (.int p1)] [(.int p1)])) ?_ (fun t k => XS.iloadN X3.here hx rfl (hb hby d2_65) rfl k)
                refine Gen.on (b := T3.setTop (mkF m 69 #[.val (.int p1)] [(.int (160 : Int32)), (.int p1)])) ?_ (fun t k => XS.sipush X3.here hx rfl (hb hby d2_66) k)
                refine Gen.on (b := T3.setTop (mkF m 71 #[.val (.int p1)] [(.int (55295 : Int32)), (.int (160 : Int32)), (.int p1)])) ?_ (fun t k => X3.ldcInt hx hown (mvT hZ (hw _ (List.mem_of_getElem? (i := 11) rfl))) (g := (mkF m 69 #[.val (.int p1)] [(.int (160 : Int32)), (.int p1)])) rfl (hb hby d2_69) t k)
                obtain ⟨_, _, ⟨T4, L4, k4, n4⟩, -, X4, ⟨Lc4, hQ4, l4, y4, z4⟩, st4⟩ := Jvm.LawKit.callS X3 hx (y := (⟨"com/example/mapwright/mapwright/mapping/StringTemplateIsIunreservedPinLaw", "in", "(III)Z"⟩ : MethodName)) hown (mvT hZ (hw _ (List.mem_of_getElem? (i := 8) rfl))) (mvT hZ (hw _ (List.mem_of_getElem? (i := 9) rfl))) (mvT hZ (hw _ (List.mem_of_getElem? (i := 6) rfl))) (mvT hZ (hw _ (List.mem_of_getElem? (i := 10) rfl))) (by decide) (backOf (W := 0) (rm3 l Z a0 hw [] p1 (160 : Int32) (55295 : Int32)  h0 n0 Z0 ) hZ (hw _ (List.mem_of_getElem? (i := 10) rfl)) (hw _ (List.mem_of_getElem? (i := 6) rfl)) (by decide) (by decide)) (g := (mkF m 71 #[.val (.int p1)] [(.int (55295 : Int32)), (.int (160 : Int32)), (.int p1)])) rfl (by rw [hml]; rfl) (argsL := [(.int p1), (.int (160 : Int32)), (.int (55295 : Int32))]) (rest := []) (lenOf pd_2_0 rfl) rfl (by show 2 * 0 + _ ≤ _; exact Nat.le_of_eq rfl) (hb hby d2_71) (fun _ _ => ⟨rfl, e3, (by decide : 0 + 0 ≤ _), (by decide : 0 + 0 ≤ _)⟩)
                dsimp only [Pt.U, Pt.locs, Pt.cells, Pt.slots] at X4 l4 y4 z4 st4 hQ4
                subst l4 y4 z4
                obtain ⟨rfl, N4q, e4⟩ := hQ4
                have N4 := Fr.app N3 N4q
                refine Gen.on (b := T4.setTop (mkF m 74 #[.val (.int p1)] [(.int (f3 p1 (160 : Int32) (55295 : Int32)))])) ?_ (fun t k => st4 t k)
                by_cases c74_8 : (f3 p1 (160 : Int32) (55295 : Int32)) = (0 : Int32)
                · refine Gen.on (b := T4.setTop (mkF m 79 #[.val (.int p1)] [])) ?_ (fun t k => XS.ifYes X4.here hx rfl (pc0 := 74) (pc' := 79) rfl (hb hby d2_74) rfl ((if0 _ _).trans (teq c74_8).1) (by decide) (by decide) k)
                  refine Gen.on (b := T4.setTop (mkF m 80 #[.val (.int p1)] [(.int p1)])) ?_ (fun t k => XS.iloadN X4.here hx rfl (hb hby d2_79) rfl k)
                  refine Gen.on (b := T4.setTop (mkF m 82 #[.val (.int p1)] [(.int (63744 : Int32)), (.int p1)])) ?_ (fun t k => X4.ldcInt hx hown (mvT hZ (hw _ (List.mem_of_getElem? (i := 12) rfl))) (g := (mkF m 80 #[.val (.int p1)] [(.int p1)])) rfl (hb hby d2_80) t k)
                  refine Gen.on (b := T4.setTop (mkF m 84 #[.val (.int p1)] [(.int (64975 : Int32)), (.int (63744 : Int32)), (.int p1)])) ?_ (fun t k => X4.ldcInt hx hown (mvT hZ (hw _ (List.mem_of_getElem? (i := 13) rfl))) (g := (mkF m 82 #[.val (.int p1)] [(.int (63744 : Int32)), (.int p1)])) rfl (hb hby d2_82) t k)
                  obtain ⟨_, _, ⟨T5, L5, k5, n5⟩, -, X5, ⟨Lc5, hQ5, l5, y5, z5⟩, st5⟩ := Jvm.LawKit.callS X4 hx (y := (⟨"com/example/mapwright/mapwright/mapping/StringTemplateIsIunreservedPinLaw", "in", "(III)Z"⟩ : MethodName)) hown (mvT hZ (hw _ (List.mem_of_getElem? (i := 8) rfl))) (mvT hZ (hw _ (List.mem_of_getElem? (i := 9) rfl))) (mvT hZ (hw _ (List.mem_of_getElem? (i := 6) rfl))) (mvT hZ (hw _ (List.mem_of_getElem? (i := 10) rfl))) (by decide) (backOf (W := 0) (rm3 l Z a0 hw [] p1 (63744 : Int32) (64975 : Int32)  h0 n0 Z0 ) hZ (hw _ (List.mem_of_getElem? (i := 10) rfl)) (hw _ (List.mem_of_getElem? (i := 6) rfl)) (by decide) (by decide)) (g := (mkF m 84 #[.val (.int p1)] [(.int (64975 : Int32)), (.int (63744 : Int32)), (.int p1)])) rfl (by rw [hml]; rfl) (argsL := [(.int p1), (.int (63744 : Int32)), (.int (64975 : Int32))]) (rest := []) (lenOf pd_2_0 rfl) rfl (by show 2 * 0 + _ ≤ _; exact Nat.le_of_eq rfl) (hb hby d2_84) (fun _ _ => ⟨rfl, e4, (by decide : 0 + 0 ≤ _), (by decide : 0 + 0 ≤ _)⟩)
                  dsimp only [Pt.U, Pt.locs, Pt.cells, Pt.slots] at X5 l5 y5 z5 st5 hQ5
                  subst l5 y5 z5
                  obtain ⟨rfl, N5q, e5⟩ := hQ5
                  have N5 := Fr.app N4 N5q
                  refine Gen.on (b := T5.setTop (mkF m 87 #[.val (.int p1)] [(.int (f3 p1 (63744 : Int32) (64975 : Int32)))])) ?_ (fun t k => st5 t k)
                  by_cases c87_9 : (f3 p1 (63744 : Int32) (64975 : Int32)) = (0 : Int32)
                  · refine Gen.on (b := T5.setTop (mkF m 92 #[.val (.int p1)] [])) ?_ (fun t k => XS.ifYes X5.here hx rfl (pc0 := 87) (pc' := 92) rfl (hb hby d2_87) rfl ((if0 _ _).trans (teq c87_9).1) (by decide) (by decide) k)
                    refine Gen.on (b := T5.setTop (mkF m 93 #[.val (.int p1)] [(.int p1)])) ?_ (fun t k => XS.iloadN X5.here hx rfl (hb hby d2_92) rfl k)
                    refine Gen.on (b := T5.setTop (mkF m 95 #[.val (.int p1)] [(.int (65008 : Int32)), (.int p1)])) ?_ (fun t k => X5.ldcInt hx hown (mvT hZ (hw _ (List.mem_of_getElem? (i := 14) rfl))) (g := (mkF m 93 #[.val (.int p1)] [(.int p1)])) rfl (hb hby d2_93) t k)
                    refine Gen.on (b := T5.setTop (mkF m 97 #[.val (.int p1)] [(.int (65519 : Int32)), (.int (65008 : Int32)), (.int p1)])) ?_ (fun t k => X5.ldcInt hx hown (mvT hZ (hw _ (List.mem_of_getElem? (i := 15) rfl))) (g := (mkF m 95 #[.val (.int p1)] [(.int (65008 : Int32)), (.int p1)])) rfl (hb hby d2_95) t k)
                    obtain ⟨_, _, ⟨T6, L6, k6, n6⟩, -, X6, ⟨Lc6, hQ6, l6, y6, z6⟩, st6⟩ := Jvm.LawKit.callS X5 hx (y := (⟨"com/example/mapwright/mapwright/mapping/StringTemplateIsIunreservedPinLaw", "in", "(III)Z"⟩ : MethodName)) hown (mvT hZ (hw _ (List.mem_of_getElem? (i := 8) rfl))) (mvT hZ (hw _ (List.mem_of_getElem? (i := 9) rfl))) (mvT hZ (hw _ (List.mem_of_getElem? (i := 6) rfl))) (mvT hZ (hw _ (List.mem_of_getElem? (i := 10) rfl))) (by decide) (backOf (W := 0) (rm3 l Z a0 hw [] p1 (65008 : Int32) (65519 : Int32)  h0 n0 Z0 ) hZ (hw _ (List.mem_of_getElem? (i := 10) rfl)) (hw _ (List.mem_of_getElem? (i := 6) rfl)) (by decide) (by decide)) (g := (mkF m 97 #[.val (.int p1)] [(.int (65519 : Int32)), (.int (65008 : Int32)), (.int p1)])) rfl (by rw [hml]; rfl) (argsL := [(.int p1), (.int (65008 : Int32)), (.int (65519 : Int32))]) (rest := []) (lenOf pd_2_0 rfl) rfl (by show 2 * 0 + _ ≤ _; exact Nat.le_of_eq rfl) (hb hby d2_97) (fun _ _ => ⟨rfl, e5, (by decide : 0 + 0 ≤ _), (by decide : 0 + 0 ≤ _)⟩)
                    dsimp only [Pt.U, Pt.locs, Pt.cells, Pt.slots] at X6 l6 y6 z6 st6 hQ6
                    subst l6 y6 z6
                    obtain ⟨rfl, N6q, e6⟩ := hQ6
                    have N6 := Fr.app N5 N6q
                    refine Gen.on (b := T6.setTop (mkF m 100 #[.val (.int p1)] [(.int (f3 p1 (65008 : Int32) (65519 : Int32)))])) ?_ (fun t k => st6 t k)
                    by_cases c100_10 : (f3 p1 (65008 : Int32) (65519 : Int32)) = (0 : Int32)
                    · refine Gen.on (b := T6.setTop (mkF m 105 #[.val (.int p1)] [])) ?_ (fun t k => XS.ifYes X6.here hx rfl (pc0 := 100) (pc' := 105) rfl (hb hby d2_100) rfl ((if0 _ _).trans (teq c100_10).1) (by decide) (by decide) k)
                      refine Gen.on (b := T6.setTop (mkF m 106 #[.val (.int p1)] [(.int p1)])) ?_ (fun t k => XS.iloadN X6.here hx rfl (hb hby d2_105) rfl k)
                      refine Gen.on (b := T6.setTop (mkF m 108 #[.val (.int p1)] [(.int (65536 : Int32)), (.int p1)])) ?_ (fun t k => X6.ldcInt hx hown (mvT hZ (hw _ (List.mem_of_getElem? (i := 16) rfl))) (g := (mkF m 106 #[.val (.int p1)] [(.int p1)])) rfl (hb hby d2_106) t k)
                      refine Gen.on (b := T6.setTop (mkF m 110 #[.val (.int p1)] [(.int (131069 : Int32)), (.int (65536 : Int32)), (.int p1)])) ?_ (fun t k => X6.ldcInt hx hown (mvT hZ (hw _ (List.mem_of_getElem? (i := 17) rfl))) (g := (mkF m 108 #[.val (.int p1)] [(.int (65536 : Int32)), (.int p1)])) rfl (hb hby d2_108) t k)
                      obtain ⟨_, _, ⟨T7, L7, k7, n7⟩, -, X7, ⟨Lc7, hQ7, l7, y7, z7⟩, st7⟩ := Jvm.LawKit.callS X6 hx (y := (⟨"com/example/mapwright/mapwright/mapping/StringTemplateIsIunreservedPinLaw", "in", "(III)Z"⟩ : MethodName)) hown (mvT hZ (hw _ (List.mem_of_getElem? (i := 8) rfl))) (mvT hZ (hw _ (List.mem_of_getElem? (i := 9) rfl))) (mvT hZ (hw _ (List.mem_of_getElem? (i := 6) rfl))) (mvT hZ (hw _ (List.mem_of_getElem? (i := 10) rfl))) (by decide) (backOf (W := 0) (rm3 l Z a0 hw [] p1 (65536 : Int32) (131069 : Int32)  h0 n0 Z0 ) hZ (hw _ (List.mem_of_getElem? (i := 10) rfl)) (hw _ (List.mem_of_getElem? (i := 6) rfl)) (by decide) (by decide)) (g := (mkF m 110 #[.val (.int p1)] [(.int (131069 : Int32)), (.int (65536 : Int32)), (.int p1)])) rfl (by rw [hml]; rfl) (argsL := [(.int p1), (.int (65536 : Int32)), (.int (131069 : Int32))]) (rest := []) (lenOf pd_2_0 rfl) rfl (by show 2 * 0 + _ ≤ _; exact Nat.le_of_eq rfl) (hb hby d2_110) (fun _ _ => ⟨rfl, e6, (by decide : 0 + 0 ≤ _), (by decide : 0 + 0 ≤ _)⟩)
                      dsimp only [Pt.U, Pt.locs, Pt.cells, Pt.slots] at X7 l7 y7 z7 st7 hQ7
                      subst l7 y7 z7
                      obtain ⟨rfl, N7q, e7⟩ := hQ7
                      have N7 := Fr.app N6 N7q
                      refine Gen.on (b := T7.setTop (mkF m 113 #[.val (.int p1)] [(.int (f3 p1 (65536 : Int32) (131069 : Int32)))])) ?_ (fun t k => st7 t k)
                      by_cases c113_11 : (f3 p1 (65536 : Int32) (131069 : Int32)) = (0 : Int32)
                      · refine Gen.on (b := T7.setTop (mkF m 118 #[.val (.int p1)] [])) ?_ (fun t k => XS.ifYes X7.here hx rfl (pc0 := 113) (pc' := 118) rfl (hb hby d2_113) rfl ((if0 _ _).trans (teq c113_11).1) (by decide) (by decide) k)
                        refine Gen.on (b := T7.setTop (mkF m 119 #[.val (.int p1)] [(.int p1)])) ?_ (fun t k => XS.iloadN X7.here hx rfl (hb hby d2_118) rfl k)
                        refine Gen.on (b := T7.setTop (mkF m 121 #[.val (.int p1)] [(.int (131072 : Int32)), (.int p1)])) ?_ (fun t k => X7.ldcInt hx hown (mvT hZ (hw _ (List.mem_of_getElem? (i := 18) rfl))) (g := (mkF m 119 #[.val (.int p1)] [(.int p1)])) rfl (hb hby d2_119) t k)
                        refine Gen.on (b := T7.setTop (mkF m 123 #[.val (.int p1)] [(.int (196605 : Int32)), (.int (131072 : Int32)), (.int p1)])) ?_ (fun t k => X7.ldcInt hx hown (mvT hZ (hw _ (List.mem_of_getElem? (i := 19) rfl))) (g := (mkF m 121 #[.val (.int p1)] [(.int (131072 : Int32)), (.int p1)])) rfl (hb hby d2_121) t k)
                        obtain ⟨_, _, ⟨T8, L8, k8, n8⟩, -, X8, ⟨Lc8, hQ8, l8, y8, z8⟩, st8⟩ := Jvm.LawKit.callS X7 hx (y := (⟨"com/example/mapwright/mapwright/mapping/StringTemplateIsIunreservedPinLaw", "in", "(III)Z"⟩ : MethodName)) hown (mvT hZ (hw _ (List.mem_of_getElem? (i := 8) rfl))) (mvT hZ (hw _ (List.mem_of_getElem? (i := 9) rfl))) (mvT hZ (hw _ (List.mem_of_getElem? (i := 6) rfl))) (mvT hZ (hw _ (List.mem_of_getElem? (i := 10) rfl))) (by decide) (backOf (W := 0) (rm3 l Z a0 hw [] p1 (131072 : Int32) (196605 : Int32)  h0 n0 Z0 ) hZ (hw _ (List.mem_of_getElem? (i := 10) rfl)) (hw _ (List.mem_of_getElem? (i := 6) rfl)) (by decide) (by decide)) (g := (mkF m 123 #[.val (.int p1)] [(.int (196605 : Int32)), (.int (131072 : Int32)), (.int p1)])) rfl (by rw [hml]; rfl) (argsL := [(.int p1), (.int (131072 : Int32)), (.int (196605 : Int32))]) (rest := []) (lenOf pd_2_0 rfl) rfl (by show 2 * 0 + _ ≤ _; exact Nat.le_of_eq rfl) (hb hby d2_123) (fun _ _ => ⟨rfl, e7, (by decide : 0 + 0 ≤ _), (by decide : 0 + 0 ≤ _)⟩)
                        dsimp only [Pt.U, Pt.locs, Pt.cells, Pt.slots] at X8 l8 y8 z8 st8 hQ8
                        subst l8 y8 z8
                        obtain ⟨rfl, N8q, e8⟩ := hQ8
                        have N8 := Fr.app N7 N8q
                        refine Gen.on (b := T8.setTop (mkF m 126 #[.val (.int p1)] [(.int (f3 p1 (131072 : Int32) (196605 : Int32)))])) ?_ (fun t k => st8 t k)
                        by_cases c126_12 : (f3 p1 (131072 : Int32) (196605 : Int32)) = (0 : Int32)
                        · refine Gen.on (b := T8.setTop (mkF m 131 #[.val (.int p1)] [])) ?_ (fun t k => XS.ifYes X8.here hx rfl (pc0 := 126) (pc' := 131) rfl (hb hby d2_126) rfl ((if0 _ _).trans (teq c126_12).1) (by decide) (by decide) k)
                          refine Gen.on (b := T8.setTop (mkF m 132 #[.val (.int p1)] [(.int p1)])) ?_ (fun t k => XS.iloadN X8.here hx rfl (hb hby d2_131) rfl k)
                          refine Gen.on (b := T8.setTop (mkF m 134 #[.val (.int p1)] [(.int (196608 : Int32)), (.int p1)])) ?_ (fun t k => X8.ldcInt hx hown (mvT hZ (hw _ (List.mem_of_getElem? (i := 20) rfl))) (g := (mkF m 132 #[.val (.int p1)] [(.int p1)])) rfl (hb hby d2_132) t k)
                          refine Gen.on (b := T8.setTop (mkF m 136 #[.val (.int p1)] [(.int (262141 : Int32)), (.int (196608 : Int32)), (.int p1)])) ?_ (fun t k => X8.ldcInt hx hown (mvT hZ (hw _ (List.mem_of_getElem? (i := 21) rfl))) (g := (mkF m 134 #[.val (.int p1)] [(.int (196608 : Int32)), (.int p1)])) rfl (hb hby d2_134) t k)
                          obtain ⟨_, _, ⟨T9, L9, k9, n9⟩, -, X9, ⟨Lc9, hQ9, l9, y9, z9⟩, st9⟩ := Jvm.LawKit.callS X8 hx (y := (⟨"com/example/mapwright/mapwright/mapping/StringTemplateIsIunreservedPinLaw", "in", "(III)Z"⟩ : MethodName)) hown (mvT hZ (hw _ (List.mem_of_getElem? (i := 8) rfl))) (mvT hZ (hw _ (List.mem_of_getElem? (i := 9) rfl))) (mvT hZ (hw _ (List.mem_of_getElem? (i := 6) rfl))) (mvT hZ (hw _ (List.mem_of_getElem? (i := 10) rfl))) (by decide) (backOf (W := 0) (rm3 l Z a0 hw [] p1 (196608 : Int32) (262141 : Int32)  h0 n0 Z0 ) hZ (hw _ (List.mem_of_getElem? (i := 10) rfl)) (hw _ (List.mem_of_getElem? (i := 6) rfl)) (by decide) (by decide)) (g := (mkF m 136 #[.val (.int p1)] [(.int (262141 : Int32)), (.int (196608 : Int32)), (.int p1)])) rfl (by rw [hml]; rfl) (argsL := [(.int p1), (.int (196608 : Int32)), (.int (262141 : Int32))]) (rest := []) (lenOf pd_2_0 rfl) rfl (by show 2 * 0 + _ ≤ _; exact Nat.le_of_eq rfl) (hb hby d2_136) (fun _ _ => ⟨rfl, e8, (by decide : 0 + 0 ≤ _), (by decide : 0 + 0 ≤ _)⟩)
                          dsimp only [Pt.U, Pt.locs, Pt.cells, Pt.slots] at X9 l9 y9 z9 st9 hQ9
                          subst l9 y9 z9
                          obtain ⟨rfl, N9q, e9⟩ := hQ9
                          have N9 := Fr.app N8 N9q
                          refine Gen.on (b := T9.setTop (mkF m 139 #[.val (.int p1)] [(.int (f3 p1 (196608 : Int32) (262141 : Int32)))])) ?_ (fun t k => st9 t k)
                          by_cases c139_13 : (f3 p1 (196608 : Int32) (262141 : Int32)) = (0 : Int32)
                          · refine Gen.on (b := T9.setTop (mkF m 144 #[.val (.int p1)] [])) ?_ (fun t k => XS.ifYes X9.here hx rfl (pc0 := 139) (pc' := 144) rfl (hb hby d2_139) rfl ((if0 _ _).trans (teq c139_13).1) (by decide) (by decide) k)
                            refine Gen.on (b := T9.setTop (mkF m 145 #[.val (.int p1)] [(.int p1)])) ?_ (fun t k => XS.iloadN X9.here hx rfl (hb hby d2_144) rfl k)
                            refine Gen.on (b := T9.setTop (mkF m 147 #[.val (.int p1)] [(.int (262144 : Int32)), (.int p1)])) ?_ (fun t k => X9.ldcInt hx hown (mvT hZ (hw _ (List.mem_of_getElem? (i := 22) rfl))) (g := (mkF m 145 #[.val (.int p1)] [(.int p1)])) rfl (hb hby d2_145) t k)
                            refine Gen.on (b := T9.setTop (mkF m 149 #[.val (.int p1)] [(.int (327677 : Int32)), (.int (262144 : Int32)), (.int p1)])) ?_ (fun t k => X9.ldcInt hx hown (mvT hZ (hw _ (List.mem_of_getElem? (i := 23) rfl))) (g := (mkF m 147 #[.val (.int p1)] [(.int (262144 : Int32)), (.int p1)])) rfl (hb hby d2_147) t k)
                            obtain ⟨_, _, ⟨T10, L10, k10, n10⟩, -, X10, ⟨Lc10, hQ10, l10, y10, z10⟩, st10⟩ := Jvm.LawKit.callS X9 hx (y := (⟨"com/example/mapwright/mapwright/mapping/StringTemplateIsIunreservedPinLaw", "in", "(III)Z"⟩ : MethodName)) hown (mvT hZ (hw _ (List.mem_of_getElem? (i := 8) rfl))) (mvT hZ (hw _ (List.mem_of_getElem? (i := 9) rfl))) (mvT hZ (hw _ (List.mem_of_getElem? (i := 6) rfl))) (mvT hZ (hw _ (List.mem_of_getElem? (i := 10) rfl))) (by decide) (backOf (W := 0) (rm3 l Z a0 hw [] p1 (262144 : Int32) (327677 : Int32)  h0 n0 Z0 ) hZ (hw _ (List.mem_of_getElem? (i := 10) rfl)) (hw _ (List.mem_of_getElem? (i := 6) rfl)) (by decide) (by decide)) (g := (mkF m 149 #[.val (.int p1)] [(.int (327677 : Int32)), (.int (262144 : Int32)), (.int p1)])) rfl (by rw [hml]; rfl) (argsL := [(.int p1), (.int (262144 : Int32)), (.int (327677 : Int32))]) (rest := []) (lenOf pd_2_0 rfl) rfl (by show 2 * 0 + _ ≤ _; exact Nat.le_of_eq rfl) (hb hby d2_149) (fun _ _ => ⟨rfl, e9, (by decide : 0 + 0 ≤ _), (by decide : 0 + 0 ≤ _)⟩)
                            dsimp only [Pt.U, Pt.locs, Pt.cells, Pt.slots] at X10 l10 y10 z10 st10 hQ10
                            subst l10 y10 z10
                            obtain ⟨rfl, N10q, e10⟩ := hQ10
                            have N10 := Fr.app N9 N10q
                            refine Gen.on (b := T10.setTop (mkF m 152 #[.val (.int p1)] [(.int (f3 p1 (262144 : Int32) (327677 : Int32)))])) ?_ (fun t k => st10 t k)
                            by_cases c152_14 : (f3 p1 (262144 : Int32) (327677 : Int32)) = (0 : Int32)
                            · refine Gen.on (b := T10.setTop (mkF m 157 #[.val (.int p1)] [])) ?_ (fun t k => XS.ifYes X10.here hx rfl (pc0 := 152) (pc' := 157) rfl (hb hby d2_152) rfl ((if0 _ _).trans (teq c152_14).1) (by decide) (by decide) k)
                              refine Gen.on (b := T10.setTop (mkF m 158 #[.val (.int p1)] [(.int p1)])) ?_ (fun t k => XS.iloadN X10.here hx rfl (hb hby d2_157) rfl k)
                              refine Gen.on (b := T10.setTop (mkF m 160 #[.val (.int p1)] [(.int (327680 : Int32)), (.int p1)])) ?_ (fun t k => X10.ldcInt hx hown (mvT hZ (hw _ (List.mem_of_getElem? (i := 24) rfl))) (g := (mkF m 158 #[.val (.int p1)] [(.int p1)])) rfl (hb hby d2_158) t k)
                              refine Gen.on (b := T10.setTop (mkF m 162 #[.val (.int p1)] [(.int (393213 : Int32)), (.int (327680 : Int32)), (.int p1)])) ?_ (fun t k => X10.ldcInt hx hown (mvT hZ (hw _ (List.mem_of_getElem? (i := 25) rfl))) (g := (mkF m 160 #[.val (.int p1)] [(.int (327680 : Int32)), (.int p1)])) rfl (hb hby d2_160) t k)
                              obtain ⟨_, _, ⟨T11, L11, k11, n11⟩, -, X11, ⟨Lc11, hQ11, l11, y11, z11⟩, st11⟩ := Jvm.LawKit.callS X10 hx (y := (⟨"com/example/mapwright/mapwright/mapping/StringTemplateIsIunreservedPinLaw", "in", "(III)Z"⟩ : MethodName)) hown (mvT hZ (hw _ (List.mem_of_getElem? (i := 8) rfl))) (mvT hZ (hw _ (List.mem_of_getElem? (i := 9) rfl))) (mvT hZ (hw _ (List.mem_of_getElem? (i := 6) rfl))) (mvT hZ (hw _ (List.mem_of_getElem? (i := 10) rfl))) (by decide) (backOf (W := 0) (rm3 l Z a0 hw [] p1 (327680 : Int32) (393213 : Int32)  h0 n0 Z0 ) hZ (hw _ (List.mem_of_getElem? (i := 10) rfl)) (hw _ (List.mem_of_getElem? (i := 6) rfl)) (by decide) (by decide)) (g := (mkF m 162 #[.val (.int p1)] [(.int (393213 : Int32)), (.int (327680 : Int32)), (.int p1)])) rfl (by rw [hml]; rfl) (argsL := [(.int p1), (.int (327680 : Int32)), (.int (393213 : Int32))]) (rest := []) (lenOf pd_2_0 rfl) rfl (by show 2 * 0 + _ ≤ _; exact Nat.le_of_eq rfl) (hb hby d2_162) (fun _ _ => ⟨rfl, e10, (by decide : 0 + 0 ≤ _), (by decide : 0 + 0 ≤ _)⟩)
                              dsimp only [Pt.U, Pt.locs, Pt.cells, Pt.slots] at X11 l11 y11 z11 st11 hQ11
                              subst l11 y11 z11
                              obtain ⟨rfl, N11q, e11⟩ := hQ11
                              have N11 := Fr.app N10 N11q
                              refine Gen.on (b := T11.setTop (mkF m 165 #[.val (.int p1)] [(.int (f3 p1 (327680 : Int32) (393213 : Int32)))])) ?_ (fun t k => st11 t k)
                              by_cases c165_15 : (f3 p1 (327680 : Int32) (393213 : Int32)) = (0 : Int32)
                              · refine Gen.on (b := T11.setTop (mkF m 170 #[.val (.int p1)] [])) ?_ (fun t k => XS.ifYes X11.here hx rfl (pc0 := 165) (pc' := 170) rfl (hb hby d2_165) rfl ((if0 _ _).trans (teq c165_15).1) (by decide) (by decide) k)
                                refine Gen.on (b := T11.setTop (mkF m 171 #[.val (.int p1)] [(.int p1)])) ?_ (fun t k => XS.iloadN X11.here hx rfl (hb hby d2_170) rfl k)
                                refine Gen.on (b := T11.setTop (mkF m 173 #[.val (.int p1)] [(.int (393216 : Int32)), (.int p1)])) ?_ (fun t k => X11.ldcInt hx hown (mvT hZ (hw _ (List.mem_of_getElem? (i := 26) rfl))) (g := (mkF m 171 #[.val (.int p1)] [(.int p1)])) rfl (hb hby d2_171) t k)
                                refine Gen.on (b := T11.setTop (mkF m 175 #[.val (.int p1)] [(.int (458749 : Int32)), (.int (393216 : Int32)), (.int p1)])) ?_ (fun t k => X11.ldcInt hx hown (mvT hZ (hw _ (List.mem_of_getElem? (i := 27) rfl))) (g := (mkF m 173 #[.val (.int p1)] [(.int (393216 : Int32)), (.int p1)])) rfl (hb hby d2_173) t k)
                                obtain ⟨_, _, ⟨T12, L12, k12, n12⟩, -, X12, ⟨Lc12, hQ12, l12, y12, z12⟩, st12⟩ := Jvm.LawKit.callS X11 hx (y := (⟨"com/example/mapwright/mapwright/mapping/StringTemplateIsIunreservedPinLaw", "in", "(III)Z"⟩ : MethodName)) hown (mvT hZ (hw _ (List.mem_of_getElem? (i := 8) rfl))) (mvT hZ (hw _ (List.mem_of_getElem? (i := 9) rfl))) (mvT hZ (hw _ (List.mem_of_getElem? (i := 6) rfl))) (mvT hZ (hw _ (List.mem_of_getElem? (i := 10) rfl))) (by decide) (backOf (W := 0) (rm3 l Z a0 hw [] p1 (393216 : Int32) (458749 : Int32)  h0 n0 Z0 ) hZ (hw _ (List.mem_of_getElem? (i := 10) rfl)) (hw _ (List.mem_of_getElem? (i := 6) rfl)) (by decide) (by decide)) (g := (mkF m 175 #[.val (.int p1)] [(.int (458749 : Int32)), (.int (393216 : Int32)), (.int p1)])) rfl (by rw [hml]; rfl) (argsL := [(.int p1), (.int (393216 : Int32)), (.int (458749 : Int32))]) (rest := []) (lenOf pd_2_0 rfl) rfl (by show 2 * 0 + _ ≤ _; exact Nat.le_of_eq rfl) (hb hby d2_175) (fun _ _ => ⟨rfl, e11, (by decide : 0 + 0 ≤ _), (by decide : 0 + 0 ≤ _)⟩)
                                dsimp only [Pt.U, Pt.locs, Pt.cells, Pt.slots] at X12 l12 y12 z12 st12 hQ12
                                subst l12 y12 z12
                                obtain ⟨rfl, N12q, e12⟩ := hQ12
                                have N12 := Fr.app N11 N12q
                                refine Gen.on (b := T12.setTop (mkF m 178 #[.val (.int p1)] [(.int (f3 p1 (393216 : Int32) (458749 : Int32)))])) ?_ (fun t k => st12 t k)
                                by_cases c178_16 : (f3 p1 (393216 : Int32) (458749 : Int32)) = (0 : Int32)
                                · refine Gen.on (b := T12.setTop (mkF m 183 #[.val (.int p1)] [])) ?_ (fun t k => XS.ifYes X12.here hx rfl (pc0 := 178) (pc' := 183) rfl (hb hby d2_178) rfl ((if0 _ _).trans (teq c178_16).1) (by decide) (by decide) k)
                                  refine Gen.on (b := T12.setTop (mkF m 184 #[.val (.int p1)] [(.int p1)])) ?_ (fun t k => XS.iloadN X12.here hx rfl (hb hby d2_183) rfl k)
                                  refine Gen.on (b := T12.setTop (mkF m 186 #[.val (.int p1)] [(.int (458752 : Int32)), (.int p1)])) ?_ (fun t k => X12.ldcInt hx hown (mvT hZ (hw _ (List.mem_of_getElem? (i := 28) rfl))) (g := (mkF m 184 #[.val (.int p1)] [(.int p1)])) rfl (hb hby d2_184) t k)
                                  refine Gen.on (b := T12.setTop (mkF m 188 #[.val (.int p1)] [(.int (524285 : Int32)), (.int (458752 : Int32)), (.int p1)])) ?_ (fun t k => X12.ldcInt hx hown (mvT hZ (hw _ (List.mem_of_getElem? (i := 29) rfl))) (g := (mkF m 186 #[.val (.int p1)] [(.int (458752 : Int32)), (.int p1)])) rfl (hb hby d2_186) t k)
                                  obtain ⟨_, _, ⟨T13, L13, k13, n13⟩, -, X13, ⟨Lc13, hQ13, l13, y13, z13⟩, st13⟩ := Jvm.LawKit.callS X12 hx (y := (⟨"com/example/mapwright/mapwright/mapping/StringTemplateIsIunreservedPinLaw", "in", "(III)Z"⟩ : MethodName)) hown (mvT hZ (hw _ (List.mem_of_getElem? (i := 8) rfl))) (mvT hZ (hw _ (List.mem_of_getElem? (i := 9) rfl))) (mvT hZ (hw _ (List.mem_of_getElem? (i := 6) rfl))) (mvT hZ (hw _ (List.mem_of_getElem? (i := 10) rfl))) (by decide) (backOf (W := 0) (rm3 l Z a0 hw [] p1 (458752 : Int32) (524285 : Int32)  h0 n0 Z0 ) hZ (hw _ (List.mem_of_getElem? (i := 10) rfl)) (hw _ (List.mem_of_getElem? (i := 6) rfl)) (by decide) (by decide)) (g := (mkF m 188 #[.val (.int p1)] [(.int (524285 : Int32)), (.int (458752 : Int32)), (.int p1)])) rfl (by rw [hml]; rfl) (argsL := [(.int p1), (.int (458752 : Int32)), (.int (524285 : Int32))]) (rest := []) (lenOf pd_2_0 rfl) rfl (by show 2 * 0 + _ ≤ _; exact Nat.le_of_eq rfl) (hb hby d2_188) (fun _ _ => ⟨rfl, e12, (by decide : 0 + 0 ≤ _), (by decide : 0 + 0 ≤ _)⟩)
                                  dsimp only [Pt.U, Pt.locs, Pt.cells, Pt.slots] at X13 l13 y13 z13 st13 hQ13
                                  subst l13 y13 z13
                                  obtain ⟨rfl, N13q, e13⟩ := hQ13
                                  have N13 := Fr.app N12 N13q
                                  refine Gen.on (b := T13.setTop (mkF m 191 #[.val (.int p1)] [(.int (f3 p1 (458752 : Int32) (524285 : Int32)))])) ?_ (fun t k => st13 t k)
                                  by_cases c191_17 : (f3 p1 (458752 : Int32) (524285 : Int32)) = (0 : Int32)
                                  · refine Gen.on (b := T13.setTop (mkF m 196 #[.val (.int p1)] [])) ?_ (fun t k => XS.ifYes X13.here hx rfl (pc0 := 191) (pc' := 196) rfl (hb hby d2_191) rfl ((if0 _ _).trans (teq c191_17).1) (by decide) (by decide) k)
                                    refine Gen.on (b := T13.setTop (mkF m 197 #[.val (.int p1)] [(.int p1)])) ?_ (fun t k => XS.iloadN X13.here hx rfl (hb hby d2_196) rfl k)
                                    refine Gen.on (b := T13.setTop (mkF m 199 #[.val (.int p1)] [(.int (524288 : Int32)), (.int p1)])) ?_ (fun t k => X13.ldcInt hx hown (mvT hZ (hw _ (List.mem_of_getElem? (i := 30) rfl))) (g := (mkF m 197 #[.val (.int p1)] [(.int p1)])) rfl (hb hby d2_197) t k)
                                    refine Gen.on (b := T13.setTop (mkF m 201 #[.val (.int p1)] [(.int (589821 : Int32)), (.int (524288 : Int32)), (.int p1)])) ?_ (fun t k => X13.ldcInt hx hown (mvT hZ (hw _ (List.mem_of_getElem? (i := 31) rfl))) (g := (mkF m 199 #[.val (.int p1)] [(.int (524288 : Int32)), (.int p1)])) rfl (hb hby d2_199) t k)
                                    obtain ⟨_, _, ⟨T14, L14, k14, n14⟩, -, X14, ⟨Lc14, hQ14, l14, y14, z14⟩, st14⟩ := Jvm.LawKit.callS X13 hx (y := (⟨"com/example/mapwright/mapwright/mapping/StringTemplateIsIunreservedPinLaw", "in", "(III)Z"⟩ : MethodName)) hown (mvT hZ (hw _ (List.mem_of_getElem? (i := 8) rfl))) (mvT hZ (hw _ (List.mem_of_getElem? (i := 9) rfl))) (mvT hZ (hw _ (List.mem_of_getElem? (i := 6) rfl))) (mvT hZ (hw _ (List.mem_of_getElem? (i := 10) rfl))) (by decide) (backOf (W := 0) (rm3 l Z a0 hw [] p1 (524288 : Int32) (589821 : Int32)  h0 n0 Z0 ) hZ (hw _ (List.mem_of_getElem? (i := 10) rfl)) (hw _ (List.mem_of_getElem? (i := 6) rfl)) (by decide) (by decide)) (g := (mkF m 201 #[.val (.int p1)] [(.int (589821 : Int32)), (.int (524288 : Int32)), (.int p1)])) rfl (by rw [hml]; rfl) (argsL := [(.int p1), (.int (524288 : Int32)), (.int (589821 : Int32))]) (rest := []) (lenOf pd_2_0 rfl) rfl (by show 2 * 0 + _ ≤ _; exact Nat.le_of_eq rfl) (hb hby d2_201) (fun _ _ => ⟨rfl, e13, (by decide : 0 + 0 ≤ _), (by decide : 0 + 0 ≤ _)⟩)
                                    dsimp only [Pt.U, Pt.locs, Pt.cells, Pt.slots] at X14 l14 y14 z14 st14 hQ14
                                    subst l14 y14 z14
                                    obtain ⟨rfl, N14q, e14⟩ := hQ14
                                    have N14 := Fr.app N13 N14q
                                    refine Gen.on (b := T14.setTop (mkF m 204 #[.val (.int p1)] [(.int (f3 p1 (524288 : Int32) (589821 : Int32)))])) ?_ (fun t k => st14 t k)
                                    by_cases c204_18 : (f3 p1 (524288 : Int32) (589821 : Int32)) = (0 : Int32)
                                    · refine Gen.on (b := T14.setTop (mkF m 209 #[.val (.int p1)] [])) ?_ (fun t k => XS.ifYes X14.here hx rfl (pc0 := 204) (pc' := 209) rfl (hb hby d2_204) rfl ((if0 _ _).trans (teq c204_18).1) (by decide) (by decide) k)
                                      refine Gen.on (b := T14.setTop (mkF m 210 #[.val (.int p1)] [(.int p1)])) ?_ (fun t k => XS.iloadN X14.here hx rfl (hb hby d2_209) rfl k)
                                      refine Gen.on (b := T14.setTop (mkF m 212 #[.val (.int p1)] [(.int (589824 : Int32)), (.int p1)])) ?_ (fun t k => X14.ldcInt hx hown (mvT hZ (hw _ (List.mem_of_getElem? (i := 32) rfl))) (g := (mkF m 210 #[.val (.int p1)] [(.int p1)])) rfl (hb hby d2_210) t k)
                                      refine Gen.on (b := T14.setTop (mkF m 214 #[.val (.int p1)] [(.int (655357 : Int32)), (.int (589824 : Int32)), (.int p1)])) ?_ (fun t k => X14.ldcInt hx hown (mvT hZ (hw _ (List.mem_of_getElem? (i := 33) rfl))) (g := (mkF m 212 #[.val (.int p1)] [(.int (589824 : Int32)), (.int p1)])) rfl (hb hby d2_212) t k)
                                      obtain ⟨_, _, ⟨T15, L15, k15, n15⟩, -, X15, ⟨Lc15, hQ15, l15, y15, z15⟩, st15⟩ := Jvm.LawKit.callS X14 hx (y := (⟨"com/example/mapwright/mapwright/mapping/StringTemplateIsIunreservedPinLaw", "in", "(III)Z"⟩ : MethodName)) hown (mvT hZ (hw _ (List.mem_of_getElem? (i := 8) rfl))) (mvT hZ (hw _ (List.mem_of_getElem? (i := 9) rfl))) (mvT hZ (hw _ (List.mem_of_getElem? (i := 6) rfl))) (mvT hZ (hw _ (List.mem_of_getElem? (i := 10) rfl))) (by decide) (backOf (W := 0) (rm3 l Z a0 hw [] p1 (589824 : Int32) (655357 : Int32)  h0 n0 Z0 ) hZ (hw _ (List.mem_of_getElem? (i := 10) rfl)) (hw _ (List.mem_of_getElem? (i := 6) rfl)) (by decide) (by decide)) (g := (mkF m 214 #[.val (.int p1)] [(.int (655357 : Int32)), (.int (589824 : Int32)), (.int p1)])) rfl (by rw [hml]; rfl) (argsL := [(.int p1), (.int (589824 : Int32)), (.int (655357 : Int32))]) (rest := []) (lenOf pd_2_0 rfl) rfl (by show 2 * 0 + _ ≤ _; exact Nat.le_of_eq rfl) (hb hby d2_214) (fun _ _ => ⟨rfl, e14, (by decide : 0 + 0 ≤ _), (by decide : 0 + 0 ≤ _)⟩)
                                      dsimp only [Pt.U, Pt.locs, Pt.cells, Pt.slots] at X15 l15 y15 z15 st15 hQ15
                                      subst l15 y15 z15
                                      obtain ⟨rfl, N15q, e15⟩ := hQ15
                                      have N15 := Fr.app N14 N15q
                                      refine Gen.on (b := T15.setTop (mkF m 217 #[.val (.int p1)] [(.int (f3 p1 (589824 : Int32) (655357 : Int32)))])) ?_ (fun t k => st15 t k)
                                      by_cases c217_19 : (f3 p1 (589824 : Int32) (655357 : Int32)) = (0 : Int32)
                                      · refine Gen.on (b := T15.setTop (mkF m 222 #[.val (.int p1)] [])) ?_ (fun t k => XS.ifYes X15.here hx rfl (pc0 := 217) (pc' := 222) rfl (hb hby d2_217) rfl ((if0 _ _).trans (teq c217_19).1) (by decide) (by decide) k)
                                        refine Gen.on (b := T15.setTop (mkF m 223 #[.val (.int p1)] [(.int p1)])) ?_ (fun t k => XS.iloadN X15.here hx rfl (hb hby d2_222) rfl k)
                                        refine Gen.on (b := T15.setTop (mkF m 225 #[.val (.int p1)] [(.int (655360 : Int32)), (.int p1)])) ?_ (fun t k => X15.ldcInt hx hown (mvT hZ (hw _ (List.mem_of_getElem? (i := 34) rfl))) (g := (mkF m 223 #[.val (.int p1)] [(.int p1)])) rfl (hb hby d2_223) t k)
                                        refine Gen.on (b := T15.setTop (mkF m 227 #[.val (.int p1)] [(.int (720893 : Int32)), (.int (655360 : Int32)), (.int p1)])) ?_ (fun t k => X15.ldcInt hx hown (mvT hZ (hw _ (List.mem_of_getElem? (i := 35) rfl))) (g := (mkF m 225 #[.val (.int p1)] [(.int (655360 : Int32)), (.int p1)])) rfl (hb hby d2_225) t k)
                                        obtain ⟨_, _, ⟨T16, L16, k16, n16⟩, -, X16, ⟨Lc16, hQ16, l16, y16, z16⟩, st16⟩ := Jvm.LawKit.callS X15 hx (y := (⟨"com/example/mapwright/mapwright/mapping/StringTemplateIsIunreservedPinLaw", "in", "(III)Z"⟩ : MethodName)) hown (mvT hZ (hw _ (List.mem_of_getElem? (i := 8) rfl))) (mvT hZ (hw _ (List.mem_of_getElem? (i := 9) rfl))) (mvT hZ (hw _ (List.mem_of_getElem? (i := 6) rfl))) (mvT hZ (hw _ (List.mem_of_getElem? (i := 10) rfl))) (by decide) (backOf (W := 0) (rm3 l Z a0 hw [] p1 (655360 : Int32) (720893 : Int32)  h0 n0 Z0 ) hZ (hw _ (List.mem_of_getElem? (i := 10) rfl)) (hw _ (List.mem_of_getElem? (i := 6) rfl)) (by decide) (by decide)) (g := (mkF m 227 #[.val (.int p1)] [(.int (720893 : Int32)), (.int (655360 : Int32)), (.int p1)])) rfl (by rw [hml]; rfl) (argsL := [(.int p1), (.int (655360 : Int32)), (.int (720893 : Int32))]) (rest := []) (lenOf pd_2_0 rfl) rfl (by show 2 * 0 + _ ≤ _; exact Nat.le_of_eq rfl) (hb hby d2_227) (fun _ _ => ⟨rfl, e15, (by decide : 0 + 0 ≤ _), (by decide : 0 + 0 ≤ _)⟩)
                                        dsimp only [Pt.U, Pt.locs, Pt.cells, Pt.slots] at X16 l16 y16 z16 st16 hQ16
                                        subst l16 y16 z16
                                        obtain ⟨rfl, N16q, e16⟩ := hQ16
                                        have N16 := Fr.app N15 N16q
                                        refine Gen.on (b := T16.setTop (mkF m 230 #[.val (.int p1)] [(.int (f3 p1 (655360 : Int32) (720893 : Int32)))])) ?_ (fun t k => st16 t k)
                                        by_cases c230_20 : (f3 p1 (655360 : Int32) (720893 : Int32)) = (0 : Int32)
                                        · refine Gen.on (b := T16.setTop (mkF m 235 #[.val (.int p1)] [])) ?_ (fun t k => XS.ifYes X16.here hx rfl (pc0 := 230) (pc' := 235) rfl (hb hby d2_230) rfl ((if0 _ _).trans (teq c230_20).1) (by decide) (by decide) k)
                                          refine Gen.on (b := T16.setTop (mkF m 236 #[.val (.int p1)] [(.int p1)])) ?_ (fun t k => XS.iloadN X16.here hx rfl (hb hby d2_235) rfl k)
                                          refine Gen.on (b := T16.setTop (mkF m 238 #[.val (.int p1)] [(.int (720896 : Int32)), (.int p1)])) ?_ (fun t k => X16.ldcInt hx hown (mvT hZ (hw _ (List.mem_of_getElem? (i := 36) rfl))) (g := (mkF m 236 #[.val (.int p1)] [(.int p1)])) rfl (hb hby d2_236) t k)
                                          refine Gen.on (b := T16.setTop (mkF m 240 #[.val (.int p1)] [(.int (786429 : Int32)), (.int (720896 : Int32)), (.int p1)])) ?_ (fun t k => X16.ldcInt hx hown (mvT hZ (hw _ (List.mem_of_getElem? (i := 37) rfl))) (g := (mkF m 238 #[.val (.int p1)] [(.int (720896 : Int32)), (.int p1)])) rfl (hb hby d2_238) t k)
                                          obtain ⟨_, _, ⟨T17, L17, k17, n17⟩, -, X17, ⟨Lc17, hQ17, l17, y17, z17⟩, st17⟩ := Jvm.LawKit.callS X16 hx (y := (⟨"com/example/mapwright/mapwright/mapping/StringTemplateIsIunreservedPinLaw", "in", "(III)Z"⟩ : MethodName)) hown (mvT hZ (hw _ (List.mem_of_getElem? (i := 8) rfl))) (mvT hZ (hw _ (List.mem_of_getElem? (i := 9) rfl))) (mvT hZ (hw _ (List.mem_of_getElem? (i := 6) rfl))) (mvT hZ (hw _ (List.mem_of_getElem? (i := 10) rfl))) (by decide) (backOf (W := 0) (rm3 l Z a0 hw [] p1 (720896 : Int32) (786429 : Int32)  h0 n0 Z0 ) hZ (hw _ (List.mem_of_getElem? (i := 10) rfl)) (hw _ (List.mem_of_getElem? (i := 6) rfl)) (by decide) (by decide)) (g := (mkF m 240 #[.val (.int p1)] [(.int (786429 : Int32)), (.int (720896 : Int32)), (.int p1)])) rfl (by rw [hml]; rfl) (argsL := [(.int p1), (.int (720896 : Int32)), (.int (786429 : Int32))]) (rest := []) (lenOf pd_2_0 rfl) rfl (by show 2 * 0 + _ ≤ _; exact Nat.le_of_eq rfl) (hb hby d2_240) (fun _ _ => ⟨rfl, e16, (by decide : 0 + 0 ≤ _), (by decide : 0 + 0 ≤ _)⟩)
                                          dsimp only [Pt.U, Pt.locs, Pt.cells, Pt.slots] at X17 l17 y17 z17 st17 hQ17
                                          subst l17 y17 z17
                                          obtain ⟨rfl, N17q, e17⟩ := hQ17
                                          have N17 := Fr.app N16 N17q
                                          refine Gen.on (b := T17.setTop (mkF m 243 #[.val (.int p1)] [(.int (f3 p1 (720896 : Int32) (786429 : Int32)))])) ?_ (fun t k => st17 t k)
                                          by_cases c243_21 : (f3 p1 (720896 : Int32) (786429 : Int32)) = (0 : Int32)
                                          · refine Gen.on (b := T17.setTop (mkF m 248 #[.val (.int p1)] [])) ?_ (fun t k => XS.ifYes X17.here hx rfl (pc0 := 243) (pc' := 248) rfl (hb hby d2_243) rfl ((if0 _ _).trans (teq c243_21).1) (by decide) (by decide) k)
                                            refine Gen.on (b := T17.setTop (mkF m 249 #[.val (.int p1)] [(.int p1)])) ?_ (fun t k => XS.iloadN X17.here hx rfl (hb hby d2_248) rfl k)
                                            refine Gen.on (b := T17.setTop (mkF m 251 #[.val (.int p1)] [(.int (786432 : Int32)), (.int p1)])) ?_ (fun t k => X17.ldcInt hx hown (mvT hZ (hw _ (List.mem_of_getElem? (i := 38) rfl))) (g := (mkF m 249 #[.val (.int p1)] [(.int p1)])) rfl (hb hby d2_249) t k)
                                            refine Gen.on (b := T17.setTop (mkF m 253 #[.val (.int p1)] [(.int (851965 : Int32)), (.int (786432 : Int32)), (.int p1)])) ?_ (fun t k => X17.ldcInt hx hown (mvT hZ (hw _ (List.mem_of_getElem? (i := 39) rfl))) (g := (mkF m 251 #[.val (.int p1)] [(.int (786432 : Int32)), (.int p1)])) rfl (hb hby d2_251) t k)
                                            obtain ⟨_, _, ⟨T18, L18, k18, n18⟩, -, X18, ⟨Lc18, hQ18, l18, y18, z18⟩, st18⟩ := Jvm.LawKit.callS X17 hx (y := (⟨"com/example/mapwright/mapwright/mapping/StringTemplateIsIunreservedPinLaw", "in", "(III)Z"⟩ : MethodName)) hown (mvT hZ (hw _ (List.mem_of_getElem? (i := 8) rfl))) (mvT hZ (hw _ (List.mem_of_getElem? (i := 9) rfl))) (mvT hZ (hw _ (List.mem_of_getElem? (i := 6) rfl))) (mvT hZ (hw _ (List.mem_of_getElem? (i := 10) rfl))) (by decide) (backOf (W := 0) (rm3 l Z a0 hw [] p1 (786432 : Int32) (851965 : Int32)  h0 n0 Z0 ) hZ (hw _ (List.mem_of_getElem? (i := 10) rfl)) (hw _ (List.mem_of_getElem? (i := 6) rfl)) (by decide) (by decide)) (g := (mkF m 253 #[.val (.int p1)] [(.int (851965 : Int32)), (.int (786432 : Int32)), (.int p1)])) rfl (by rw [hml]; rfl) (argsL := [(.int p1), (.int (786432 : Int32)), (.int (851965 : Int32))]) (rest := []) (lenOf pd_2_0 rfl) rfl (by show 2 * 0 + _ ≤ _; exact Nat.le_of_eq rfl) (hb hby d2_253) (fun _ _ => ⟨rfl, e17, (by decide : 0 + 0 ≤ _), (by decide : 0 + 0 ≤ _)⟩)
                                            dsimp only [Pt.U, Pt.locs, Pt.cells, Pt.slots] at X18 l18 y18 z18 st18 hQ18
                                            subst l18 y18 z18
                                            obtain ⟨rfl, N18q, e18⟩ := hQ18
                                            have N18 := Fr.app N17 N18q
                                            refine Gen.on (b := T18.setTop (mkF m 256 #[.val (.int p1)] [(.int (f3 p1 (786432 : Int32) (851965 : Int32)))])) ?_ (fun t k => st18 t k)
                                            by_cases c256_22 : (f3 p1 (786432 : Int32) (851965 : Int32)) = (0 : Int32)
                                            · refine Gen.on (b := T18.setTop (mkF m 261 #[.val (.int p1)] [])) ?_ (fun t k => XS.ifYes X18.here hx rfl (pc0 := 256) (pc' := 261) rfl (hb hby d2_256) rfl ((if0 _ _).trans (teq c256_22).1) (by decide) (by decide) k)
                                              refine Gen.on (b := T18.setTop (mkF m 262 #[.val (.int p1)] [(.int p1)])) ?_ (fun t k => XS.iloadN X18.here hx rfl (hb hby d2_261) rfl k)
                                              refine Gen.on (b := T18.setTop (mkF m 264 #[.val (.int p1)] [(.int (851968 : Int32)), (.int p1)])) ?_ (fun t k => X18.ldcInt hx hown (mvT hZ (hw _ (List.mem_of_getElem? (i := 40) rfl))) (g := (mkF m 262 #[.val (.int p1)] [(.int p1)])) rfl (hb hby d2_262) t k)
                                              refine Gen.on (b := T18.setTop (mkF m 266 #[.val (.int p1)] [(.int (917501 : Int32)), (.int (851968 : Int32)), (.int p1)])) ?_ (fun t k => X18.ldcInt hx hown (mvT hZ (hw _ (List.mem_of_getElem? (i := 41) rfl))) (g := (mkF m 264 #[.val (.int p1)] [(.int (851968 : Int32)), (.int p1)])) rfl (hb hby d2_264) t k)
                                              obtain ⟨_, _, ⟨T19, L19, k19, n19⟩, -, X19, ⟨Lc19, hQ19, l19, y19, z19⟩, st19⟩ := Jvm.LawKit.callS X18 hx (y := (⟨"com/example/mapwright/mapwright/mapping/StringTemplateIsIunreservedPinLaw", "in", "(III)Z"⟩ : MethodName)) hown (mvT hZ (hw _ (List.mem_of_getElem? (i := 8) rfl))) (mvT hZ (hw _ (List.mem_of_getElem? (i := 9) rfl))) (mvT hZ (hw _ (List.mem_of_getElem? (i := 6) rfl))) (mvT hZ (hw _ (List.mem_of_getElem? (i := 10) rfl))) (by decide) (backOf (W := 0) (rm3 l Z a0 hw [] p1 (851968 : Int32) (917501 : Int32)  h0 n0 Z0 ) hZ (hw _ (List.mem_of_getElem? (i := 10) rfl)) (hw _ (List.mem_of_getElem? (i := 6) rfl)) (by decide) (by decide)) (g := (mkF m 266 #[.val (.int p1)] [(.int (917501 : Int32)), (.int (851968 : Int32)), (.int p1)])) rfl (by rw [hml]; rfl) (argsL := [(.int p1), (.int (851968 : Int32)), (.int (917501 : Int32))]) (rest := []) (lenOf pd_2_0 rfl) rfl (by show 2 * 0 + _ ≤ _; exact Nat.le_of_eq rfl) (hb hby d2_266) (fun _ _ => ⟨rfl, e18, (by decide : 0 + 0 ≤ _), (by decide : 0 + 0 ≤ _)⟩)
                                              dsimp only [Pt.U, Pt.locs, Pt.cells, Pt.slots] at X19 l19 y19 z19 st19 hQ19
                                              subst l19 y19 z19
                                              obtain ⟨rfl, N19q, e19⟩ := hQ19
                                              have N19 := Fr.app N18 N19q
                                              refine Gen.on (b := T19.setTop (mkF m 269 #[.val (.int p1)] [(.int (f3 p1 (851968 : Int32) (917501 : Int32)))])) ?_ (fun t k => st19 t k)
                                              by_cases c269_23 : (f3 p1 (851968 : Int32) (917501 : Int32)) = (0 : Int32)
                                              · refine Gen.on (b := T19.setTop (mkF m 274 #[.val (.int p1)] [])) ?_ (fun t k => XS.ifYes X19.here hx rfl (pc0 := 269) (pc' := 274) rfl (hb hby d2_269) rfl ((if0 _ _).trans (teq c269_23).1) (by decide) (by decide) k)
                                                refine Gen.on (b := T19.setTop (mkF m 275 #[.val (.int p1)] [(.int p1)])) ?_ (fun t k => XS.iloadN X19.here hx rfl (hb hby d2_274) rfl k)
                                                refine Gen.on (b := T19.setTop (mkF m 277 #[.val (.int p1)] [(.int (921600 : Int32)), (.int p1)])) ?_ (fun t k => X19.ldcInt hx hown (mvT hZ (hw _ (List.mem_of_getElem? (i := 42) rfl))) (g := (mkF m 275 #[.val (.int p1)] [(.int p1)])) rfl (hb hby d2_275) t k)
                                                refine Gen.on (b := T19.setTop (mkF m 279 #[.val (.int p1)] [(.int (983037 : Int32)), (.int (921600 : Int32)), (.int p1)])) ?_ (fun t k => X19.ldcInt hx hown (mvT hZ (hw _ (List.mem_of_getElem? (i := 43) rfl))) (g := (mkF m 277 #[.val (.int p1)] [(.int (921600 : Int32)), (.int p1)])) rfl (hb hby d2_277) t k)
                                                obtain ⟨_, _, ⟨T20, L20, k20, n20⟩, -, X20, ⟨Lc20, hQ20, l20, y20, z20⟩, st20⟩ := Jvm.LawKit.callS X19 hx (y := (⟨"com/example/mapwright/mapwright/mapping/StringTemplateIsIunreservedPinLaw", "in", "(III)Z"⟩ : MethodName)) hown (mvT hZ (hw _ (List.mem_of_getElem? (i := 8) rfl))) (mvT hZ (hw _ (List.mem_of_getElem? (i := 9) rfl))) (mvT hZ (hw _ (List.mem_of_getElem? (i := 6) rfl))) (mvT hZ (hw _ (List.mem_of_getElem? (i := 10) rfl))) (by decide) (backOf (W := 0) (rm3 l Z a0 hw [] p1 (921600 : Int32) (983037 : Int32)  h0 n0 Z0 ) hZ (hw _ (List.mem_of_getElem? (i := 10) rfl)) (hw _ (List.mem_of_getElem? (i := 6) rfl)) (by decide) (by decide)) (g := (mkF m 279 #[.val (.int p1)] [(.int (983037 : Int32)), (.int (921600 : Int32)), (.int p1)])) rfl (by rw [hml]; rfl) (argsL := [(.int p1), (.int (921600 : Int32)), (.int (983037 : Int32))]) (rest := []) (lenOf pd_2_0 rfl) rfl (by show 2 * 0 + _ ≤ _; exact Nat.le_of_eq rfl) (hb hby d2_279) (fun _ _ => ⟨rfl, e19, (by decide : 0 + 0 ≤ _), (by decide : 0 + 0 ≤ _)⟩)
                                                dsimp only [Pt.U, Pt.locs, Pt.cells, Pt.slots] at X20 l20 y20 z20 st20 hQ20
                                                subst l20 y20 z20
                                                obtain ⟨rfl, N20q, e20⟩ := hQ20
                                                have N20 := Fr.app N19 N20q
                                                refine Gen.on (b := T20.setTop (mkF m 282 #[.val (.int p1)] [(.int (f3 p1 (921600 : Int32) (983037 : Int32)))])) ?_ (fun t k => st20 t k)
                                                by_cases c282_24 : (f3 p1 (921600 : Int32) (983037 : Int32)) = (0 : Int32)
                                                · refine Gen.on (b := T20.setTop (mkF m 287 #[.val (.int p1)] [])) ?_ (fun t k => XS.ifYes X20.here hx rfl (pc0 := 282) (pc' := 287) rfl (hb hby d2_282) rfl ((if0 _ _).trans (teq c282_24).1) (by decide) (by decide) k)
                                                  refine Gen.on (b := T20.setTop (mkF m 288 #[.val (.int p1)] [(.int (0 : Int32))])) ?_ (fun t k => XS.iconst X20.here hx rfl (hb hby d2_287) k)
                                                  refine own_retN (t := .boolean) X20 hx Bd.returns (by simp) (by decide) (hb hby d2_288) (by decide) (by decide) ?_
                                                  exact hq _ _ _ (by simp only [f2, if_pos c8_1, if_pos c21_2, if_pos c34_3, if_neg c42_4, if_neg c48_5, if_neg c54_6, if_neg c60_7, if_pos c74_8, if_pos c87_9, if_pos c100_10, if_pos c113_11, if_pos c126_12, if_pos c139_13, if_pos c152_14, if_pos c165_15, if_pos c178_16, if_pos c191_17, if_pos c204_18, if_pos c217_19, if_pos c230_20, if_pos c243_21, if_pos c256_22, if_pos c269_23, if_pos c282_24]) N20 e20
                                                · refine Gen.on (b := T20.setTop (mkF m 285 #[.val (.int p1)] [])) ?_ (fun t k => XS.ifNo X20.here hx rfl (hb hby d2_282) rfl ((if0 _ _).trans (feq c282_24).1) k)
                                                  refine Gen.on (b := T20.setTop (mkF m 286 #[.val (.int p1)] [(.int (1 : Int32))])) ?_ (fun t k => XS.iconst X20.here hx rfl (hb hby d2_285) k)
                                                  refine own_retN (t := .boolean) X20 hx Bd.returns (by simp) (by decide) (hb hby d2_286) (by decide) (by decide) ?_
                                                  exact hq _ _ _ (by simp only [f2, if_pos c8_1, if_pos c21_2, if_pos c34_3, if_neg c42_4, if_neg c48_5, if_neg c54_6, if_neg c60_7, if_pos c74_8, if_pos c87_9, if_pos c100_10, if_pos c113_11, if_pos c126_12, if_pos c139_13, if_pos c152_14, if_pos c165_15, if_pos c178_16, if_pos c191_17, if_pos c204_18, if_pos c217_19, if_pos c230_20, if_pos c243_21, if_pos c256_22, if_pos c269_23, if_neg c282_24]) N20 e20
                                              · refine Gen.on (b := T19.setTop (mkF m 272 #[.val (.int p1)] [])) ?_ (fun t k => XS.ifNo X19.here hx rfl (hb hby d2_269) rfl ((if0 _ _).trans (feq c269_23).1) k)
                                                refine Gen.on (b := T19.setTop (mkF m 273 #[.val (.int p1)] [(.int (1 : Int32))])) ?_ (fun t k => XS.iconst X19.here hx rfl (hb hby d2_272) k)
                                                refine own_retN (t := .boolean) X19 hx Bd.returns (by simp) (by decide) (hb hby d2_273) (by decide) (by decide) ?_
                                                exact hq _ _ _ (by simp only [f2, if_pos c8_1, if_pos c21_2, if_pos c34_3, if_neg c42_4, if_neg c48_5, if_neg c54_6, if_neg c60_7, if_pos c74_8, if_pos c87_9, if_pos c100_10, if_pos c113_11, if_pos c126_12, if_pos c139_13, if_pos c152_14, if_pos c165_15, if_pos c178_16, if_pos c191_17, if_pos c204_18, if_pos c217_19, if_pos c230_20, if_pos c243_21, if_pos c256_22, if_neg c269_23]) N19 e19
                                            · refine Gen.on (b := T18.setTop (mkF m 259 #[.val (.int p1)] [])) ?_ (fun t k => XS.ifNo X18.here hx rfl (hb hby d2_256) rfl ((if0 _ _).trans (feq c256_22).1) k)
                                              refine Gen.on (b := T18.setTop (mkF m 260 #[.val (.int p1)] [(.int (1 : Int32))])) ?_ (fun t k => XS.iconst X18.here hx rfl (hb hby d2_259) k)
                                              refine own_retN (t := .boolean) X18 hx Bd.returns (by simp) (by decide) (hb hby d2_260) (by decide) (by decide) ?_
                                              exact hq _ _ _ (by simp only [f2, if_pos c8_1, if_pos c21_2, if_pos c34_3, if_neg c42_4, if_neg c48_5, if_neg c54_6, if_neg c60_7, if_pos c74_8, if_pos c87_9, if_pos c100_10, if_pos c113_11, if_pos c126_12, if_pos c139_13, if_pos c152_14, if_pos c165_15, if_pos c178_16, if_pos c191_17, if_pos c204_18, if_pos c217_19, if_pos c230_20, if_pos c243_21, if_neg c256_22]) N18 e18
                                          · refine Gen.on (b := T17.setTop (mkF m 246 #[.val (.int p1)] [])) ?_ (fun t k => XS.ifNo X17.here hx rfl (hb hby d2_243) rfl ((if0 _ _).trans (feq c243_21).1) k)
                                            refine Gen.on (b := T17.setTop (mkF m 247 #[.val (.int p1)] [(.int (1 : Int32))])) ?_ (fun t k => XS.iconst X17.here hx rfl (hb hby d2_246) k)
                                            refine own_retN (t := .boolean) X17 hx Bd.returns (by simp) (by decide) (hb hby d2_247) (by decide) (by decide) ?_
                                            exact hq _ _ _ (by simp only [f2, if_pos c8_1, if_pos c21_2, if_pos c34_3, if_neg c42_4, if_neg c48_5, if_neg c54_6, if_neg c60_7, if_pos c74_8, if_pos c87_9, if_pos c100_10, if_pos c113_11, if_pos c126_12, if_pos c139_13, if_pos c152_14, if_pos c165_15, if_pos c178_16, if_pos c191_17, if_pos c204_18, if_pos c217_19, if_pos c230_20, if_neg c243_21]) N17 e17
                                        · refine Gen.on (b := T16.setTop (mkF m 233 #[.val (.int p1)] [])) ?_ (fun t k => XS.ifNo X16.here hx rfl (hb hby d2_230) rfl ((if0 _ _).trans (feq c230_20).1) k)
                                          refine Gen.on (b := T16.setTop (mkF m 234 #[.val (.int p1)] [(.int (1 : Int32))])) ?_ (fun t k => XS.iconst X16.here hx rfl (hb hby d2_233) k)
                                          refine own_retN (t := .boolean) X16 hx Bd.returns (by simp) (by decide) (hb hby d2_234) (by decide) (by decide) ?_
                                          exact hq _ _ _ (by simp only [f2, if_pos c8_1, if_pos c21_2, if_pos c34_3, if_neg c42_4, if_neg c48_5, if_neg c54_6, if_neg c60_7, if_pos c74_8, if_pos c87_9, if_pos c100_10, if_pos c113_11, if_pos c126_12, if_pos c139_13, if_pos c152_14, if_pos c165_15, if_pos c178_16, if_pos c191_17, if_pos c204_18, if_pos c217_19, if_neg c230_20]) N16 e16
                                      · refine Gen.on (b := T15.setTop (mkF m 220 #[.val (.int p1)] [])) ?_ (fun t k => XS.ifNo X15.here hx rfl (hb hby d2_217) rfl ((if0 _ _).trans (feq c217_19).1) k)
                                        refine Gen.on (b := T15.setTop (mkF m 221 #[.val (.int p1)] [(.int (1 : Int32))])) ?_ (fun t k => XS.iconst X15.here hx rfl (hb hby d2_220) k)
                                        refine own_retN (t := .boolean) X15 hx Bd.returns (by simp) (by decide) (hb hby d2_221) (by decide) (by decide) ?_
                                        exact hq _ _ _ (by simp only [f2, if_pos c8_1, if_pos c21_2, if_pos c34_3, if_neg c42_4, if_neg c48_5, if_neg c54_6, if_neg c60_7, if_pos c74_8, if_pos c87_9, if_pos c100_10, if_pos c113_11, if_pos c126_12, if_pos c139_13, if_pos c152_14, if_pos c165_15, if_pos c178_16, if_pos c191_17, if_pos c204_18, if_neg c217_19]) N15 e15
                                    · refine Gen.on (b := T14.setTop (mkF m 207 #[.val (.int p1)] [])) ?_ (fun t k => XS.ifNo X14.here hx rfl (hb hby d2_204) rfl ((if0 _ _).trans (feq c204_18).1) k)
                                      refine Gen.on (b := T14.setTop (mkF m 208 #[.val (.int p1)] [(.int (1 : Int32))])) ?_ (fun t k => XS.iconst X14.here hx rfl (hb hby d2_207) k)
                                      refine own_retN (t := .boolean) X14 hx Bd.returns (by simp) (by decide) (hb hby d2_208) (by decide) (by decide) ?_
                                      exact hq _ _ _ (by simp only [f2, if_pos c8_1, if_pos c21_2, if_pos c34_3, if_neg c42_4, if_neg c48_5, if_neg c54_6, if_neg c60_7, if_pos c74_8, if_pos c87_9, if_pos c100_10, if_pos c113_11, if_pos c126_12, if_pos c139_13, if_pos c152_14, if_pos c165_15, if_pos c178_16, if_pos c191_17, if_neg c204_18]) N14 e14
                                  · refine Gen.on (b := T13.setTop (mkF m 194 #[.val (.int p1)] [])) ?_ (fun t k => XS.ifNo X13.here hx rfl (hb hby d2_191) rfl ((if0 _ _).trans (feq c191_17).1) k)
                                    refine Gen.on (b := T13.setTop (mkF m 195 #[.val (.int p1)] [(.int (1 : Int32))])) ?_ (fun t k => XS.iconst X13.here hx rfl (hb hby d2_194) k)
                                    refine own_retN (t := .boolean) X13 hx Bd.returns (by simp) (by decide) (hb hby d2_195) (by decide) (by decide) ?_
                                    exact hq _ _ _ (by simp only [f2, if_pos c8_1, if_pos c21_2, if_pos c34_3, if_neg c42_4, if_neg c48_5, if_neg c54_6, if_neg c60_7, if_pos c74_8, if_pos c87_9, if_pos c100_10, if_pos c113_11, if_pos c126_12, if_pos c139_13, if_pos c152_14, if_pos c165_15, if_pos c178_16, if_neg c191_17]) N13 e13
                                · refine Gen.on (b := T12.setTop (mkF m 181 #[.val (.int p1)] [])) ?_ (fun t k => XS.ifNo X12.here hx rfl (hb hby d2_178) rfl ((if0 _ _).trans (feq c178_16).1) k)
                                  refine Gen.on (b := T12.setTop (mkF m 182 #[.val (.int p1)] [(.int (1 : Int32))])) ?_ (fun t k => XS.iconst X12.here hx rfl (hb hby d2_181) k)
                                  refine own_retN (t := .boolean) X12 hx Bd.returns (by simp) (by decide) (hb hby d2_182) (by decide) (by decide) ?_
                                  exact hq _ _ _ (by simp only [f2, if_pos c8_1, if_pos c21_2, if_pos c34_3, if_neg c42_4, if_neg c48_5, if_neg c54_6, if_neg c60_7, if_pos c74_8, if_pos c87_9, if_pos c100_10, if_pos c113_11, if_pos c126_12, if_pos c139_13, if_pos c152_14, if_pos c165_15, if_neg c178_16]) N12 e12
                              · refine Gen.on (b := T11.setTop (mkF m 168 #[.val (.int p1)] [])) ?_ (fun t k => XS.ifNo X11.here hx rfl (hb hby d2_165) rfl ((if0 _ _).trans (feq c165_15).1) k)
                                refine Gen.on (b := T11.setTop (mkF m 169 #[.val (.int p1)] [(.int (1 : Int32))])) ?_ (fun t k => XS.iconst X11.here hx rfl (hb hby d2_168) k)
                                refine own_retN (t := .boolean) X11 hx Bd.returns (by simp) (by decide) (hb hby d2_169) (by decide) (by decide) ?_
                                exact hq _ _ _ (by simp only [f2, if_pos c8_1, if_pos c21_2, if_pos c34_3, if_neg c42_4, if_neg c48_5, if_neg c54_6, if_neg c60_7, if_pos c74_8, if_pos c87_9, if_pos c100_10, if_pos c113_11, if_pos c126_12, if_pos c139_13, if_pos c152_14, if_neg c165_15]) N11 e11
                            · refine Gen.on (b := T10.setTop (mkF m 155 #[.val (.int p1)] [])) ?_ (fun t k => XS.ifNo X10.here hx rfl (hb hby d2_152) rfl ((if0 _ _).trans (feq c152_14).1) k)
                              refine Gen.on (b := T10.setTop (mkF m 156 #[.val (.int p1)] [(.int (1 : Int32))])) ?_ (fun t k => XS.iconst X10.here hx rfl (hb hby d2_155) k)
                              refine own_retN (t := .boolean) X10 hx Bd.returns (by simp) (by decide) (hb hby d2_156) (by decide) (by decide) ?_
                              exact hq _ _ _ (by simp only [f2, if_pos c8_1, if_pos c21_2, if_pos c34_3, if_neg c42_4, if_neg c48_5, if_neg c54_6, if_neg c60_7, if_pos c74_8, if_pos c87_9, if_pos c100_10, if_pos c113_11, if_pos c126_12, if_pos c139_13, if_neg c152_14]) N10 e10
                          · refine Gen.on (b := T9.setTop (mkF m 142 #[.val (.int p1)] [])) ?_ (fun t k => XS.ifNo X9.here hx rfl (hb hby d2_139) rfl ((if0 _ _).trans (feq c139_13).1) k)
                            refine Gen.on (b := T9.setTop (mkF m 143 #[.val (.int p1)] [(.int (1 : Int32))])) ?_ (fun t k => XS.iconst X9.here hx rfl (hb hby d2_142) k)
                            refine own_retN (t := .boolean) X9 hx Bd.returns (by simp) (by decide) (hb hby d2_143) (by decide) (by decide) ?_
                            exact hq _ _ _ (by simp only [f2, if_pos c8_1, if_pos c21_2, if_pos c34_3, if_neg c42_4, if_neg c48_5, if_neg c54_6, if_neg c60_7, if_pos c74_8, if_pos c87_9, if_pos c100_10, if_pos c113_11, if_pos c126_12, if_neg c139_13]) N9 e9
                        · refine Gen.on (b := T8.setTop (mkF m 129 #[.val (.int p1)] [])) ?_ (fun t k => XS.ifNo X8.here hx rfl (hb hby d2_126) rfl ((if0 _ _).trans (feq c126_12).1) k)
                          refine Gen.on (b := T8.setTop (mkF m 130 #[.val (.int p1)] [(.int (1 : Int32))])) ?_ (fun t k => XS.iconst X8.here hx rfl (hb hby d2_129) k)
                          refine own_retN (t := .boolean) X8 hx Bd.returns (by simp) (by decide) (hb hby d2_130) (by decide) (by decide) ?_
                          exact hq _ _ _ (by simp only [f2, if_pos c8_1, if_pos c21_2, if_pos c34_3, if_neg c42_4, if_neg c48_5, if_neg c54_6, if_neg c60_7, if_pos c74_8, if_pos c87_9, if_pos c100_10, if_pos c113_11, if_neg c126_12]) N8 e8
                      · refine Gen.on (b := T7.setTop (mkF m 116 #[.val (.int p1)] [])) ?_ (fun t k => XS.ifNo X7.here hx rfl (hb hby d2_113) rfl ((if0 _ _).trans (feq c113_11).1) k)
                        refine Gen.on (b := T7.setTop (mkF m 117 #[.val (.int p1)] [(.int (1 : Int32))])) ?_ (fun t k => XS.iconst X7.here hx rfl (hb hby d2_116) k)
                        refine own_retN (t := .boolean) X7 hx Bd.returns (by simp) (by decide) (hb hby d2_117) (by decide) (by decide) ?_
                        exact hq _ _ _ (by simp only [f2, if_pos c8_1, if_pos c21_2, if_pos c34_3, if_neg c42_4, if_neg c48_5, if_neg c54_6, if_neg c60_7, if_pos c74_8, if_pos c87_9, if_pos c100_10, if_neg c113_11]) N7 e7
                    · refine Gen.on (b := T6.setTop (mkF m 103 #[.val (.int p1)] [])) ?_ (fun t k => XS.ifNo X6.here hx rfl (hb hby d2_100) rfl ((if0 _ _).trans (feq c100_10).1) k)
                      refine Gen.on (b := T6.setTop (mkF m 104 #[.val (.int p1)] [(.int (1 : Int32))])) ?_ (fun t k => XS.iconst X6.here hx rfl (hb hby d2_103) k)
                      refine own_retN (t := .boolean) X6 hx Bd.returns (by simp) (by decide) (hb hby d2_104) (by decide) (by decide) ?_
                      exact hq _ _ _ (by simp only [f2, if_pos c8_1, if_pos c21_2, if_pos c34_3, if_neg c42_4, if_neg c48_5, if_neg c54_6, if_neg c60_7, if_pos c74_8, if_pos c87_9, if_neg c100_10]) N6 e6
                  · refine Gen.on (b := T5.setTop (mkF m 90 #[.val (.int p1)] [])) ?_ (fun t k => XS.ifNo X5.here hx rfl (hb hby d2_87) rfl ((if0 _ _).trans (feq c87_9).1) k)
                    refine Gen.on (b := T5.setTop (mkF m 91 #[.val (.int p1)] [(.int (1 : Int32))])) ?_ (fun t k => XS.iconst X5.here hx rfl (hb hby d2_90) k)
                    refine own_retN (t := .boolean) X5 hx Bd.returns (by simp) (by decide) (hb hby d2_91) (by decide) (by decide) ?_
                    exact hq _ _ _ (by simp only [f2, if_pos c8_1, if_pos c21_2, if_pos c34_3, if_neg c42_4, if_neg c48_5, if_neg c54_6, if_neg c60_7, if_pos c74_8, if_neg c87_9]) N5 e5
                · refine Gen.on (b := T4.setTop (mkF m 77 #[.val (.int p1)] [])) ?_ (fun t k => XS.ifNo X4.here hx rfl (hb hby d2_74) rfl ((if0 _ _).trans (feq c74_8).1) k)
                  refine Gen.on (b := T4.setTop (mkF m 78 #[.val (.int p1)] [(.int (1 : Int32))])) ?_ (fun t k => XS.iconst X4.here hx rfl (hb hby d2_77) k)
                  refine own_retN (t := .boolean) X4 hx Bd.returns (by simp) (by decide) (hb hby d2_78) (by decide) (by decide) ?_
                  exact hq _ _ _ (by simp only [f2, if_pos c8_1, if_pos c21_2, if_pos c34_3, if_neg c42_4, if_neg c48_5, if_neg c54_6, if_neg c60_7, if_neg c74_8]) N4 e4
      · refine Gen.on (b := T3.setTop (mkF m 37 #[.val (.int p1)] [])) ?_ (fun t k => XS.ifNo X3.here hx rfl (hb hby d2_34) rfl ((if0 _ _).trans (feq c34_3).1) k)
        refine Gen.on (b := T3.setTop (mkF m 38 #[.val (.int p1)] [(.int (1 : Int32))])) ?_ (fun t k => XS.iconst X3.here hx rfl (hb hby d2_37) k)
        refine own_retN (t := .boolean) X3 hx Bd.returns (by simp) (by decide) (hb hby d2_38) (by decide) (by decide) ?_
        exact hq _ _ _ (by simp only [f2, if_pos c8_1, if_pos c21_2, if_neg c34_3]) N3 e3
    · refine Gen.on (b := T2.setTop (mkF m 24 #[.val (.int p1)] [])) ?_ (fun t k => XS.ifNo X2.here hx rfl (hb hby d2_21) rfl ((if0 _ _).trans (feq c21_2).1) k)
      refine Gen.on (b := T2.setTop (mkF m 25 #[.val (.int p1)] [(.int (1 : Int32))])) ?_ (fun t k => XS.iconst X2.here hx rfl (hb hby d2_24) k)
      refine own_retN (t := .boolean) X2 hx Bd.returns (by simp) (by decide) (hb hby d2_25) (by decide) (by decide) ?_
      exact hq _ _ _ (by simp only [f2, if_pos c8_1, if_neg c21_2]) N2 e2
  · refine Gen.on (b := T1.setTop (mkF m 11 #[.val (.int p1)] [])) ?_ (fun t k => XS.ifNo X1.here hx rfl (hb hby d2_8) rfl ((if0 _ _).trans (feq c8_1).1) k)
    refine Gen.on (b := T1.setTop (mkF m 12 #[.val (.int p1)] [(.int (1 : Int32))])) ?_ (fun t k => XS.iconst X1.here hx rfl (hb hby d2_11) k)
    refine own_retN (t := .boolean) X1 hx Bd.returns (by simp) (by decide) (hb hby d2_12) (by decide) (by decide) ?_
    exact hq _ _ _ (by simp only [f2, if_neg c8_1]) N1 e1

theorem own_l (c a b : Int32) : f3 c a b = if a.toInt ≤ c.toInt ∧ c.toInt ≤ b.toInt then 1 else 0 := by
  simp only [f3, Int32.lt_iff_toInt_lt]
  repeat' split
  all_goals first | rfl | (exfalso; omega)
theorem own_140 (c : Int32) : f1_140 c = if 921600 ≤ c.toInt ∧ c.toInt ≤ 983037 then 1 else 0 := by
  simp only [f1_140, f1_154, Int32.lt_iff_toInt_lt, Int32.reduceToInt]
  repeat' split
  all_goals first | rfl | (exfalso; omega)
theorem own_115 (c : Int32) : f1_115 c = if (65536 ≤ c.toInt ∧ c.toInt < 917504 ∧ c.toInt % 65536 ≤ 65533) ∨ (921600 ≤ c.toInt ∧ c.toInt ≤ 983037) then 1 else 0 := by
  have e : (c &&& (65535 : Int32)).toInt = c.toInt % 2 ^ 16 := Jvm.Kit.i32_mask c 65535 (k := 16) (by decide) (by decide)
  simp only [f1_115, own_140, f1_154, Int32.lt_iff_toInt_lt, e, Int32.reduceToInt]
  repeat' split
  all_goals first | rfl | (exfalso; omega)
theorem own_73 (c : Int32) (h : 128 ≤ c.toInt) : f1_87 c = (if (63744 ≤ c.toInt ∧ c.toInt ≤ 64975) ∨ (65008 ≤ c.toInt ∧ c.toInt ≤ 65519) ∨ (65536 ≤ c.toInt ∧ c.toInt < 917504 ∧ c.toInt % 65536 ≤ 65533) ∨ (921600 ≤ c.toInt ∧ c.toInt ≤ 983037) then 1 else 0) := by
  simp only [f1_87, f1_101, own_115, f1_154, Int32.lt_iff_toInt_lt, Int32.reduceToInt]
  repeat' split
  all_goals first | rfl | (exfalso; omega)
theorem own_19 (c : Int32) : f1_19 c = if (65 ≤ c.toInt ∧ c.toInt ≤ 90) ∨ (48 ≤ c.toInt ∧ c.toInt ≤ 57) ∨ c.toInt = 45 ∨ c.toInt = 46 ∨ c.toInt = 95 ∨ c.toInt = 126 then 1 else 0 := by
  have e : ∀ k : Int32, (c = k) = (c.toInt = k.toInt) := fun k => by rw [Int32.toInt_inj]
  simp only [f1_19, f1_31, f1_43, f1_67, e, Int32.lt_iff_toInt_lt, Int32.reduceToInt]
  repeat' split
  all_goals first | rfl | (exfalso; omega)
def own_P (n : Int) : Prop := (97 ≤ n ∧ n ≤ 122) ∨ (65 ≤ n ∧ n ≤ 90) ∨ (48 ≤ n ∧ n ≤ 57) ∨ n = 45 ∨ n = 46 ∨ n = 95 ∨ n = 126 ∨ (160 ≤ n ∧ n ≤ 55295) ∨ (63744 ≤ n ∧ n ≤ 64975) ∨ (65008 ≤ n ∧ n ≤ 65519) ∨ (65536 ≤ n ∧ n < 917504 ∧ n % 65536 ≤ 65533) ∨ (921600 ≤ n ∧ n ≤ 983037)
instance (n : Int) : Decidable (own_P n) := by unfold own_P; infer_instance
theorem own_f1 (c : Int32) : f1 c = if own_P c.toInt then 1 else 0 := by
  by_cases h : c.toInt < 128
  · simp only [f1, own_19, f1_67, Int32.lt_iff_toInt_lt, Int32.reduceToInt]
    by_cases g : own_P c.toInt
    · rw [if_pos g]; unfold own_P at g
      repeat' split
      all_goals first | rfl | (exfalso; omega)
    · rw [if_neg g]; unfold own_P at g
      repeat' split
      all_goals first | rfl | (exfalso; omega)
  · simp only [f1, own_73 c (by omega), f1_154, Int32.lt_iff_toInt_lt, Int32.reduceToInt]
    by_cases g : own_P c.toInt
    · rw [if_pos g]; unfold own_P at g
      repeat' split
      all_goals first | rfl | (exfalso; omega)
    · rw [if_neg g]; unfold own_P at g
      repeat' split
      all_goals first | rfl | (exfalso; omega)
theorem own_z (c a b : Int32) : (f3 c a b = (0 : Int32)) = ¬ (a.toInt ≤ c.toInt ∧ c.toInt ≤ b.toInt) := by
  rw [own_l]
  by_cases h : a.toInt ≤ c.toInt ∧ c.toInt ≤ b.toInt
  · rw [if_pos h]; simp [h]
  · rw [if_neg h]; simp [h]
theorem own_or {p q : Prop} [Decidable p] [Decidable q] : (if ¬ p then (if q then (1 : Int32) else 0) else 1) = if p ∨ q then 1 else 0 := by
  by_cases h : p <;> by_cases g : q <;> simp [h, g]
theorem own_or2 {p q : Prop} [Decidable p] [Decidable q] : (if p then (1 : Int32) else (if q then (1 : Int32) else 0)) = if p ∨ q then 1 else 0 := by
  by_cases h : p <;> by_cases g : q <;> simp [h, g]
theorem own_no {p : Prop} [Decidable p] : (if ¬ p then (0 : Int32) else 1) = if p then 1 else 0 := by
  by_cases h : p <;> simp [h]
theorem own_f2 (c : Int32) : f2 c = if own_P c.toInt then 1 else 0 := by
  have e : ∀ k : Int32, (c = k) = (c.toInt = k.toInt) := fun k => by rw [Int32.toInt_inj]
  simp only [f2, own_z, e, Int32.reduceToInt, own_no, own_or, own_or2]
  have k : ∀ {p q : Prop} [Decidable p] [Decidable q], (p ↔ q) → (if p then (1 : Int32) else 0) = if q then 1 else 0 := fun {p q} _ _ h => by
    by_cases g : q
    · rw [if_pos g, if_pos (h.mpr g)]
    · rw [if_neg g, if_neg fun z => g (h.mp z)]
  refine k ?_
  unfold own_P
  omega
theorem own_same (c : Int32) : f1 c = f2 c := by rw [own_f1, own_f2]

theorem pn_0 : plainName "com/example/mapwright/mapwright/mapping/StringTemplateIsIunreservedPinLaw" = true := by first | (simp [plainName, overriddenIn]; done) | decide +kernel
theorem pd_0_0 : parseMethodDescriptor "(I)Z" = some ⟨[.int], some .boolean⟩ := by decide +kernel
theorem ef_0 (m : MethodId) (x0 : Int32) : entryFrame m #[(.int x0)] maxLocals = mkF m 0 #[.val (.int x0)] [] := by first | (simp [entryFrame, mkF, argsToLocals, Value.category, maxLocals]; done) | rfl
def Q0 (n0 : Nat) (v : Option Value) (h : Heap) (L : List Loc) : Prop := v = some (.int 1) ∧ Fr n0 L
set_option maxRecDepth 65536 in
set_option maxHeartbeats 40000000 in
theorem rm0 (l : Launch) (Z : State) (a0 : Array Value) (hw : ∀ d ∈ tables_1, d.before a0 Z = true) (ws : List Jvm.Cond) (p1 : Int32) (h0 : Heap) (n0 : Nat) (Z0 : n0 ≤ h0.size)  :
    MetFree l x (head1 (Jvm.Cond.code x code maxLocals ret :: ws) room_1) (fun a U => a = #[(.int p1)] ∧ Z.Warmed39 U.vm ∧ U.heap = h0) (fun _ _ _ _ _ => True) (fun _ U o U' => ∃ v L, o = .returned v ∧ Q0 n0 v U'.heap L ∧ FrameEnd U o U' L room_1.cells room_1.slots) := by
  refine MetFree.of_bodySF (plainFor_of_name pn_0) hisR ?_
  intro p e s m args below meth c s₁ Bd hml0 hP hK
  obtain ⟨rfl, hZ, hh⟩ := hP
  have hx := Bd.exec
  have hby := Bd.bytes
  have hml : c.maxLocals = 1 := hml0
  have hown : s.vm.findClass "com/example/mapwright/mapwright/mapping/StringTemplateIsIunreservedPinLaw" = some m.cls := findClass_of_methodNamed Bd.named
  have hnm := (name_of_methodNamed Bd.named Bd.method).1
  have X0 : Stand p l e room_1 s m #[(.int p1)] below meth c s₁ [] 0 0 := Stand.of_body Bd
  have e0 : s₁.heap = h0 := by rw [← hh, Bd.state]; rfl
  have N0 := Fr.nil n0
  refine own_start (Q := Q0 n0) (C := room_1.cells) (S := room_1.slots) ?_
  rw [ef_0 m p1]
  refine Gen.on (b := s₁.setTop (mkF m 1 #[.val (.int p1)] [(.int p1)])) ?_ (fun t k => XS.iloadN X0.here hx rfl (hb hby at_0) rfl k)
  obtain ⟨_, _, ⟨T1, L1, k1, n1⟩, -, X1, ⟨Lc1, hQ1, l1, y1, z1⟩, st1⟩ := Jvm.LawKit.callS X0 hx (y := (⟨"com/example/mapwright/mapwright/mapping/StringTemplate", "isIunreserved", "(I)Z"⟩ : MethodName)) hown (mvT hZ (hw _ (List.mem_of_getElem? (i := 0) rfl))) (mvT hZ (hw _ (List.mem_of_getElem? (i := 1) rfl))) (mvT hZ (hw _ (List.mem_of_getElem? (i := 2) rfl))) (mvT hZ (hw _ (List.mem_of_getElem? (i := 3) rfl))) (by decide) (backOf (W := 0) (rm1 l Z a0 hw [] p1  h0 n0 Z0 ) hZ (hw _ (List.mem_of_getElem? (i := 3) rfl)) (hw _ (List.mem_of_getElem? (i := 2) rfl)) (by decide) (by decide)) (g := (mkF m 1 #[.val (.int p1)] [(.int p1)])) rfl (by rw [hml]; rfl) (argsL := [(.int p1)]) (rest := []) (lenOf pd_0_0 rfl) rfl (by show 2 * 0 + _ ≤ _; exact Nat.le_of_eq rfl) (hb hby at_1) (fun _ _ => ⟨rfl, e0, (by decide : 0 + 0 ≤ _), (by decide : 0 + 0 ≤ _)⟩)
  dsimp only [Pt.U, Pt.locs, Pt.cells, Pt.slots] at X1 l1 y1 z1 st1 hQ1
  subst l1 y1 z1
  obtain ⟨rfl, N1q, e1⟩ := hQ1
  have N1 := Fr.app N0 N1q
  refine Gen.on (b := T1.setTop (mkF m 4 #[.val (.int p1)] [(.int (f1 p1))])) ?_ (fun t k => st1 t k)
  refine Gen.on (b := T1.setTop (mkF m 5 #[.val (.int p1)] [(.int p1), (.int (f1 p1))])) ?_ (fun t k => XS.iloadN X1.here hx rfl (hb hby at_4) rfl k)
  obtain ⟨_, _, ⟨T2, L2, k2, n2⟩, -, X2, ⟨Lc2, hQ2, l2, y2, z2⟩, st2⟩ := Jvm.LawKit.callS X1 hx (y := (⟨"com/example/mapwright/mapwright/mapping/StringTemplateIsIunreservedPinLaw", "reference", "(I)Z"⟩ : MethodName)) hown (mvT hZ (hw _ (List.mem_of_getElem? (i := 4) rfl))) (mvT hZ (hw _ (List.mem_of_getElem? (i := 5) rfl))) (mvT hZ (hw _ (List.mem_of_getElem? (i := 6) rfl))) (mvT hZ (hw _ (List.mem_of_getElem? (i := 7) rfl))) (by decide) (backOf (W := 1) (rm2 l Z a0 hw [] p1  h0 n0 Z0 ) hZ (hw _ (List.mem_of_getElem? (i := 7) rfl)) (hw _ (List.mem_of_getElem? (i := 6) rfl)) (by decide) (by decide)) (g := (mkF m 5 #[.val (.int p1)] [(.int p1), (.int (f1 p1))])) rfl (by rw [hml]; rfl) (argsL := [(.int p1)]) (rest := [(.int (f1 p1))]) (lenOf pd_0_0 rfl) rfl (by show 2 * 0 + _ ≤ _; exact Nat.le_of_eq rfl) (hb hby at_5) (fun _ _ => ⟨rfl, e1, (by decide : 0 + 0 ≤ _), (by decide : 0 + 0 ≤ _)⟩)
  dsimp only [Pt.U, Pt.locs, Pt.cells, Pt.slots] at X2 l2 y2 z2 st2 hQ2
  subst l2 y2 z2
  obtain ⟨rfl, N2q, e2⟩ := hQ2
  have N2 := Fr.app N1 N2q
  refine Gen.on (b := T2.setTop (mkF m 8 #[.val (.int p1)] [(.int (f2 p1)), (.int (f1 p1))])) ?_ (fun t k => st2 t k)
  refine Gen.on (b := T2.setTop (mkF m 11 #[.val (.int p1)] [])) ?_ (fun t k => XS.icmpNo X2.here hx rfl (hb hby at_8) rfl (teq (own_same p1)).2 k)
  refine Gen.on (b := T2.setTop (mkF m 12 #[.val (.int p1)] [(.int (1 : Int32))])) ?_ (fun t k => XS.iconst X2.here hx rfl (hb hby at_11) k)
  refine Gen.on (b := T2.setTop (mkF m 16 #[.val (.int p1)] [(.int (1 : Int32))])) ?_ (fun t k => XS.goto X2.here hx rfl (pc0 := 12) (pc' := 16) rfl (hb hby at_12) (by decide) (by decide) k)
  refine own_retN (t := .boolean) X2 hx Bd.returns (by simp) (by decide) (hb hby at_16) (by decide) (by decide) ?_
  exact ⟨rfl, N2⟩
set_option maxRecDepth 65536 in
set_option maxHeartbeats 40000000 in
theorem comes_1 {Post : Tables → Env → Array Value → State → Outcome → State → Prop} (hpost : ∀ tb e args s v u, (limb_1_1.after args s (.returned v) u = true ∧ limb_1_2.after args s (.returned v) u = true ∧ True) → FrameEnd s (.returned v) u (Jvm.fieldLocs frame_1_writes args s ++ Jvm.arrayLocs frame_1_arrays args s ++ Jvm.staticLocs frame_1_statics s) 0 0 → Post tb e args s (.returned v) u) :
    ArmFor flags0 classFile x code maxLocals ret World_1 tables_1 room_1 Calls_1 rest_1 Pre_1 Post := by
  intro l hfl _ _ p e ha hc hk s m args below hf hA hF happ hP
  obtain ⟨hcalls, hrest, hpre⟩ := hP
  obtain ⟨-, -, -, hnamed, -, -, -, hat⟩ := (Spec.applies_iff hf).mp happ
  obtain ⟨hg, hn⟩ := and_e (Cond.before_iff.mp (show (Jvm.Cond.and given_1 narrow_1).before args s = true from hpre))
  obtain ⟨hcount, hr1⟩ := and_e hg
  obtain ⟨w0, rfl⟩ : ∃ w0 : Value, args = #[w0] := by
    have hs : args.size = 1 := by simpa [Cond.value, given_1] using hcount
    obtain ⟨L⟩ := args
    match L, hs with
    | [w0], _ => exact ⟨w0, rfl⟩
  have hw := fun d (hd : d ∈ tables_1) => atoms_spec (ws := Jvm.Cond.code x code maxLocals ret :: tables_1) hat d (List.mem_cons_of_mem _ hd)
  have hfit : Fit s := fun {y c} hc i hi => by
    obtain ⟨ha, rfl⟩ := Array.getElem?_eq_some_iff.mp hc
    have q := List.all_eq_true.mp ((Array.all_eq_true_iff_forall_mem.mp hF) _ (Array.getElem_mem ha)) i (List.mem_range.mpr hi)
    simpa [Array.getElem?_eq_getElem hi] using q
  obtain ⟨i0, ei0⟩ := is_v hr1
  obtain rfl : w0 = (.int i0) := Option.some.inj ei0
  obtain ⟨n, o, h1, h2, h3, _, L, rfl, ⟨rfl, N⟩, hq⟩ := rm0 l s _ hw tables_1 i0 s.heap s.heap.size (Nat.le_refl _)  p e ha hc hk s m _ below hf ((Spec.applies_iff_loose hf).mp happ).1 ⟨rfl, State.Warmed39.refl s, rfl⟩ trivial
  refine ⟨n, _, h1, h2, h3, hpost _ _ _ _ _ _ ⟨Cond.after_iff.mpr rfl, Cond.after_iff.mpr (eq_i res_at (Term.int_eval (1)) rfl), trivial⟩ ⟨hq.1, hq.2.1, (hq.2.2.sift fun y hy => Or.inr (N y hy)).mono (by decide) (by decide)⟩⟩
theorem main_1_1 : Claimed_1_1 := comes_1 fun _ _ _ _ _ _ h hF => ⟨h.1, hF⟩
theorem main_1_2 : Claimed_1_2 := comes_1 fun _ _ _ _ _ _ h hF => ⟨h.2.1, hF⟩
end Jvm.Pilot.@@N@@
namespace Jvm.Pilot.@@N@@
open Jvm Jvm.ClassFile Sem Op Lib Jvm.Free Jvm.Stand Jvm.Pilot.@@N@@.Jvm.D
/-! MADE BY PROGRAM (witnessworld.py) out of the Statement's table words and the real class files: 9 classes; the members and pool entries that the words name. The judged class is class 1, her method 1. -/
namespace start1
open Jvm.ClassFile
def u (s : String) : CpInfo := .utf8 (stringToUtf16 s)
/-- a pool by its gaps: so many unusable entries, then the entry; so many at the end -/
def gap : Nat → List CpInfo → List CpInfo
  | 0, r => r
  | n + 1, r => .unusable :: gap n r
def poolList (es : List (Nat × CpInfo)) (last : Nat) : List CpInfo := es.foldr (fun e r => gap e.1 (e.2 :: r)) (gap last [])
def pool (es : List (Nat × CpInfo)) (last : Nat) : Array CpInfo := ⟨poolList es last⟩
def fileOf (pool : Array CpInfo) (this : Nat) (attrs : Array Attribute := #[]) (ms : Array MethodInfo := #[]) (fl : Nat := 33) (sup : Nat := 0) (ifs : Array Nat := #[]) (fds : Array FieldInfo := #[]) : ClassFile where
  minorVersion := 0
  majorVersion := 65
  constantPool := pool
  accessFlags := fl
  thisClass := this
  superClass := sup
  interfaces := ifs
  fields := fds
  methods := ms
  attributes := attrs
def plain (name : String) (sup : Option ClassId) : Class where
  name := name
  kind := .ordinary
  loader := none
  accessFlags := 33
  super := sup
  interfaces := #[]
  cf := none
  fields := #[]
  methods := #[]
  instanceTypes := #[]
  staticTypes := #[]
  resolved := #[]
  callSites := []
  init := .initialized
  statics := none
  mirror := none

def pool0 : Array CpInfo := pool [(5, u "<init>"), (0, u "()V"), (1, .class_ 10), (1, u "java/lang/Object")] 113

def k0m0 : Method := { name := "<init>", desc := "()V", sig := { parameters := [], returnType := none }, accessFlags := 1, code := none }
/-- java/lang/Object -/
def k0 : Class := { plain "java/lang/Object" none with
  accessFlags := 33
  interfaces := #[]
  cf := some (fileOf pool0 8 #[] #[{ accessFlags := 1, nameIndex := 5, descriptorIndex := 6, attributes := #[] }] 33 0 #[] #[])
  fields := #[]
  methods := #[k0m0]
  instanceTypes := #[]
  staticTypes := #[]
  resolved := Array.replicate 124 none
  statics := none }

def pool1 : Array CpInfo := pool [(2, .class_ 4), (1, u "java/lang/Object"), (0, u "<init>"), (0, u "()V"), (0, .methodref 8 9), (0, .class_ 10), (0, .nameAndType 11 12), (0, u "com/example/mapwright/mapwright/mapping/StringTemplate"), (0, u "isIunreserved"), (0, u "(I)Z"), (0, .methodref 14 15), (0, .class_ 16), (0, .nameAndType 17 12), (0, u "com/example/mapwright/mapwright/mapping/StringTemplateIsIunreservedPinLaw"), (0, u "reference"), (0, .methodref 14 19), (0, .nameAndType 20 21), (0, u "in"), (0, u "(III)Z"), (0, .integer 55295), (0, .integer 63744), (0, .integer 64975), (0, .integer 65008), (0, .integer 65519), (0, .integer 65536), (0, .integer 131069), (0, .integer 131072), (0, .integer 196605), (0, .integer 196608), (0, .integer 262141), (0, .integer 262144), (0, .integer 327677), (0, .integer 327680), (0, .integer 393213), (0, .integer 393216), (0, .integer 458749), (0, .integer 458752), (0, .integer 524285), (0, .integer 524288), (0, .integer 589821), (0, .integer 589824), (0, .integer 655357), (0, .integer 655360), (0, .integer 720893), (0, .integer 720896), (0, .integer 786429), (0, .integer 786432), (0, .integer 851965), (0, .integer 851968), (0, .integer 917501), (0, .integer 921600), (0, .integer 983037), (2, u "law")] 3

def k1m0 : Method := { name := "<init>", desc := "()V", sig := { parameters := [], returnType := none }, accessFlags := 1, code := none }
def k1c1 : Code := { maxStack := 2, maxLocals := 1, code := code, exceptionTable := #[], attributes := #[] }
def k1m1 : Method := { name := "law", desc := "(I)Z", sig := { parameters := [.int], returnType := some .boolean }, accessFlags := 9, code := some k1c1 }
def k1c2 : Code := { maxStack := 2, maxLocals := 3, code := method_3_code, exceptionTable := #[], attributes := #[] }
def k1m2 : Method := { name := "in", desc := "(III)Z", sig := { parameters := [.int, .int, .int], returnType := some .boolean }, accessFlags := 10, code := some k1c2 }
def k1c3 : Code := { maxStack := 3, maxLocals := 1, code := method_4_code, exceptionTable := #[], attributes := #[] }
def k1m3 : Method := { name := "reference", desc := "(I)Z", sig := { parameters := [.int], returnType := some .boolean }, accessFlags := 10, code := some k1c3 }
/-- com/example/mapwright/mapwright/mapping/StringTemplateIsIunreservedPinLaw -/
def k1 : Class := { plain "com/example/mapwright/mapwright/mapping/StringTemplateIsIunreservedPinLaw" (some 0) with
  accessFlags := 49
  interfaces := #[]
  cf := some (fileOf pool1 14 #[] #[{ accessFlags := 1, nameIndex := 5, descriptorIndex := 6, attributes := #[] }, { accessFlags := 9, nameIndex := 57, descriptorIndex := 12, attributes := #[] }, { accessFlags := 10, nameIndex := 20, descriptorIndex := 21, attributes := #[] }, { accessFlags := 10, nameIndex := 17, descriptorIndex := 12, attributes := #[] }] 49 2 #[] #[])
  fields := #[]
  methods := #[k1m0, k1m1, k1m2, k1m3]
  instanceTypes := #[]
  staticTypes := #[]
  resolved := Array.replicate 61 none
  statics := none }

def pool2 : Array CpInfo := pool [(2, .class_ 4), (1, u "java/lang/Object"), (9, .class_ 16), (1, u "com/example/mapwright/mapwright/mapping/StringTemplate"), (0, u "parts"), (0, u "Ljava/util/List;"), (25, u "columns"), (22, u "places"), (0, u "[I"), (94, .class_ 165), (1, u "com/example/mapwright/mapwright/mapping/StringTemplate$Scheme"), (127, u "(I)Z"), (66, u "isIunreserved"), (0, .integer 55295), (0, .integer 63744), (0, .integer 64975), (0, .integer 65008), (0, .integer 65519), (0, .integer 65536), (0, .integer 917504), (0, .integer 65535), (0, .integer 65533), (0, .integer 921600), (0, .integer 983037), (39, u "HEX"), (0, u "[C")] 112

def k2c0 : Code := { maxStack := 2, maxLocals := 1, code := prog_37_method_22_code, exceptionTable := #[], attributes := #[] }
def k2m0 : Method := { name := "isIunreserved", desc := "(I)Z", sig := { parameters := [.int], returnType := some .boolean }, accessFlags := 8, code := some k2c0 }
/-- com/example/mapwright/mapwright/mapping/StringTemplate -/
def k2 : Class := { plain "com/example/mapwright/mapwright/mapping/StringTemplate" (some 0) with
  accessFlags := 49
  interfaces := #[]
  cf := some (fileOf pool2 14 #[.nestMembers #[163]] #[{ accessFlags := 8, nameIndex := 360, descriptorIndex := 293, attributes := #[] }] 49 2 #[] #[{ accessFlags := 18, nameIndex := 17, descriptorIndex := 18, attributes := #[] }, { accessFlags := 18, nameIndex := 44, descriptorIndex := 18, attributes := #[] }, { accessFlags := 18, nameIndex := 67, descriptorIndex := 68, attributes := #[] }, { accessFlags := 26, nameIndex := 411, descriptorIndex := 412, attributes := #[] }])
  fields := #[{ name := "parts", type := (.object "java/util/List"), accessFlags := 18, slot := 0, constantValue := 0 }, { name := "columns", type := (.object "java/util/List"), accessFlags := 18, slot := 1, constantValue := 0 }, { name := "places", type := (.array .int), accessFlags := 18, slot := 2, constantValue := 0 }, { name := "HEX", type := (.array .char), accessFlags := 26, slot := 0, constantValue := 0 }]
  methods := #[k2m0]
  instanceTypes := #[(.object "java/util/List"), (.object "java/util/List"), (.array .int)]
  staticTypes := #[(.array .char)]
  resolved := Array.replicate 525 none
  statics := none }

def pool3 : Array CpInfo := pool [(1, u "java/lang/Cloneable"), (0, .class_ 1), (0, u "java/lang/Object"), (0, .class_ 3)] 3

/-- java/lang/Cloneable -/
def k3 : Class := { plain "java/lang/Cloneable" (some 0) with
  accessFlags := 1537
  interfaces := #[]
  cf := some (fileOf pool3 2 #[] #[] 1537 4 #[] #[])
  fields := #[]
  methods := #[]
  instanceTypes := #[]
  staticTypes := #[]
  resolved := Array.replicate 8 none
  statics := none }

def pool4 : Array CpInfo := pool [(1, u "java/io/Serializable"), (0, .class_ 1), (0, u "java/lang/Object"), (0, .class_ 3)] 3

/-- java/io/Serializable -/
def k4 : Class := { plain "java/io/Serializable" (some 0) with
  accessFlags := 1537
  interfaces := #[]
  cf := some (fileOf pool4 2 #[] #[] 1537 4 #[] #[])
  fields := #[]
  methods := #[]
  instanceTypes := #[]
  staticTypes := #[]
  resolved := Array.replicate 8 none
  statics := none }

/-- the primitive byte -/
def k5 : Class := { plain "byte" none with kind := .primitive 'B', accessFlags := 0x411 }
/-- [B -/
def k6 : Class := { plain "[B" (some 0) with kind := .array 5 .byte, interfaces := #[3, 4], accessFlags := 1041 }

/-- the primitive int -/
def k7 : Class := { plain "int" none with kind := .primitive 'I', accessFlags := 0x411 }
/-- [I -/
def k8 : Class := { plain "[I" (some 0) with kind := .array 7 .int, interfaces := #[3, 4], accessFlags := 1041 }

def heap : Heap := #[]
def classes : Array Class := #[k0, k1, k2, k3, k4, k5, k6, k7, k8]
def interned : List (Array UInt16 × Addr) := []
def slotsUsed : Nat := 0
def theMethod : MethodId := ⟨1, 1⟩
def args0 : Array Value := #[.int 65]
def aboutOver (below : List Frame) : State where
  vm := { classes := classes, interned := interned.toArray }
  heap := heap
  slotsUsed := slotsUsed
  threads := #[{ frames := .invoking theMethod args0 :: below }]
def below0 : List Frame := [.native { method := ⟨0, 0⟩, args := #[] }]
def about1 : State := aboutOver below0
def p0 : Program := .bare "" "" ""
def e0 : Env := launch0.env 0 0 0
theorem w_frames : about1.frames = Frame.invoking theMethod args0 :: below0 := rfl
set_option maxRecDepth 65536 in
theorem w_args : argsFit about1.vm theMethod args0 = true := by decide +kernel
set_option maxRecDepth 65536 in
theorem w_heap : heapFits about1 = true := by decide +kernel
set_option maxRecDepth 65536 in
theorem w_runnable : about1.curStatus? = some .runnable := by decide +kernel
set_option maxRecDepth 65536 in
theorem w_alone : about1.alone = true := by decide +kernel
set_option maxRecDepth 65536 in
theorem w_named : about1.methodNamed? x = some theMethod := by decide +kernel
set_option maxRecDepth 65536 in
theorem w_hears : about1.hears theMethod below0 = true := by decide +kernel
set_option maxRecDepth 65536 in
theorem w_ripe : about1.ripe theMethod args0 below0 = true := by decide +kernel
theorem w_running : about1.status = .running := rfl
set_option maxRecDepth 65536 in
theorem w_room : about1.hasRoom e0.platform room_1 = true :=
  launch0.hasRoom_least _ room_1 (by decide +kernel) (by decide +kernel) (by decide +kernel) (by decide +kernel) (by decide +kernel) (by decide +kernel)
theorem allAtoms_all (ts : List Jvm.Cond) (a : Array Jvm.Value) (st : Jvm.State) : (allAtoms ts).before a st = ts.all (fun c => c.before a st) := by
  induction ts with
  | nil => rfl
  | cons c t ih =>
    show (Jvm.Cond.and c (allAtoms t)).before a st = _
    rw [Jvm.Cond.before_and, ih, List.all_cons]
def words1 : List Jvm.Cond := Jvm.Cond.code x code maxLocals ret :: tables_1
/-- a 'code' word, met by the world's own term for the bytes: nothing is compared byte by byte -/
theorem code_word {y : MethodName} {bytes : ByteArray} {mx : Nat} {rt : Option FieldType} {a : Array Value} {s : State} {m : MethodId} {meth : Method} {c : Code} (h1 : s.methodNamed? y = some m) (h2 : s.vm.method? m = some meth) (h3 : meth.code = some c) (h4 : c.code = bytes)
    (h5 : (c.maxLocals == mx && c.exceptionTable.isEmpty && decide (c.maxStack ≤ mostOperands) && decide (meth.sig.returnType = rt) && !meth.locks && decide (parseMethodDescriptor y.desc = some meth.sig)) = true) : (Jvm.Cond.code y bytes mx rt).before a s = true := by
  simp only [Bool.and_eq_true, beq_iff_eq, Bool.not_eq_true', decide_eq_true_eq] at h5
  obtain ⟨⟨⟨⟨⟨g1, g2⟩, g3⟩, g4⟩, g5⟩, g6⟩ := h5
  simp [Cond.before, Cond.holds, Cond.value, h1, h2, h3, h4, g1, g2, g3, g4, g5, g6]
def isCode : Jvm.Cond → Bool
  | .code _ _ _ _ => true
  | _ => false
theorem all_split {L : List Jvm.Cond} {P : Jvm.Cond → Bool} (h1 : L.all (fun c => isCode c || P c) = true) (h2 : ∀ c ∈ L.filter isCode, P c = true) : L.all P = true := by
  refine List.all_eq_true.mpr fun c hc => ?_
  have h := List.all_eq_true.mp h1 c hc
  rcases Bool.eq_false_or_eq_true (isCode c) with hi | hi
  · exact h2 c (List.mem_filter.mpr ⟨hc, hi⟩)
  · simpa [hi] using h
set_option maxRecDepth 65536 in
theorem w_c0 : (Jvm.Cond.code x code maxLocals ret).before args0 about1 = true := code_word (m := ⟨1, 1⟩) (meth := k1m1) (c := k1c1) (by decide +kernel) rfl rfl rfl (by decide +kernel)
set_option maxRecDepth 65536 in
theorem w_c1 : (Jvm.Cond.code ({ cls := "com/example/mapwright/mapwright/mapping/StringTemplate", name := "isIunreserved", desc := "(I)Z" } : Jvm.MethodName) prog_37_method_22_code (1 : Nat) (Option.some Jvm.ClassFile.FieldType.boolean)).before args0 about1 = true := code_word (m := ⟨2, 0⟩) (meth := k2m0) (c := k2c0) (by decide +kernel) rfl rfl rfl (by decide +kernel)
set_option maxRecDepth 65536 in
theorem w_c2 : (Jvm.Cond.code ({ cls := "com/example/mapwright/mapwright/mapping/StringTemplateIsIunreservedPinLaw", name := "reference", desc := "(I)Z" } : Jvm.MethodName) method_4_code (1 : Nat) (Option.some Jvm.ClassFile.FieldType.boolean)).before args0 about1 = true := code_word (m := ⟨1, 3⟩) (meth := k1m3) (c := k1c3) (by decide +kernel) rfl rfl rfl (by decide +kernel)
set_option maxRecDepth 65536 in
theorem w_c3 : (Jvm.Cond.code ({ cls := "com/example/mapwright/mapwright/mapping/StringTemplateIsIunreservedPinLaw", name := "in", desc := "(III)Z" } : Jvm.MethodName) method_3_code (3 : Nat) (Option.some Jvm.ClassFile.FieldType.boolean)).before args0 about1 = true := code_word (m := ⟨1, 2⟩) (meth := k1m2) (c := k1c2) (by decide +kernel) rfl rfl rfl (by decide +kernel)
def codes1 : List Jvm.Cond := [Jvm.Cond.code x code maxLocals ret, Jvm.Cond.code ({ cls := "com/example/mapwright/mapwright/mapping/StringTemplate", name := "isIunreserved", desc := "(I)Z" } : Jvm.MethodName) prog_37_method_22_code (1 : Nat) (Option.some Jvm.ClassFile.FieldType.boolean), Jvm.Cond.code ({ cls := "com/example/mapwright/mapwright/mapping/StringTemplateIsIunreservedPinLaw", name := "reference", desc := "(I)Z" } : Jvm.MethodName) method_4_code (1 : Nat) (Option.some Jvm.ClassFile.FieldType.boolean), Jvm.Cond.code ({ cls := "com/example/mapwright/mapwright/mapping/StringTemplateIsIunreservedPinLaw", name := "in", desc := "(III)Z" } : Jvm.MethodName) method_3_code (3 : Nat) (Option.some Jvm.ClassFile.FieldType.boolean)]
set_option maxRecDepth 65536 in
theorem codes_eq : words1.filter isCode = codes1 := rfl
theorem w_codes : ∀ c ∈ words1.filter isCode, c.before args0 about1 = true := by
  rw [codes_eq]
  intro c hc
  simp only [codes1, List.mem_cons, List.not_mem_nil, or_false] at hc
  rcases hc with rfl | rfl | rfl | rfl
  · exact w_c0
  · exact w_c1
  · exact w_c2
  · exact w_c3
set_option maxRecDepth 65536 in
theorem w_t1 : (words1.take 24).all (fun c => isCode c || c.before args0 about1) = true := by decide +kernel
set_option maxRecDepth 65536 in
theorem w_t2 : ((words1.drop 24).take 24).all (fun c => isCode c || c.before args0 about1) = true := by decide +kernel
set_option maxRecDepth 65536 in
theorem w_t3 : ((words1.drop 24).drop 24).all (fun c => isCode c || c.before args0 about1) = true := by decide +kernel
theorem w_tables : (allAtoms (Jvm.Cond.code x code maxLocals ret :: tables_1)).before args0 about1 = true := by
  rw [allAtoms_all]
  show words1.all (fun c => c.before args0 about1) = true
  refine all_split ?_ w_codes
  rw [← List.take_append_drop 24 words1, List.all_append, w_t1, ← List.take_append_drop 24 (words1.drop 24), List.all_append, w_t2, w_t3]
  rfl
set_option maxRecDepth 65536 in
theorem w_case : (Jvm.Cond.and given_1 narrow_1).before args0 about1 = true := by decide +kernel
theorem w_applies : (headSpec (Jvm.Cond.code x code maxLocals ret :: tables_1) room_1).applies x e0.platform about1 = true :=
  (Spec.applies_iff w_frames).mpr ⟨w_running, w_runnable, w_alone, w_named, w_hears, w_ripe, w_room, w_tables⟩
theorem atStart : AtStart classFile x code maxLocals ret World_1 tables_1 room_1 Calls_1 rest_1 Pre_1 launch0 p0 e0 about1 theMethod args0 below0 :=
  ⟨lists_1, trivial, launch0.admits_env _ _ _, launch0.least_env, fairChoices_fair.cas, fairChoices_fair.clock, w_frames, w_args, w_heap, w_applies, trivial, trivial, w_case⟩
end start1
theorem witness_1 : WitnessClaimed_1 := ⟨start1.p0, start1.e0, start1.about1, start1.theMethod, start1.args0, start1.below0, start1.atStart⟩
end Jvm.Pilot.@@N@@
