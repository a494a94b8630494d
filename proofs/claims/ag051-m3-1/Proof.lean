import JvmDerived
import JvmDerived.Pilot.@@N@@Statement
import JvmDerived.Pilot.@@N@@Code
set_option linter.unusedVariables false
set_option linter.unusedSimpArgs false
@@BLOCK:NumsL.lean.txt@@
namespace Jvm.Pilot.@@N@@
open Jvm Jvm.ClassFile Sem Op Lib Jvm.Free Jvm.Stand Jvm.LawKit Jvm.RoadKit Bundle Jvm.Pilot.@@N@@.Jvm.D
section OwnKit
variable {p : Program} {l : Launch} {e : Env} {R : Room} {s : State} {m : MethodId} {args : Array Value} {below : List Frame} {meth : Method} {c : Code} {T : State} {locs : List Loc} {cells slots : Nat}
/-- from the state a the run comes to a state of which P holds -/
def Gen (p : Program) (e : Env) (below : List Frame) (P : State → Prop) (a : State) : Prop := ∃ s₂, Steps p.tables e below a s₂ ∧ P s₂
theorem Gen.on {P : State → Prop} {a b : State} (k : Gen p e below P b) (h : ∀ t, Steps p.tables e below b t → Steps p.tables e below a t) : Gen p e below P a := by
  obtain ⟨s2, h1, h2⟩ := k
  exact ⟨s2, h _ h1, h2⟩
/-- the body has returned, and Q holds of what it returns, leaves and has written -/
def OwnP (below : List Frame) (s : State) (Q : Option Value → Heap → List Loc → Prop) (C S : Nat) (s₂ : State) : Prop := ∃ o, s₂.status = .running ∧ Ended s₂ below o ∧ ∃ v L, o = .returned v ∧ Q v s₂.heap L ∧ FrameEnd s o s₂ L C S
def Own (p : Program) (e : Env) (below : List Frame) (s : State) (Q : Option Value → Heap → List Loc → Prop) (C S : Nat) (a : State) : Prop := Gen p e below (OwnP below s Q C S) a
variable {Q : Option Value → Heap → List Loc → Prop} {C S : Nat}
theorem own_start {a : State} (k : Own p e below s Q C S a) : ∃ s₂ o, Steps p.tables e below a s₂ ∧ s₂.status = .running ∧ Ended s₂ below o ∧ ∃ v L, o = .returned v ∧ Q v s₂.heap L ∧ FrameEnd s o s₂ L C S := by
  obtain ⟨s2, h1, o, h2⟩ := k
  exact ⟨s2, o, h1, h2⟩
/-- the walk stands in a frame F, the heap being H, with what X had written -/
def own_at (X : Stand p l e R s m args below meth c T locs cells slots) (H : Heap) (F : JFrame) (s₂ : State) : Prop := ∃ T', Stand p l e R s m args below meth c T' locs cells slots ∧ T'.heap = H ∧ s₂ = T'.setTop F
theorem own_ret (X : Stand p l e R s m args below meth c T locs cells slots) {g : JFrame} {v : Option Value} (hv : meth.sig.returnType = none → v = none) (hlocks : meth.locks = false) (hc : cells ≤ C) (hs : slots ≤ S) (hq : Q v T.heap locs)
    (st : ∀ fs, (∀ (f : JFrame) (acts : List Action), f.method = m → f.locked = none → f.entered = [] → (doReturn e (T.setTop f) acts v).1 = T.setFrames fs) → Steps p.tables e below (T.setTop g) (T.setFrames fs)) : Own p e below s Q C S (T.setTop g) := by
  obtain ⟨fs, hr, hrun, hended, hW, hsame⟩ := X.leave (v := v) hv hlocks
  exact ⟨_, st fs hr, _, hrun, hended, _, _, rfl, hq, ⟨_, rfl⟩, hW, hsame.mono hc hs⟩
theorem own_retI (X : Stand p l e R s m args below meth c T locs cells slots) (hx : p.tables.exec = Jvm.exec) {pc : Nat} {Ls : Array Slot} {z : Int32} {rest : List Value} (hret : meth.sig.returnType = some .int) (hd : decode c.code pc = .ok (.ireturn, 1)) (hc : cells ≤ C) (hs : slots ≤ S) (hq : Q (some (.int z)) T.heap locs) (hlocks : meth.locks = false := by first | assumption | exact BodyLoose.notSynchronized (by assumption)) : Own p e below s Q C S (T.setTop (mkF m pc Ls (.int z :: rest))) :=
  own_ret X (fun h => by rw [hret] at h; cases h) hlocks hc hs hq fun fs hr => retOut X hx hret rfl (Or.inl ⟨rfl, Or.inl rfl, z, rfl⟩) hd hr
theorem own_retN (X : Stand p l e R s m args below meth c T locs cells slots) (hx : p.tables.exec = Jvm.exec) {pc : Nat} {Ls : Array Slot} {z : Int32} {t : FieldType} {rest : List Value} (hret : meth.sig.returnType = some t) (ht : t = .boolean ∨ t = .byte ∨ t = .char ∨ t = .short) (hz : nar t z = z) (hd : decode c.code pc = .ok (.ireturn, 1)) (hc : cells ≤ C) (hs : slots ≤ S) (hq : Q (some (.int z)) T.heap locs) (hlocks : meth.locks = false := by first | assumption | exact BodyLoose.notSynchronized (by assumption)) : Own p e below s Q C S (T.setTop (mkF m pc Ls (.int z :: rest))) :=
  own_ret X (fun h => by rw [hret] at h; cases h) hlocks hc hs hq fun fs hr => retN X hx hret ht hd (by rw [hz]; exact hr)
theorem own_retJ (X : Stand p l e R s m args below meth c T locs cells slots) (hx : p.tables.exec = Jvm.exec) {pc : Nat} {Ls : Array Slot} {z : Int64} {rest : List Value} (hret : meth.sig.returnType = some .long) (hd : decode c.code pc = .ok (.lreturn, 1)) (hc : cells ≤ C) (hs : slots ≤ S) (hq : Q (some (.long z)) T.heap locs) (hlocks : meth.locks = false := by first | assumption | exact BodyLoose.notSynchronized (by assumption)) : Own p e below s Q C S (T.setTop (mkF m pc Ls (.long z :: rest))) :=
  own_ret X (fun h => by rw [hret] at h; cases h) hlocks hc hs hq fun fs hr => retOut X hx hret rfl (Or.inr (Or.inl ⟨rfl, rfl, z, rfl⟩)) hd hr
theorem own_retA (X : Stand p l e R s m args below meth c T locs cells slots) (hx : p.tables.exec = Jvm.exec) {pc : Nat} {Ls : Array Slot} {w : Value} {t : FieldType} {rest : List Value} (hret : meth.sig.returnType = some t) (ht : t.isReference = true) (hw : w.isRef = true) (hd : decode c.code pc = .ok (.areturn, 1)) (hc : cells ≤ C) (hs : slots ≤ S) (hq : Q (some w) T.heap locs) (hlocks : meth.locks = false := by first | assumption | exact BodyLoose.notSynchronized (by assumption)) : Own p e below s Q C S (T.setTop (mkF m pc Ls (w :: rest))) :=
  own_ret X (fun h => by rw [hret] at h; cases h) hlocks hc hs hq fun fs hr => retOut X hx hret (by cases t <;> cases w <;> simp [FieldType.isReference, Value.isRef] at ht hw <;> rfl) (Or.inr (Or.inr (Or.inr (Or.inr ⟨rfl, ht, hw⟩)))) hd hr
theorem own_ret0 (X : Stand p l e R s m args below meth c T locs cells slots) (hx : p.tables.exec = Jvm.exec) {pc : Nat} {Ls : Array Slot} (hret : meth.sig.returnType = none) (hd : decode c.code pc = .ok (.return_, 1)) (hc : cells ≤ C) (hs : slots ≤ S) (hq : Q none T.heap locs) (hlocks : meth.locks = false := by first | assumption | exact BodyLoose.notSynchronized (by assumption)) : Own p e below s Q C S (T.setTop (mkF m pc Ls [])) :=
  own_ret X (fun _ => rfl) hlocks hc hs hq fun fs hr => X.returnOut hx hret hd hr
theorem own_lt1 {a b : Int64} (h : a < b) : ifCond.holds .lt (lcmpW a b) = true ∧ ifCond.holds .ge (lcmpW a b) = false := by
  have h1 : ¬ a > b := fun q => by rw [gt_iff_lt, Int64.lt_iff_toInt_lt] at q; rw [Int64.lt_iff_toInt_lt] at h; omega
  have h2 : ¬ a = b := fun q => by subst q; exact h1 h
  rw [lcmpW, if_neg h1, if_neg h2]; exact ⟨rfl, rfl⟩
theorem own_lt0 {a b : Int64} (h : ¬ a < b) : ifCond.holds .lt (lcmpW a b) = false ∧ ifCond.holds .ge (lcmpW a b) = true := by
  rw [lcmpW]
  by_cases h1 : a > b
  · rw [if_pos h1]; exact ⟨rfl, rfl⟩
  · have h2 : a = b := by rw [gt_iff_lt, Int64.lt_iff_toInt_lt] at h1; rw [Int64.lt_iff_toInt_lt] at h; exact Int64.toInt_inj.mp (by omega)
    rw [if_neg h1, if_pos h2]; exact ⟨rfl, rfl⟩
theorem own_gt1 {a b : Int64} (h : b < a) : ifCond.holds .gt (lcmpW a b) = true ∧ ifCond.holds .le (lcmpW a b) = false := by
  rw [lcmpW, if_pos h]; exact ⟨rfl, rfl⟩
theorem own_gt0 {a b : Int64} (h : ¬ b < a) : ifCond.holds .gt (lcmpW a b) = false ∧ ifCond.holds .le (lcmpW a b) = true := by
  rw [lcmpW, if_neg h]
  by_cases h1 : a = b
  · rw [if_pos h1]; exact ⟨rfl, rfl⟩
  · rw [if_neg h1]; exact ⟨rfl, rfl⟩
theorem own_eq1 {a b : Int64} (h : a = b) : ifCond.holds .eq (lcmpW a b) = true ∧ ifCond.holds .ne (lcmpW a b) = false := by
  have h1 : ¬ a > b := fun q => by subst h; rw [gt_iff_lt, Int64.lt_iff_toInt_lt] at q; omega
  rw [lcmpW, if_neg h1, if_pos h]; exact ⟨rfl, rfl⟩
theorem own_eq0 {a b : Int64} (h : ¬ a = b) : ifCond.holds .eq (lcmpW a b) = false ∧ ifCond.holds .ne (lcmpW a b) = true := by
  rw [lcmpW]
  by_cases h1 : a > b
  · rw [if_pos h1]; exact ⟨rfl, rfl⟩
  · rw [if_neg h1, if_neg h]; exact ⟨rfl, rfl⟩
theorem own_sta_keep {Z : State} {h h' : Heap} {C n d : String} {w : Value} (F : Sta Z h C n d w) (K : Keep h h' []) : Sta Z h' C n d w := by
  obtain ⟨cf, i, k, f, st, cell, h1, h2, h3, h4, h5, h6⟩ := F
  exact ⟨cf, i, k, f, st, cell, h1, h2, h3, h4, K.2.1 st cell h5 nin0, h6⟩
theorem own_arr_keep {Z : State} {h h' : Heap} {a : Addr} {cl : Cell} {ty : FieldType} {ws : List Addr} (A : Arr Z h a cl ty) (K : Keep h h' ws) (q : a ∉ ws) : Arr Z h' a cl ty := ⟨K.2.1 a cl A.1 q, A.2⟩
end OwnKit

section OwnSKit
variable {p : Program} {l : Launch} {e : Env} {R : Room} {s : State} {m : MethodId} {args : Array Value} {below : List Frame} {meth : Method} {c : Code} {T : State} {locs : List Loc} {cells slots : Nat}
variable {Z : State} {a0 : Array Value} {EL : List (String × Nat)} {vm0 : Vm} {k0 : Nat} {h0 H : Heap} {Q : Option Value → Heap → List Loc → Prop} {C S : Nat}
/-- as OwnP, for a body that may load String constants -/
def OwnSP (Z : State) (EL : List (String × Nat)) (below : List Frame) (s : State) (Q : Option Value → Heap → List Loc → Prop) (C S : Nat) (s₂ : State) : Prop := ∃ o, s₂.status = .running ∧ Ended s₂ below o ∧ ∃ v L, o = .returned v ∧ Q v s₂.heap L ∧ CHr Z EL s.vm s.heap s₂.vm s₂.heap ∧ ReturnedEndW s o s₂ L C S
def OwnS (Z : State) (EL : List (String × Nat)) (p : Program) (e : Env) (below : List Frame) (s : State) (Q : Option Value → Heap → List Loc → Prop) (C S : Nat) (a : State) : Prop := Gen p e below (OwnSP Z EL below s Q C S) a
theorem ownS_start {a : State} (k : OwnS Z EL p e below s Q C S a) : ∃ s₂ o, Steps p.tables e below a s₂ ∧ s₂.status = .running ∧ Ended s₂ below o ∧ ∃ v L, o = .returned v ∧ Q v s₂.heap L ∧ CHr Z EL s.vm s.heap s₂.vm s₂.heap ∧ ReturnedEndW s o s₂ L C S := by
  obtain ⟨s2, h1, o, h2⟩ := k
  exact ⟨s2, o, h1, h2⟩
theorem ownS_ret (X : Stand p l e R (s.setVm vm0) m args below meth c T locs cells slots) (hh : s.heap = h0) (hS : s.Since vm0 k0) (eT : T.heap = H) (hk : k0 ≤ H.size) (hZ : Z.Warmed39 vm0) (hEL : EW Z a0 EL) (CH : CHr Z EL s.vm h0 vm0 H) {g : JFrame} {v : Option Value} (hv : meth.sig.returnType = none → v = none) (hlocks : meth.locks = false) (hc : cells ≤ C) (hs : slots ≤ S) (hq : Q v T.heap locs)
    (st : ∀ fs, (∀ (f : JFrame) (acts : List Action), f.method = m → f.locked = none → f.entered = [] → (doReturn e (T.setTop f) acts v).1 = T.setFrames fs) → Steps p.tables e below (T.setTop g) (T.setFrames fs)) : OwnS Z EL p e below s Q C S (T.setTop g) := by
  subst hh eT
  obtain ⟨fs, hr, hrun, hended, hW⟩ := X.leaveW hS hk (v := v) hv hlocks
  have hC := CH.trans (CHv.at X hZ hEL CH.1)
  exact ⟨_, st fs hr, _, hrun, hended, _, _, rfl, hq, hC, hW.1, hW.2.1, hW.2.2.1, hW.2.2.2.mono hc hs⟩
theorem ownS_retN (X : Stand p l e R (s.setVm vm0) m args below meth c T locs cells slots) (hh : s.heap = h0) (hS : s.Since vm0 k0) (eT : T.heap = H) (hk : k0 ≤ H.size) (hZ : Z.Warmed39 vm0) (hEL : EW Z a0 EL) (CH : CHr Z EL s.vm h0 vm0 H) (hx : p.tables.exec = Jvm.exec) {pc : Nat} {Ls : Array Slot} {z : Int32} {t : FieldType} {rest : List Value} (hret : meth.sig.returnType = some t) (ht : t = .boolean ∨ t = .byte ∨ t = .char ∨ t = .short) (hz : nar t z = z) (hd : decode c.code pc = .ok (.ireturn, 1)) (hc : cells ≤ C) (hs : slots ≤ S) (hq : Q (some (.int z)) T.heap locs) (hlocks : meth.locks = false := by first | assumption | exact BodyLoose.notSynchronized (by assumption)) : OwnS Z EL p e below s Q C S (T.setTop (mkF m pc Ls (.int z :: rest))) :=
  ownS_ret X hh hS eT hk hZ hEL CH (fun h => by rw [hret] at h; cases h) hlocks hc hs hq fun fs hr => retN X hx hret ht hd (by rw [hz]; exact hr)
theorem ownS_retA (X : Stand p l e R (s.setVm vm0) m args below meth c T locs cells slots) (hh : s.heap = h0) (hS : s.Since vm0 k0) (eT : T.heap = H) (hk : k0 ≤ H.size) (hZ : Z.Warmed39 vm0) (hEL : EW Z a0 EL) (CH : CHr Z EL s.vm h0 vm0 H) (hx : p.tables.exec = Jvm.exec) {pc : Nat} {Ls : Array Slot} {w : Value} {t : FieldType} {rest : List Value} (hret : meth.sig.returnType = some t) (ht : t.isReference = true) (hw : w.isRef = true) (hd : decode c.code pc = .ok (.areturn, 1)) (hc : cells ≤ C) (hs : slots ≤ S) (hq : Q (some w) T.heap locs) (hlocks : meth.locks = false := by first | assumption | exact BodyLoose.notSynchronized (by assumption)) : OwnS Z EL p e below s Q C S (T.setTop (mkF m pc Ls (w :: rest))) :=
  ownS_ret X hh hS eT hk hZ hEL CH (fun h => by rw [hret] at h; cases h) hlocks hc hs hq fun fs hr => retOut X hx hret (by cases t <;> cases w <;> simp [FieldType.isReference, Value.isRef] at ht hw <;> rfl) (Or.inr (Or.inr (Or.inr (Or.inr ⟨rfl, ht, hw⟩)))) hd hr
theorem ownS_ret0 (X : Stand p l e R (s.setVm vm0) m args below meth c T locs cells slots) (hh : s.heap = h0) (hS : s.Since vm0 k0) (eT : T.heap = H) (hk : k0 ≤ H.size) (hZ : Z.Warmed39 vm0) (hEL : EW Z a0 EL) (CH : CHr Z EL s.vm h0 vm0 H) (hx : p.tables.exec = Jvm.exec) {pc : Nat} {Ls : Array Slot} (hret : meth.sig.returnType = none) (hd : decode c.code pc = .ok (.return_, 1)) (hc : cells ≤ C) (hs : slots ≤ S) (hq : Q none T.heap locs) (hlocks : meth.locks = false := by first | assumption | exact BodyLoose.notSynchronized (by assumption)) : OwnS Z EL p e below s Q C S (T.setTop (mkF m pc Ls [])) :=
  ownS_ret X hh hS eT hk hZ hEL CH (fun _ => rfl) hlocks hc hs hq fun fs hr => X.returnOut hx hret hd hr
/-- a String whose value is null is no booked one -/
theorem own_safe_null {vm : Vm} {h : Heap} {x : Addr} (hal : Z.vm.Alike vm) (E : Exa Z h x "java/lang/String") (F : Fld Z h x "java/lang/String" "value" "[B" .null) : Safe Z EL vm h x := fun B => by
  obtain ⟨p, -, u, a, -, q, -, G, e | e⟩ := B
  · subst e
    obtain ⟨cS, ⟨⟨s1, s2, s3, ⟨cv, kv, iv, s4, s4'⟩, ⟨cc, kc, ic, s5, s5'⟩, s6, s7, s8, -⟩, -⟩, -⟩ := G
    obtain ⟨kv', z4⟩ := ff_back (U := Wst Z vm h) hal s4
    obtain ⟨cell, cf, k, i, f, f1, f2, -, -, -, -, f7⟩ := F
    have e1 := (show h[q.sa]? = some q.sC from s1).symm.trans f1
    cases e1
    have f2 := (show Z.fieldFound? "java/lang/String" "value" "[B" = _ from z4).symm.trans f2
    simp only [Option.some.injEq, Prod.mk.injEq] at f2
    obtain ⟨-, -, -, rfl⟩ := f2
    rw [s8] at f7
    cases f7
  · subst e
    obtain ⟨cell, k, e1, e2, e3, -, -⟩ := E
    have hd : h[q.sd]? = some q.SA := G.hd
    obtain ⟨cS, -, -, f, -⟩ := G
    cases hd.symm.trans e1
    have f' : vm.findClass "[B" = some q.SA.cls := f
    rw [hal.findClass] at f'
    obtain ⟨k1, q1, q2⟩ := Vm.findClass_spec f'
    obtain ⟨k2, q3, q4⟩ := Vm.findClass_spec e2
    cases q1.symm.trans q3
    exact absurd (q2.symm.trans q4) (by decide)
end OwnSKit

theorem own_hEL {Z : State} {a0 : Array Value} (hw : ∀ d ∈ tables_1, d.before a0 Z = true) : EW Z a0 consts_1 := (EW.cons (hw _ (List.mem_of_getElem? (i := 120) rfl)) (by simp) EW.nil)
theorem own_wS {Z : State} {a0 : Array Value} (hw : ∀ d ∈ tables_1, d.before a0 Z = true) : ∀ a ∈ Bundle.stringAtoms, a.before a0 Z = true := fun d hd => by
  simp only [Bundle.stringAtoms, Bundle.sN, List.mem_cons, List.not_mem_nil, or_false] at hd
  rcases hd with rfl | rfl | rfl | rfl | rfl | rfl | rfl
  · exact (hw _ (List.mem_of_getElem? (i := 3) rfl))
  · exact (hw _ (List.mem_of_getElem? (i := 2) rfl))
  · exact (hw _ (List.mem_of_getElem? (i := 19) rfl))
  · exact (hw _ (List.mem_of_getElem? (i := 29) rfl))
  · exact (hw _ (List.mem_of_getElem? (i := 27) rfl))
  · exact (hw _ (List.mem_of_getElem? (i := 121) rfl))
  · exact (hw _ (List.mem_of_getElem? (i := 122) rfl))

/-- an array of small ints by a function of its places -/
def Afn (Z : State) (h : Heap) (a : Addr) (ty : FieldType) (z : Int32) (y : Int32 → Int32) : Prop := ∃ cl : Cell, Arr Z h a cl ty ∧ cl.slots.size = z.toNatClampNeg ∧ ¬ z < 0 ∧ ∀ j : Int32, ¬ (j < 0 ∨ cl.slots.size ≤ j.toNatClampNeg) → cl.slots[j.toNatClampNeg]? = some (.int (y j))
def own_upd (y : Int32 → Int32) (i x : Int32) : Int32 → Int32 := fun j => if j = i then x else y j
section AfnKit
variable {Z : State} {h h' : Heap} {a b : Addr} {ty : FieldType} {z : Int32} {y y' : Int32 → Int32} {sl : Nat} {v : Value} {ws : List Addr}
theorem Afn.lt (F : Afn Z h a ty z y) : a < h.size := by obtain ⟨c, A, -⟩ := F; exact A.lt
theorem Afn.nn (F : Afn Z h a ty z y) : ¬ z < 0 := by obtain ⟨c, -, -, q, -⟩ := F; exact q
theorem Afn.ext (F : Afn Z h a ty z y) (E : Ext h h') : Afn Z h' a ty z y := by obtain ⟨c, A, r⟩ := F; exact ⟨c, A.ext E, r⟩
theorem Afn.other (F : Afn Z h b ty z y) (W : Wr h h' a sl v) (q : b ≠ a) : Afn Z h' b ty z y := by obtain ⟨c, A, r⟩ := F; exact ⟨c, A.other W q, r⟩
theorem Afn.keep (F : Afn Z h a ty z y) (K : Keep h h' ws) (q : a ∉ ws) : Afn Z h' a ty z y := by obtain ⟨c, A, r⟩ := F; exact ⟨c, ⟨K.2.1 a c A.1 q, A.2⟩, r⟩
theorem own_inr {j : Int32} {n : Nat} (S : n = z.toNatClampNeg) (M : ¬ z < 0) (q : ¬ (j < 0 ∨ n ≤ j.toNatClampNeg)) : ¬ j < 0 ∧ j < z := by
  have h1 : ¬ j < 0 := fun x => q (Or.inl x)
  have h2 : ¬ n ≤ j.toNatClampNeg := fun x => q (Or.inr x)
  refine ⟨h1, ?_⟩
  rw [Int32.lt_iff_toInt_lt] at *
  have e0 : (0 : Int32).toInt = 0 := by decide +kernel
  unfold Int32.toNatClampNeg at *
  omega
theorem Afn.congr (F : Afn Z h a ty z y) (q : ∀ j, ¬ j < 0 → j < z → y j = y' j) : Afn Z h a ty z y' := by
  obtain ⟨c, A, S, M, H⟩ := F
  exact ⟨c, A, S, M, fun j hj => by rw [H j hj, q j (own_inr S M hj).1 (own_inr S M hj).2]⟩
theorem Afn.new {k : ClassId} (A : Arr Z h a (newA k ty z) ty) (q : ¬ z < 0) (hd : defaultValue ty = .int 0) : Afn Z h a ty z (fun _ => 0) := ⟨_, A, sz_new _ _ _, q, fun j hj => by
  rw [sz_new] at hj; rw [get_new hj, hd]⟩
theorem Afn.put {cl : Cell} {i x : Int32} (A : Arr Z h a cl ty) (S : cl.slots.size = z.toNatClampNeg) (M : ¬ z < 0) (H : ∀ j : Int32, ¬ (j < 0 ∨ cl.slots.size ≤ j.toNatClampNeg) → cl.slots[j.toNatClampNeg]? = some (.int (y j))) (W : Wr h h' a i.toNatClampNeg (.int x)) (hi : ¬ i < 0) : Afn Z h' a ty z (own_upd y i x) := by
  refine ⟨_, Arr.same W A, by simp [Cell.setSlot, S], M, fun j hj => ?_⟩
  have hj' : ¬ (j < 0 ∨ cl.slots.size ≤ j.toNatClampNeg) := by simpa [Cell.setSlot] using hj
  unfold own_upd
  by_cases e : j = i
  · subst e
    rw [if_pos rfl]
    have : j.toNatClampNeg < cl.slots.size := Nat.lt_of_not_le fun q => hj' (Or.inr q)
    simp [Cell.setSlot, this]
  · rw [if_neg e]
    have ne : i.toNatClampNeg ≠ j.toNatClampNeg := fun q => e (by
      have h1 : ¬ j < 0 := fun x => hj' (Or.inl x)
      rw [Int32.lt_iff_toInt_lt] at h1 hi
      have e0 : (0 : Int32).toInt = 0 := by decide +kernel
      unfold Int32.toNatClampNeg at q
      exact Int32.toInt_inj.mp (by omega))
    show (cl.slots.setIfInBounds i.toNatClampNeg (.int x))[j.toNatClampNeg]? = _
    rw [Array.getElem?_setIfInBounds_ne ne]
    exact H j hj'
end AfnKit
/-- the static that the String code reads -/
def Sts (Z : State) (w0 : Int32) (f0 : Value) : Prop := Sta Z Z.heap "java/lang/String" "COMPACT_STRINGS" "Z" (.int w0) ∧ ¬ w0 = (0 : Int32) ∧ Sta Z Z.heap "jdk/internal/util/Preconditions" "SIOOBE_FORMATTER" "Ljava/util/function/BiFunction;" f0 ∧ f0.isRef = true
abbrev own_i2c (x : Int32) : Int32 := x.toUInt32.toUInt16.toUInt32.toInt32
/-- a char as a byte, and back -/
def own_b (c : Int32) : Int32 := nar .byte c.toInt8.toInt32
def own_lc (b : Int32) : Int32 := own_i2c (b &&& (255 : Int32))
def own_lo (c : Int32) : Int32 := nar .byte (c >>> ((0 : Int32) &&& 31)).toInt8.toInt32
def own_hi (c : Int32) : Int32 := nar .byte (c >>> ((8 : Int32) &&& 31)).toInt8.toInt32
def own_gc (a b : Int32) : Int32 := own_i2c (((a &&& (255 : Int32)) <<< ((0 : Int32) &&& 31)) ||| ((b &&& (255 : Int32)) <<< ((8 : Int32) &&& 31)))
theorem own_nar_i2c (x : Int32) : nar .char (own_i2c x) = own_i2c x := by
  show own_i2c (own_i2c x) = own_i2c x
  have q : ∀ a : UInt32, a % 65536 % 65536 = a % 65536 := fun a => by apply UInt32.toNat_inj.mp; simp [UInt32.toNat_mod]
  simp [own_i2c, q]


theorem own_e0 : (0 : Int32).toInt = 0 := by decide +kernel
theorem own_e1 : (1 : Int32).toInt = 1 := by decide +kernel
/-- one turn more: i is in the range, so i + 1 doesn't wrap -/
theorem own_inc {i p : Int32} (h0 : ¬ i < 0) (hl : i < p) : (i + (1 : Int32)).toInt = i.toInt + 1 := by
  have hp := p.toInt_lt
  rw [Int32.lt_iff_toInt_lt] at h0 hl
  rw [own_e0] at h0
  rw [Jvm.Kit.i32_add (by rw [own_e1]; omega) (by rw [own_e1]; omega), own_e1]
theorem own_step {i p : Int32} {kk : Nat} (h0 : ¬ i < 0) (hl : i < p) (hm : p.toInt - i.toInt ≤ ((kk + 1 : Nat) : Int)) : ¬ (i + (1 : Int32)) < 0 ∧ ¬ p < (i + (1 : Int32)) ∧ p.toInt - (i + (1 : Int32)).toInt ≤ (kk : Int) := by
  have e := own_inc h0 hl
  rw [Int32.lt_iff_toInt_lt] at h0 hl ⊢
  rw [Int32.lt_iff_toInt_lt, e, own_e0] at *
  omega
theorem own_ltS {i j p : Int32} (h0 : ¬ i < 0) (hl : i < p) (hj : j < (i + (1 : Int32))) : j = i ∨ j < i := by
  have e := own_inc h0 hl
  rw [Int32.lt_iff_toInt_lt, e] at hj
  by_cases h : j.toInt = i.toInt
  · exact Or.inl (Int32.toInt_inj.mp h)
  · right; rw [Int32.lt_iff_toInt_lt]; omega
theorem own_top {i p : Int32} (h : ¬ i < p) (g : ¬ p < i) : i = p := by
  rw [Int32.lt_iff_toInt_lt] at h g; exact Int32.toInt_inj.mp (by omega)
theorem own_z0 {i p : Int32} (hm : p.toInt - i.toInt ≤ ((0 : Nat) : Int)) : ¬ i < p := by
  rw [Int32.lt_iff_toInt_lt]; omega
theorem own_os6 {z0 z1 z2 z3 z4 z5 : Value} {s6 : Slot} {v : Int32} (h : One s6) : storeLocals #[.val z0, .val z1, .val z2, .val z3, .val z4, .val z5, s6] 6 (.int v) = some #[.val z0, .val z1, .val z2, .val z3, .val z4, .val z5, .val (.int v)] := by
  rcases h with rfl | ⟨w, rfl, hw⟩
  · rfl
  · cases w <;> first | rfl | (simp [Value.category] at hw)
theorem own_os3 {z0 z1 z2 : Value} {s3 : Slot} {v : Int32} (h : One s3) : storeLocals #[.val z0, .val z1, .val z2, s3] 3 (.int v) = some #[.val z0, .val z1, .val z2, .val (.int v)] := by
  rcases h with rfl | ⟨w, rfl, hw⟩
  · rfl
  · cases w <;> first | rfl | (simp [Value.category] at hw)
theorem own_nar_b (x : Int32) : nar .byte x.toInt8.toInt32 = x.toInt8.toInt32 := by simp [nar]
/-- the low byte, masked, is the number modulo 256 -/
theorem own_mask8 (x : Int32) : ((nar .byte x.toInt8.toInt32) &&& (255 : Int32)) = x &&& (255 : Int32) := by
  rw [own_nar_b]
  apply Int32.toBitVec_inj.mp
  simp only [Int32.toBitVec_and, Int8.toBitVec_toInt32, Int32.toBitVec_toInt8]
  generalize x.toBitVec = v
  have e : (255 : Int32).toBitVec = 255#32 := rfl
  rw [e]
  apply BitVec.eq_of_getLsbD_eq
  intro i hi
  simp only [BitVec.getLsbD_and, BitVec.getLsbD_signExtend, BitVec.getLsbD_setWidth, BitVec.getLsbD_ofNat]
  by_cases h : i < 8
  · simp [h, hi]
  · have : Nat.testBit 255 i = false := Nat.testBit_lt_two_pow (Nat.lt_of_lt_of_le (by decide : 255 < 2 ^ 8) (Nat.pow_le_pow_right (by decide) (Nat.le_of_not_lt h)))
    simp [this]
theorem own_i2c_id {x : Int32} (h0 : ¬ x < 0) (h1 : ¬ (65535 : Int32) < x) : own_i2c x = x := by
  rw [Int32.lt_iff_toInt_lt] at h0 h1
  have e5 : (65535 : Int32).toInt = 65535 := by decide +kernel
  rw [own_e0] at h0
  rw [e5] at h1
  apply Int32.toBitVec_inj.mp
  have hn : x.toBitVec.toNat < 65536 := by
    have q := Int32.toInt_toBitVec x
    rw [BitVec.toInt_eq_toNat_cond] at q
    have := x.toBitVec.isLt
    split at q <;> omega
  simp only [own_i2c, UInt32.toBitVec_toInt32, UInt16.toBitVec_toUInt32, UInt32.toBitVec_toUInt16, Int32.toBitVec_toUInt32]
  apply BitVec.eq_of_toNat_eq
  simp only [BitVec.toNat_setWidth]
  omega
theorem own_lat {c : Int32} (h0 : ¬ c < 0) (h1 : ¬ (255 : Int32) < c) : own_lc (own_b c) = c := by
  have e2 : (255 : Int32).toInt = 255 := by decide +kernel
  have e5 : (65535 : Int32).toInt = 65535 := by decide +kernel
  have m : (c &&& (255 : Int32)) = c := by
    apply Int32.toInt_inj.mp
    rw [Jvm.Kit.i32_mask c 255 (k := 8) (by decide) (by decide)]
    rw [Int32.lt_iff_toInt_lt] at h0 h1
    rw [own_e0] at h0; rw [e2] at h1
    omega
  unfold own_lc own_b
  rw [own_mask8, m]
  exact own_i2c_id h0 (by rw [Int32.lt_iff_toInt_lt] at h1 ⊢; rw [e2] at h1; rw [e5]; omega)


theorem own_safe_afn {Z : State} {EL : List (String × Nat)} {vm : Vm} {h : Heap} {a : Addr} {ty : FieldType} {z : Int32} {y : Int32 → Int32} (hal : Z.vm.Alike vm) (F : Afn Z h a ty z y) (ht : ty ≠ .byte) : Safe Z EL vm h a := by obtain ⟨c, A, -⟩ := F; exact Safe.arr hal A ht
theorem own_afn0 {Z : State} {h : Heap} {b : Addr} {k : ClassId} (F : Arv Z h b k .byte 0 [] (.int 0)) (y : Int32 → Int32) : Afn Z h b .byte 0 y := by
  obtain ⟨c, A, -, S, M, -⟩ := F
  refine ⟨c, A, S, M, fun j hj => ?_⟩
  exact absurd (own_inr S M hj).2 (fun q => (own_inr S M hj).1 q)
theorem own_ne {i p : Int32} (h : i < p) : ¬ i = p := fun q => by subst q; rw [Int32.lt_iff_toInt_lt] at h; omega
/-- the String s says, in one byte each, the chars y, z of them -/
def Lat (Z : State) (h : Heap) (s : Addr) (z : Int32) (y : Int32 → Int32) : Prop := ∃ b : Addr, Fld Z h s "java/lang/String" "value" "[B" (.ref b) ∧ Fld Z h s "java/lang/String" "coder" "B" (.int 0) ∧ Afn Z h b .byte z (fun j => own_b (y j))
theorem own_cw0 (p : Int32) : (((p - p).toUInt32 >>> ((31 : Int32) &&& 31).toUInt32).toInt32).toInt8.toInt32 = (0 : Int32) := by
  rw [Int32.sub_self]; decide +kernel

theorem own_nnz {z : Int32} (h : ¬ z < 0) : 0 ≤ z.toInt - (0 : Int32).toInt := by rw [Int32.lt_iff_toInt_lt, own_e0] at h; rw [own_e0]; omega

theorem d5_0 : decode jdk_52_method_21_code 0 = .ok (.iconst 0, 1) := by decide +kernel
theorem d5_1 : decode jdk_52_method_21_code 1 = .ok (.istore 5, 2) := by decide +kernel
theorem d5_3 : decode jdk_52_method_21_code 3 = .ok (.iload 5, 2) := by decide +kernel
theorem d5_5 : decode jdk_52_method_21_code 5 = .ok (.iload 4, 2) := by decide +kernel
theorem d5_7 : decode jdk_52_method_21_code 7 = .ok (.if_icmp .ge 37, 3) := by decide +kernel
theorem d5_10 : decode jdk_52_method_21_code 10 = .ok (.aload_n 0, 1) := by decide +kernel
theorem d5_11 : decode jdk_52_method_21_code 11 = .ok (.iload_n 1, 1) := by decide +kernel
theorem d5_12 : decode jdk_52_method_21_code 12 = .ok (.caload, 1) := by decide +kernel
theorem d5_13 : decode jdk_52_method_21_code 13 = .ok (.istore 6, 2) := by decide +kernel
theorem d5_15 : decode jdk_52_method_21_code 15 = .ok (.iload 6, 2) := by decide +kernel
theorem d5_17 : decode jdk_52_method_21_code 17 = .ok (.sipush 255, 3) := by decide +kernel
theorem d5_20 : decode jdk_52_method_21_code 20 = .ok (.if_icmp .le 6, 3) := by decide +kernel
theorem d5_26 : decode jdk_52_method_21_code 26 = .ok (.aload_n 2, 1) := by decide +kernel
theorem d5_27 : decode jdk_52_method_21_code 27 = .ok (.iload_n 3, 1) := by decide +kernel
theorem d5_28 : decode jdk_52_method_21_code 28 = .ok (.iload 6, 2) := by decide +kernel
theorem d5_30 : decode jdk_52_method_21_code 30 = .ok (.i2b, 1) := by decide +kernel
theorem d5_31 : decode jdk_52_method_21_code 31 = .ok (.bastore, 1) := by decide +kernel
theorem d5_32 : decode jdk_52_method_21_code 32 = .ok (.iinc 1 1, 3) := by decide +kernel
theorem d5_35 : decode jdk_52_method_21_code 35 = .ok (.iinc 3 1, 3) := by decide +kernel
theorem d5_38 : decode jdk_52_method_21_code 38 = .ok (.iinc 5 1, 3) := by decide +kernel
theorem d5_41 : decode jdk_52_method_21_code 41 = .ok (.goto (-38), 3) := by decide +kernel
theorem d5_44 : decode jdk_52_method_21_code 44 = .ok (.iload 4, 2) := by decide +kernel
theorem d5_46 : decode jdk_52_method_21_code 46 = .ok (.ireturn, 1) := by decide +kernel
theorem pn_5 : plainName "java/lang/StringUTF16" = true := by first | (simp [plainName, overriddenIn]; done) | decide +kernel
theorem ef_5 (m : MethodId) (x0 : Addr) (x1 : Int32) (x2 : Addr) (x3 : Int32) (x4 : Int32) : entryFrame m #[(.ref x0), (.int x1), (.ref x2), (.int x3), (.int x4)] 7 = mkF m 0 #[.val (.ref x0), .val (.int x1), .val (.ref x2), .val (.int x3), .val (.int x4), .unset, .unset] [] := by first | (simp [entryFrame, mkF, argsToLocals, Value.category]; done) | rfl
def Q5 (Z : State) (a3 : Addr) (p2 p5 : Int32) (y : Int32 → Int32) (h0 : Heap) (n0 : Nat) (v : Option Value) (h : Heap) (L : List Loc) : Prop := v = some (.int p5) ∧ Fr n0 L ∧ Keep h0 h [a3] ∧ Afn Z h a3 .byte p5 (fun j => own_b (y (p2 + j)))
set_option maxRecDepth 65536 in
set_option maxHeartbeats 40000000 in
theorem rm5 (l : Launch) (Z : State) (a0 : Array Value) (hw : ∀ d ∈ tables_1, d.before a0 Z = true) (wds : List Jvm.Cond) (a1 : Addr) (p2 : Int32) (a3 : Addr) (p5 : Int32) (zc : Int32) (y yb0 : Int32 → Int32) (h0 : Heap) (n0 : Nat) (Z0 : n0 ≤ h0.size) (P0 : Afn Z h0 a1 .char zc y) (P1 : Afn Z h0 a3 .byte p5 yb0) (g_a3 : n0 ≤ a3) (ne13 : a1 ≠ a3) (hin : ∀ j : Int32, ¬ j < 0 → j < p5 → (¬ (p2 + j) < 0 ∧ (p2 + j) < zc) ∧ (¬ y (p2 + j) < 0 ∧ ¬ (255 : Int32) < y (p2 + j))) :
    MetFree l (⟨"java/lang/StringUTF16", "compress", "([CI[BII)I"⟩ : MethodName) (head1 (Jvm.Cond.code (⟨"java/lang/StringUTF16", "compress", "([CI[BII)I"⟩ : MethodName) jdk_52_method_21_code 7 (some .int) :: wds) ({ frames := 0, cells := 0, slots := 0, locals := 0 } : Room)) (fun a U => a = #[(.ref a1), (.int p2), (.ref a3), (.int (0 : Int32)), (.int p5)] ∧ Z.Warmed39 U.vm ∧ U.heap = h0) (fun _ _ _ _ _ => True) (fun _ U o U' => ∃ v L, o = .returned v ∧ Q5 Z a3 p2 p5 y h0 n0 v U'.heap L ∧ FrameEnd U o U' L ({ frames := 0, cells := 0, slots := 0, locals := 0 } : Room).cells ({ frames := 0, cells := 0, slots := 0, locals := 0 } : Room).slots) := by
  refine MetFree.of_bodySF (plainFor_of_name pn_5) hisR ?_
  intro p e s m args below meth c s₁ Bd hml0 hP hK
  obtain ⟨rfl, hZ, hh⟩ := hP
  have hx := Bd.exec
  have hby := Bd.bytes
  have hml : c.maxLocals = 7 := hml0
  have hown : s.vm.findClass "java/lang/StringUTF16" = some m.cls := findClass_of_methodNamed Bd.named
  have hnm := (name_of_methodNamed Bd.named Bd.method).1
  have X0 : Stand p l e ({ frames := 0, cells := 0, slots := 0, locals := 0 } : Room) s m #[(.ref a1), (.int p2), (.ref a3), (.int (0 : Int32)), (.int p5)] below meth c s₁ [] 0 0 := Stand.of_body Bd
  have e0 : s₁.heap = h0 := by rw [← hh, Bd.state]; rfl
  have N0 := Fr.nil n0
  refine own_start (Q := Q5 Z a3 p2 p5 y h0 n0) (C := ({ frames := 0, cells := 0, slots := 0, locals := 0 } : Room).cells) (S := ({ frames := 0, cells := 0, slots := 0, locals := 0 } : Room).slots) ?_
  rw [ef_5 m a1 p2 a3 (0 : Int32) p5]
  have K0 : Keep h0 h0 [a3] := Keep.refl h0 [a3]
  refine Gen.on (b := s₁.setTop (mkF m 1 #[.val (.ref a1), .val (.int p2), .val (.ref a3), .val (.int (0 : Int32)), .val (.int p5), .unset, .unset] [(.int (0 : Int32))])) ?_ (fun t k => XS.iconst X0.here hx rfl (hb hby d5_0) k)
  refine Gen.on (b := s₁.setTop (mkF m 3 #[.val (.ref a1), .val (.int p2), .val (.ref a3), .val (.int (0 : Int32)), .val (.int p5), .val (.int (0 : Int32)), .unset] [])) ?_ (fun t k => XS.istore X0.here hx rfl (hb hby d5_1) rfl (l' := #[.val (.ref a1), .val (.int p2), .val (.ref a3), .val (.int (0 : Int32)), .val (.int p5), .val (.int (0 : Int32)), .unset]) rfl k)
  have loop : ∀ (kk : Nat) (i : Int32) (s6 : Slot) (TL : State) (lL : List Loc) (hL : Heap) (yb : Int32 → Int32), One s6 → ¬ i < 0 → ¬ p5 < i → p5.toInt - i.toInt ≤ (kk : Int) → Stand p l e ({ frames := 0, cells := 0, slots := 0, locals := 0 } : Room) s m #[(.ref a1), (.int p2), (.ref a3), (.int (0 : Int32)), (.int p5)] below meth c TL lL 0 0 → TL.heap = hL → Fr n0 lL → n0 ≤ hL.size → Keep h0 hL [a3] → Afn Z hL a1 .char zc y → Afn Z hL a3 .byte p5 yb → (∀ j : Int32, ¬ j < 0 → j < i → yb j = own_b (y (p2 + j))) → Own p e below s (Q5 Z a3 p2 p5 y h0 n0) ({ frames := 0, cells := 0, slots := 0, locals := 0 } : Room).cells ({ frames := 0, cells := 0, slots := 0, locals := 0 } : Room).slots (TL.setTop (mkF m 3 #[.val (.ref a1), .val (.int (p2 + i)), .val (.ref a3), .val (.int i), .val (.int p5), .val (.int i), s6] [])) := by
    intro kk
    induction kk with
    | zero =>
      intro i s6 TL lL hL yb hs6 hi0 hip hm XL eL NL ZL KL Y1 Y3 hyb
      refine Gen.on (b := TL.setTop (mkF m 5 #[.val (.ref a1), .val (.int (p2 + i)), .val (.ref a3), .val (.int i), .val (.int p5), .val (.int i), s6] [(.int i)])) ?_ (fun t k => XS.iload XL.here hx rfl (hb hby d5_3) rfl k)
      refine Gen.on (b := TL.setTop (mkF m 7 #[.val (.ref a1), .val (.int (p2 + i)), .val (.ref a3), .val (.int i), .val (.int p5), .val (.int i), s6] [(.int p5), (.int i)])) ?_ (fun t k => XS.iload XL.here hx rfl (hb hby d5_5) rfl k)
      refine Gen.on (b := TL.setTop (mkF m 44 #[.val (.ref a1), .val (.int (p2 + i)), .val (.ref a3), .val (.int i), .val (.int p5), .val (.int i), s6] [])) ?_ (fun t k => XS.icmpYes XL.here hx rfl (pc0 := 7) (pc' := 44) rfl (hb hby d5_7) rfl (flt (own_z0 hm)).2.1 (by decide) (by decide) k)
      refine Gen.on (b := TL.setTop (mkF m 46 #[.val (.ref a1), .val (.int (p2 + i)), .val (.ref a3), .val (.int i), .val (.int p5), .val (.int i), s6] [(.int p5)])) ?_ (fun t k => XS.iload XL.here hx rfl (hb hby d5_44) rfl k)
      refine own_retI XL hx Bd.returns (hb hby d5_46) (by decide) (by decide) ?_
      show Q5 Z a3 p2 p5 y h0 n0 _ TL.heap _
      rw [eL]
      have hip' := own_top (own_z0 hm) hip
      subst hip'
      exact ⟨rfl, NL, KL, Afn.congr Y3 hyb⟩
    | succ kk ih =>
      intro i s6 TL lL hL yb hs6 hi0 hip hm XL eL NL ZL KL Y1 Y3 hyb
      refine Gen.on (b := TL.setTop (mkF m 5 #[.val (.ref a1), .val (.int (p2 + i)), .val (.ref a3), .val (.int i), .val (.int p5), .val (.int i), s6] [(.int i)])) ?_ (fun t k => XS.iload XL.here hx rfl (hb hby d5_3) rfl k)
      refine Gen.on (b := TL.setTop (mkF m 7 #[.val (.ref a1), .val (.int (p2 + i)), .val (.ref a3), .val (.int i), .val (.int p5), .val (.int i), s6] [(.int p5), (.int i)])) ?_ (fun t k => XS.iload XL.here hx rfl (hb hby d5_5) rfl k)
      by_cases c7_1 : i < p5
      · refine Gen.on (b := TL.setTop (mkF m 10 #[.val (.ref a1), .val (.int (p2 + i)), .val (.ref a3), .val (.int i), .val (.int p5), .val (.int i), s6] [])) ?_ (fun t k => XS.icmpNo XL.here hx rfl (hb hby d5_7) rfl (tlt c7_1).2.1 k)
        refine Gen.on (b := TL.setTop (mkF m 11 #[.val (.ref a1), .val (.int (p2 + i)), .val (.ref a3), .val (.int i), .val (.int p5), .val (.int i), s6] [(.ref a1)])) ?_ (fun t k => XS.aloadN XL.here hx rfl (hb hby d5_10) rfl rfl k)
        refine Gen.on (b := TL.setTop (mkF m 12 #[.val (.ref a1), .val (.int (p2 + i)), .val (.ref a3), .val (.int i), .val (.int p5), .val (.int i), s6] [(.int (p2 + i)), (.ref a1)])) ?_ (fun t k => XS.iloadN XL.here hx rfl (hb hby d5_11) rfl k)
        obtain ⟨cl1, Ar1, SA1, NA1, HA1⟩ := id Y1
        have hin1 : ¬ ((p2 + i) < 0 ∨ cl1.slots.size ≤ ((p2 + i)).toNatClampNeg) := inb_of SA1 ⟨(hin i hi0 c7_1).1.1, (hin i hi0 c7_1).1.2⟩
        refine Gen.on (b := TL.setTop (mkF m 13 #[.val (.ref a1), .val (.int (p2 + i)), .val (.ref a3), .val (.int i), .val (.int p5), .val (.int i), s6] [(.int (y (p2 + i)))])) ?_ (fun t k => XL.caload hx (j := (p2 + i)) (v := (.int (y (p2 + i)))) (by rw [eL]; exact Ar1.1) (State.isArrayOf_alike hZ.alike Ar1.2.1) Ar1.2.2 hin1 (HA1 _ hin1) (g := (mkF m 12 #[.val (.ref a1), .val (.int (p2 + i)), .val (.ref a3), .val (.int i), .val (.int p5), .val (.int i), s6] [(.int (p2 + i)), (.ref a1)])) rfl rfl (hb hby d5_12) t k)
        refine Gen.on (b := TL.setTop (mkF m 15 #[.val (.ref a1), .val (.int (p2 + i)), .val (.ref a3), .val (.int i), .val (.int p5), .val (.int i), .val (.int (y (p2 + i)))] [])) ?_ (fun t k => XS.istore XL.here hx rfl (hb hby d5_13) rfl (l' := #[.val (.ref a1), .val (.int (p2 + i)), .val (.ref a3), .val (.int i), .val (.int p5), .val (.int i), .val (.int (y (p2 + i)))]) (own_os6 hs6) k)
        refine Gen.on (b := TL.setTop (mkF m 17 #[.val (.ref a1), .val (.int (p2 + i)), .val (.ref a3), .val (.int i), .val (.int p5), .val (.int i), .val (.int (y (p2 + i)))] [(.int (y (p2 + i)))])) ?_ (fun t k => XS.iload XL.here hx rfl (hb hby d5_15) rfl k)
        refine Gen.on (b := TL.setTop (mkF m 20 #[.val (.ref a1), .val (.int (p2 + i)), .val (.ref a3), .val (.int i), .val (.int p5), .val (.int i), .val (.int (y (p2 + i)))] [(.int (255 : Int32)), (.int (y (p2 + i)))])) ?_ (fun t k => XS.sipush XL.here hx rfl (hb hby d5_17) k)
        refine Gen.on (b := TL.setTop (mkF m 26 #[.val (.ref a1), .val (.int (p2 + i)), .val (.ref a3), .val (.int i), .val (.int p5), .val (.int i), .val (.int (y (p2 + i)))] [])) ?_ (fun t k => XS.icmpYes XL.here hx rfl (pc0 := 20) (pc' := 26) rfl (hb hby d5_20) rfl (flt (hin i hi0 c7_1).2.2).2.2.2 (by decide) (by decide) k)
        refine Gen.on (b := TL.setTop (mkF m 27 #[.val (.ref a1), .val (.int (p2 + i)), .val (.ref a3), .val (.int i), .val (.int p5), .val (.int i), .val (.int (y (p2 + i)))] [(.ref a3)])) ?_ (fun t k => XS.aloadN XL.here hx rfl (hb hby d5_26) rfl rfl k)
        refine Gen.on (b := TL.setTop (mkF m 28 #[.val (.ref a1), .val (.int (p2 + i)), .val (.ref a3), .val (.int i), .val (.int p5), .val (.int i), .val (.int (y (p2 + i)))] [(.int i), (.ref a3)])) ?_ (fun t k => XS.iloadN XL.here hx rfl (hb hby d5_27) rfl k)
        refine Gen.on (b := TL.setTop (mkF m 30 #[.val (.ref a1), .val (.int (p2 + i)), .val (.ref a3), .val (.int i), .val (.int p5), .val (.int i), .val (.int (y (p2 + i)))] [(.int (y (p2 + i))), (.int i), (.ref a3)])) ?_ (fun t k => XS.iload XL.here hx rfl (hb hby d5_28) rfl k)
        refine Gen.on (b := TL.setTop (mkF m 31 #[.val (.ref a1), .val (.int (p2 + i)), .val (.ref a3), .val (.int i), .val (.int p5), .val (.int i), .val (.int (y (p2 + i)))] [(.int (y (p2 + i)).toInt8.toInt32), (.int i), (.ref a3)])) ?_ (fun t k => XS.i2b XL.here hx rfl (hb hby d5_30) rfl k)
        obtain ⟨cl2, Ar2, SA2, NA2, HA2⟩ := id Y3
        have hin2 : ¬ (i < 0 ∨ cl2.slots.size ≤ (i).toNatClampNeg) := inb_of SA2 ⟨hi0, c7_1⟩
        obtain ⟨T2, h2, X2, e2, W2, st2⟩ := stB XL hx hZ eL Ar2 (j := i) hin2 (g := (mkF m 31 #[.val (.ref a1), .val (.int (p2 + i)), .val (.ref a3), .val (.int i), .val (.int p5), .val (.int i), .val (.int (y (p2 + i)))] [(.int (y (p2 + i)).toInt8.toInt32), (.int i), (.ref a3)])) rfl rfl (hb hby d5_31)
        have Y2 := Afn.put Ar2 SA2 NA2 HA2 W2 hi0
        have Z2 : n0 ≤ h2.size := Nat.le_trans ZL (Keep.of_wr W2).1
        have K2 : Keep h0 h2 [a3] := KL.wr W2 (Or.inl (List.mem_of_getElem? (i := 0) rfl))
        have N2 := Fr.snoc X2 NL g_a3
        refine Gen.on (b := T2.setTop (mkF m 32 #[.val (.ref a1), .val (.int (p2 + i)), .val (.ref a3), .val (.int i), .val (.int p5), .val (.int i), .val (.int (y (p2 + i)))] [])) ?_ (fun t k => st2 t k)
        refine Gen.on (b := T2.setTop (mkF m 35 #[.val (.ref a1), .val (.int ((p2 + i) + (1 : Int32))), .val (.ref a3), .val (.int i), .val (.int p5), .val (.int i), .val (.int (y (p2 + i)))] [])) ?_ (fun t k => XS.iinc X2.here hx rfl (hb hby d5_32) rfl (l' := #[.val (.ref a1), .val (.int ((p2 + i) + (1 : Int32))), .val (.ref a3), .val (.int i), .val (.int p5), .val (.int i), .val (.int (y (p2 + i)))]) rfl k)
        refine Gen.on (b := T2.setTop (mkF m 38 #[.val (.ref a1), .val (.int ((p2 + i) + (1 : Int32))), .val (.ref a3), .val (.int (i + (1 : Int32))), .val (.int p5), .val (.int i), .val (.int (y (p2 + i)))] [])) ?_ (fun t k => XS.iinc X2.here hx rfl (hb hby d5_35) rfl (l' := #[.val (.ref a1), .val (.int ((p2 + i) + (1 : Int32))), .val (.ref a3), .val (.int (i + (1 : Int32))), .val (.int p5), .val (.int i), .val (.int (y (p2 + i)))]) rfl k)
        refine Gen.on (b := T2.setTop (mkF m 41 #[.val (.ref a1), .val (.int ((p2 + i) + (1 : Int32))), .val (.ref a3), .val (.int (i + (1 : Int32))), .val (.int p5), .val (.int (i + (1 : Int32))), .val (.int (y (p2 + i)))] [])) ?_ (fun t k => XS.iinc X2.here hx rfl (hb hby d5_38) rfl (l' := #[.val (.ref a1), .val (.int ((p2 + i) + (1 : Int32))), .val (.ref a3), .val (.int (i + (1 : Int32))), .val (.int p5), .val (.int (i + (1 : Int32))), .val (.int (y (p2 + i)))]) rfl k)
        refine Gen.on (b := T2.setTop (mkF m 3 #[.val (.ref a1), .val (.int ((p2 + i) + (1 : Int32))), .val (.ref a3), .val (.int (i + (1 : Int32))), .val (.int p5), .val (.int (i + (1 : Int32))), .val (.int (y (p2 + i)))] [])) ?_ (fun t k => XS.goto X2.here hx rfl (pc0 := 41) (pc' := 3) rfl (hb hby d5_41) (by decide) (by decide) k)
        have hstp := own_step hi0 c7_1 hm
        rw [show (p2 + i) + (1 : Int32) = p2 + (i + (1 : Int32)) from Int32.add_assoc _ _ _]
        have fa3 := (Y1.other W2 ne13)
        exact ih (i + (1 : Int32)) _ _ _ _ _ (One.val rfl) hstp.1 hstp.2.1 hstp.2.2 X2 e2 N2 Z2 K2 fa3 Y2 (fun j hj0 hj => by
          rcases own_ltS hi0 c7_1 hj with rfl | hj'
          · exact if_pos rfl
          · have ne : ¬ j = i := fun q => by subst q; rw [Int32.lt_iff_toInt_lt] at hj'; omega
            exact (if_neg ne).trans (hyb j hj0 hj'))
      · refine Gen.on (b := TL.setTop (mkF m 44 #[.val (.ref a1), .val (.int (p2 + i)), .val (.ref a3), .val (.int i), .val (.int p5), .val (.int i), s6] [])) ?_ (fun t k => XS.icmpYes XL.here hx rfl (pc0 := 7) (pc' := 44) rfl (hb hby d5_7) rfl (flt c7_1).2.1 (by decide) (by decide) k)
        refine Gen.on (b := TL.setTop (mkF m 46 #[.val (.ref a1), .val (.int (p2 + i)), .val (.ref a3), .val (.int i), .val (.int p5), .val (.int i), s6] [(.int p5)])) ?_ (fun t k => XS.iload XL.here hx rfl (hb hby d5_44) rfl k)
        refine own_retI XL hx Bd.returns (hb hby d5_46) (by decide) (by decide) ?_
        show Q5 Z a3 p2 p5 y h0 n0 _ TL.heap _
        rw [eL]
        have hip' := own_top c7_1 hip
        subst hip'
        exact ⟨rfl, NL, KL, Afn.congr Y3 hyb⟩
  have lp := loop _ (0 : Int32) .unset _ _ _ _ One.u (by decide) P1.nn (Int.le_of_eq (Int.toNat_of_nonneg (own_nnz P1.nn)).symm) X0 e0 N0 Z0 K0 P0 P1 (fun j h1 h2 => absurd h2 h1)
  rw [Int32.add_zero] at lp
  exact lp

theorem d6_0 : decode jdk_52_method_15_code 0 = .ok (.iload_n 1, 1) := by decide +kernel
theorem d6_1 : decode jdk_52_method_15_code 1 = .ok (.aload_n 0, 1) := by decide +kernel
theorem d6_2 : decode jdk_52_method_15_code 2 = .ok (.arraylength, 1) := by decide +kernel
theorem d6_3 : decode jdk_52_method_15_code 3 = .ok (.isub, 1) := by decide +kernel
theorem d6_4 : decode jdk_52_method_15_code 4 = .ok (.bipush 31, 2) := by decide +kernel
theorem d6_6 : decode jdk_52_method_15_code 6 = .ok (.iushr, 1) := by decide +kernel
theorem d6_7 : decode jdk_52_method_15_code 7 = .ok (.i2b, 1) := by decide +kernel
theorem d6_8 : decode jdk_52_method_15_code 8 = .ok (.ireturn, 1) := by decide +kernel
theorem pn_6 : plainName "java/lang/StringUTF16" = true := by first | (simp [plainName, overriddenIn]; done) | decide +kernel
theorem ef_6 (m : MethodId) (x0 : Addr) (x1 : Int32) : entryFrame m #[(.ref x0), (.int x1)] 2 = mkF m 0 #[.val (.ref x0), .val (.int x1)] [] := by first | (simp [entryFrame, mkF, argsToLocals, Value.category]; done) | rfl
def Q6 (Z : State) (a1 : Addr) (p2 : Int32) (zb : Int32) (yb : Int32 → Int32) (w1 : Int32) (h0 : Heap) (n0 : Nat) (v : Option Value) (h : Heap) (L : List Loc) : Prop := v = some (.int w1) ∧ Fr n0 L ∧ h = h0
set_option maxRecDepth 65536 in
set_option maxHeartbeats 40000000 in
theorem rm6 (l : Launch) (Z : State) (a0 : Array Value) (hw : ∀ d ∈ tables_1, d.before a0 Z = true) (wds : List Jvm.Cond) (a1 : Addr) (p2 : Int32) (zb : Int32) (yb : Int32 → Int32) (w1 : Int32) (h0 : Heap) (n0 : Nat) (Z0 : n0 ≤ h0.size) (P0 : Afn Z h0 a1 .byte zb yb) (hcw : ((((p2 - zb).toUInt32 >>> ((31 : Int32) &&& 31).toUInt32).toInt32).toInt8.toInt32) = w1) :
    MetFree l (⟨"java/lang/StringUTF16", "coderFromArrayLen", "([BI)B"⟩ : MethodName) (head1 (Jvm.Cond.code (⟨"java/lang/StringUTF16", "coderFromArrayLen", "([BI)B"⟩ : MethodName) jdk_52_method_15_code 2 (some .byte) :: wds) ({ frames := 0, cells := 0, slots := 0, locals := 0 } : Room)) (fun a U => a = #[(.ref a1), (.int p2)] ∧ Z.Warmed39 U.vm ∧ U.heap = h0) (fun _ _ _ _ _ => True) (fun _ U o U' => ∃ v L, o = .returned v ∧ Q6 Z a1 p2 zb yb w1 h0 n0 v U'.heap L ∧ FrameEnd U o U' L ({ frames := 0, cells := 0, slots := 0, locals := 0 } : Room).cells ({ frames := 0, cells := 0, slots := 0, locals := 0 } : Room).slots) := by
  refine MetFree.of_bodySF (plainFor_of_name pn_6) hisR ?_
  intro p e s m args below meth c s₁ Bd hml0 hP hK
  obtain ⟨rfl, hZ, hh⟩ := hP
  have hx := Bd.exec
  have hby := Bd.bytes
  have hml : c.maxLocals = 2 := hml0
  have hown : s.vm.findClass "java/lang/StringUTF16" = some m.cls := findClass_of_methodNamed Bd.named
  have hnm := (name_of_methodNamed Bd.named Bd.method).1
  have X0 : Stand p l e ({ frames := 0, cells := 0, slots := 0, locals := 0 } : Room) s m #[(.ref a1), (.int p2)] below meth c s₁ [] 0 0 := Stand.of_body Bd
  have e0 : s₁.heap = h0 := by rw [← hh, Bd.state]; rfl
  have N0 := Fr.nil n0
  refine own_start (Q := Q6 Z a1 p2 zb yb w1 h0 n0) (C := ({ frames := 0, cells := 0, slots := 0, locals := 0 } : Room).cells) (S := ({ frames := 0, cells := 0, slots := 0, locals := 0 } : Room).slots) ?_
  rw [ef_6 m a1 p2]
  refine Gen.on (b := s₁.setTop (mkF m 1 #[.val (.ref a1), .val (.int p2)] [(.int p2)])) ?_ (fun t k => XS.iloadN X0.here hx rfl (hb hby d6_0) rfl k)
  refine Gen.on (b := s₁.setTop (mkF m 2 #[.val (.ref a1), .val (.int p2)] [(.ref a1), (.int p2)])) ?_ (fun t k => XS.aloadN X0.here hx rfl (hb hby d6_1) rfl rfl k)
  obtain ⟨cl1, Ar1, SA1, NA1, HA1⟩ := id P0
  refine Gen.on (b := s₁.setTop (mkF m 3 #[.val (.ref a1), .val (.int p2)] [(.int zb), (.int p2)])) ?_ (fun t k => X0.arraylength hx (by rw [e0]; exact Ar1.1) (State.isArrayOf_alike hZ.alike Ar1.2.1) (g := (mkF m 2 #[.val (.ref a1), .val (.int p2)] [(.ref a1), (.int p2)])) rfl rfl (hb hby d6_2) t (by rw [len_of SA1 NA1]; exact k))
  refine Gen.on (b := s₁.setTop (mkF m 4 #[.val (.ref a1), .val (.int p2)] [(.int (p2 - zb))])) ?_ (fun t k => XS.isub X0.here hx rfl (hb hby d6_3) rfl k)
  refine Gen.on (b := s₁.setTop (mkF m 6 #[.val (.ref a1), .val (.int p2)] [(.int (31 : Int32)), (.int (p2 - zb))])) ?_ (fun t k => XS.bipush X0.here hx rfl (hb hby d6_4) k)
  refine Gen.on (b := s₁.setTop (mkF m 7 #[.val (.ref a1), .val (.int p2)] [(.int (((p2 - zb).toUInt32 >>> ((31 : Int32) &&& 31).toUInt32).toInt32))])) ?_ (fun t k => XS.iushr X0.here hx rfl (hb hby d6_6) rfl k)
  refine Gen.on (b := s₁.setTop (mkF m 8 #[.val (.ref a1), .val (.int p2)] [(.int (((p2 - zb).toUInt32 >>> ((31 : Int32) &&& 31).toUInt32).toInt32).toInt8.toInt32)])) ?_ (fun t k => XS.i2b X0.here hx rfl (hb hby d6_7) rfl k)
  refine own_retN (t := .byte) X0 hx Bd.returns (by simp) (own_nar_b _) (hb hby d6_8) (by decide) (by decide) ?_
  exact ⟨(by rw [hcw]), N0, e0⟩

theorem d4_0 : decode jdk_52_method_16_code 0 = .ok (.iload_n 2, 1) := by decide +kernel
theorem d4_1 : decode jdk_52_method_16_code 1 = .ok (.newarray .byte, 2) := by decide +kernel
theorem d4_3 : decode jdk_52_method_16_code 3 = .ok (.astore_n 3, 1) := by decide +kernel
theorem d4_4 : decode jdk_52_method_16_code 4 = .ok (.aload_n 0, 1) := by decide +kernel
theorem d4_5 : decode jdk_52_method_16_code 5 = .ok (.iload_n 1, 1) := by decide +kernel
theorem d4_6 : decode jdk_52_method_16_code 6 = .ok (.aload_n 3, 1) := by decide +kernel
theorem d4_7 : decode jdk_52_method_16_code 7 = .ok (.iconst 0, 1) := by decide +kernel
theorem d4_8 : decode jdk_52_method_16_code 8 = .ok (.iload_n 2, 1) := by decide +kernel
theorem d4_9 : decode jdk_52_method_16_code 9 = .ok (.invokestatic 115, 3) := by decide +kernel
theorem d4_12 : decode jdk_52_method_16_code 12 = .ok (.istore 4, 2) := by decide +kernel
theorem d4_14 : decode jdk_52_method_16_code 14 = .ok (.iload 4, 2) := by decide +kernel
theorem d4_16 : decode jdk_52_method_16_code 16 = .ok (.iload_n 2, 1) := by decide +kernel
theorem d4_17 : decode jdk_52_method_16_code 17 = .ok (.if_icmp .eq 40, 3) := by decide +kernel
theorem d4_57 : decode jdk_52_method_16_code 57 = .ok (.aload_n 3, 1) := by decide +kernel
theorem d4_58 : decode jdk_52_method_16_code 58 = .ok (.areturn, 1) := by decide +kernel
theorem pn_4 : plainName "java/lang/StringUTF16" = true := by first | (simp [plainName, overriddenIn]; done) | decide +kernel
theorem pd_4_0 : parseMethodDescriptor "([CI[BII)I" = some ⟨[(.array .char), .int, (.array .byte), .int, .int], some .int⟩ := by decide +kernel
theorem ef_4 (m : MethodId) (x0 : Addr) (x1 : Int32) (x2 : Int32) : entryFrame m #[(.ref x0), (.int x1), (.int x2)] 6 = mkF m 0 #[.val (.ref x0), .val (.int x1), .val (.int x2), .unset, .unset, .unset] [] := by first | (simp [entryFrame, mkF, argsToLocals, Value.category]; done) | rfl
def Q4 (Z : State) (p2 p3 : Int32) (y : Int32 → Int32) (h0 : Heap) (n0 : Nat) (v : Option Value) (h : Heap) (L : List Loc) : Prop := ∃ xr : Addr, v = some (.ref xr) ∧ Fr n0 L ∧ Keep h0 h [] ∧ h0.size ≤ xr ∧ Afn Z h xr .byte p3 (fun j => own_b (y (p2 + j)))
set_option maxRecDepth 65536 in
set_option maxHeartbeats 40000000 in
theorem rm4 (l : Launch) (Z : State) (a0 : Array Value) (hw : ∀ d ∈ tables_1, d.before a0 Z = true) (wds : List Jvm.Cond) (a1 : Addr) (p2 : Int32) (p3 : Int32) (zc : Int32) (y : Int32 → Int32) (h0 : Heap) (n0 : Nat) (Z0 : n0 ≤ h0.size) (P0 : Afn Z h0 a1 .char zc y) (hcn : ¬ p3 < 0) (hcap1 : p3.toNatClampNeg ≤ 2) (hin : ∀ j : Int32, ¬ j < 0 → j < p3 → (¬ (p2 + j) < 0 ∧ (p2 + j) < zc) ∧ (¬ y (p2 + j) < 0 ∧ ¬ (255 : Int32) < y (p2 + j))) :
    MetFree l (⟨"java/lang/StringUTF16", "compress", "([CII)[B"⟩ : MethodName) (head1 (Jvm.Cond.code (⟨"java/lang/StringUTF16", "compress", "([CII)[B"⟩ : MethodName) jdk_52_method_16_code 6 (some (.array .byte)) :: wds) ({ frames := 1, cells := 1, slots := 2, locals := 20 } : Room)) (fun a U => a = #[(.ref a1), (.int p2), (.int p3)] ∧ Z.Warmed39 U.vm ∧ U.heap = h0) (fun _ _ _ _ _ => True) (fun _ U o U' => ∃ v L, o = .returned v ∧ Q4 Z p2 p3 y h0 n0 v U'.heap L ∧ FrameEnd U o U' L ({ frames := 1, cells := 1, slots := 2, locals := 20 } : Room).cells ({ frames := 1, cells := 1, slots := 2, locals := 20 } : Room).slots) := by
  refine MetFree.of_bodySF (plainFor_of_name pn_4) hisR ?_
  intro p e s m args below meth c s₁ Bd hml0 hP hK
  obtain ⟨rfl, hZ, hh⟩ := hP
  have hx := Bd.exec
  have hby := Bd.bytes
  have hml : c.maxLocals = 6 := hml0
  have hown : s.vm.findClass "java/lang/StringUTF16" = some m.cls := findClass_of_methodNamed Bd.named
  have hnm := (name_of_methodNamed Bd.named Bd.method).1
  have X0 : Stand p l e ({ frames := 1, cells := 1, slots := 2, locals := 20 } : Room) s m #[(.ref a1), (.int p2), (.int p3)] below meth c s₁ [] 0 0 := Stand.of_body Bd
  have e0 : s₁.heap = h0 := by rw [← hh, Bd.state]; rfl
  have N0 := Fr.nil n0
  refine own_start (Q := Q4 Z p2 p3 y h0 n0) (C := ({ frames := 1, cells := 1, slots := 2, locals := 20 } : Room).cells) (S := ({ frames := 1, cells := 1, slots := 2, locals := 20 } : Room).slots) ?_
  rw [ef_4 m a1 p2 p3]
  have K0 : Keep h0 h0 [] := Keep.refl h0 []
  refine Gen.on (b := s₁.setTop (mkF m 1 #[.val (.ref a1), .val (.int p2), .val (.int p3), .unset, .unset, .unset] [(.int p3)])) ?_ (fun t k => XS.iloadN X0.here hx rfl (hb hby d4_0) rfl k)
  obtain ⟨b1, g1⟩ : ∃ z, z = h0.size := ⟨_, rfl⟩
  have ne_a1_b1 : a1 ≠ b1 := Nat.ne_of_lt (Nat.lt_of_lt_of_le P0.lt (Nat.le_of_eq g1.symm))
  have g_b1 : n0 ≤ b1 := Nat.le_trans Z0 (Nat.le_of_eq g1.symm)
  have sz_b1 : h0.size ≤ b1 := Nat.le_trans K0.1 (Nat.le_of_eq g1.symm)
  obtain ⟨T1, h1, k1, X1, e1, E1, A1, st1⟩ := newP X0 hx hZ (hw _ (List.mem_of_getElem? (i := 19) rfl)) e0 (g := (mkF m 1 #[.val (.ref a1), .val (.int p2), .val (.int p3), .unset, .unset, .unset] [(.int p3)])) rfl (hb hby d4_1) rfl hcn (cap := 2) hcap1 (by decide) (by decide) (by decide)
  rw [← g1] at A1 st1
  have Z1 : n0 ≤ h1.size := Nat.le_trans Z0 E1.1
  have K1 : Keep h0 h1 [] := K0.ext E1
  have V1 : Afn Z h1 b1 .byte p3 (fun _ => 0) := Afn.new A1 hcn rfl
  refine Gen.on (b := T1.setTop (mkF m 3 #[.val (.ref a1), .val (.int p2), .val (.int p3), .unset, .unset, .unset] [(.ref b1)])) ?_ (fun t k => st1 t k)
  refine Gen.on (b := T1.setTop (mkF m 4 #[.val (.ref a1), .val (.int p2), .val (.int p3), .val (.ref b1), .unset, .unset] [])) ?_ (fun t k => XS.astoreN X1.here hx rfl (hb hby d4_3) rfl rfl (l' := #[.val (.ref a1), .val (.int p2), .val (.int p3), .val (.ref b1), .unset, .unset]) rfl k)
  refine Gen.on (b := T1.setTop (mkF m 5 #[.val (.ref a1), .val (.int p2), .val (.int p3), .val (.ref b1), .unset, .unset] [(.ref a1)])) ?_ (fun t k => XS.aloadN X1.here hx rfl (hb hby d4_4) rfl rfl k)
  refine Gen.on (b := T1.setTop (mkF m 6 #[.val (.ref a1), .val (.int p2), .val (.int p3), .val (.ref b1), .unset, .unset] [(.int p2), (.ref a1)])) ?_ (fun t k => XS.iloadN X1.here hx rfl (hb hby d4_5) rfl k)
  refine Gen.on (b := T1.setTop (mkF m 7 #[.val (.ref a1), .val (.int p2), .val (.int p3), .val (.ref b1), .unset, .unset] [(.ref b1), (.int p2), (.ref a1)])) ?_ (fun t k => XS.aloadN X1.here hx rfl (hb hby d4_6) rfl rfl k)
  refine Gen.on (b := T1.setTop (mkF m 8 #[.val (.ref a1), .val (.int p2), .val (.int p3), .val (.ref b1), .unset, .unset] [(.int (0 : Int32)), (.ref b1), (.int p2), (.ref a1)])) ?_ (fun t k => XS.iconst X1.here hx rfl (hb hby d4_7) k)
  refine Gen.on (b := T1.setTop (mkF m 9 #[.val (.ref a1), .val (.int p2), .val (.int p3), .val (.ref b1), .unset, .unset] [(.int p3), (.int (0 : Int32)), (.ref b1), (.int p2), (.ref a1)])) ?_ (fun t k => XS.iloadN X1.here hx rfl (hb hby d4_8) rfl k)
  have fa3 := (P0.ext E1)
  obtain ⟨_, _, ⟨T2, L2, k2, n2⟩, -, X2, ⟨Lc2, hQ2, l2, y2, z2⟩, st2⟩ := Jvm.LawKit.callS X1 hx (y := (⟨"java/lang/StringUTF16", "compress", "([CI[BII)I"⟩ : MethodName)) hown (mvT hZ (hw _ (List.mem_of_getElem? (i := 20) rfl))) (mvT hZ (hw _ (List.mem_of_getElem? (i := 21) rfl))) (mvT hZ (hw _ (List.mem_of_getElem? (i := 17) rfl))) (mvT hZ (hw _ (List.mem_of_getElem? (i := 22) rfl))) (by decide) (backOf (W := 0) (rm5 l Z a0 hw [] a1 p2 b1 p3 zc y (fun _ => 0) h1 n0 Z1 fa3 V1 g_b1 ne_a1_b1 hin) hZ (hw _ (List.mem_of_getElem? (i := 22) rfl)) (hw _ (List.mem_of_getElem? (i := 17) rfl)) (by decide) (by decide)) (g := (mkF m 9 #[.val (.ref a1), .val (.int p2), .val (.int p3), .val (.ref b1), .unset, .unset] [(.int p3), (.int (0 : Int32)), (.ref b1), (.int p2), (.ref a1)])) rfl (by rw [hml]; rfl) (argsL := [(.ref a1), (.int p2), (.ref b1), (.int (0 : Int32)), (.int p3)]) (rest := []) (lenOf pd_4_0 rfl) rfl (by show 2 * 0 + _ ≤ _; exact Nat.le_of_eq rfl) (hb hby d4_9) (fun _ _ => ⟨rfl, e1, (by decide : 1 + 0 ≤ _), (by decide : 2 + 0 ≤ _)⟩)
  dsimp only [Pt.U, Pt.locs, Pt.cells, Pt.slots] at X2 l2 y2 z2 st2 hQ2
  subst l2 y2 z2
  obtain ⟨rfl, N2q, Kc2, Yb2⟩ := hQ2
  have N2 := Fr.app N0 N2q
  have Z2 : n0 ≤ T2.heap.size := Nat.le_trans Z1 Kc2.1
  have K2 : Keep h0 T2.heap [] := K1.trans Kc2 (allS (Or.inr sz_b1) all0)
  refine Gen.on (b := T2.setTop (mkF m 12 #[.val (.ref a1), .val (.int p2), .val (.int p3), .val (.ref b1), .unset, .unset] [(.int p3)])) ?_ (fun t k => st2 t k)
  refine Gen.on (b := T2.setTop (mkF m 14 #[.val (.ref a1), .val (.int p2), .val (.int p3), .val (.ref b1), .val (.int p3), .unset] [])) ?_ (fun t k => XS.istore X2.here hx rfl (hb hby d4_12) rfl (l' := #[.val (.ref a1), .val (.int p2), .val (.int p3), .val (.ref b1), .val (.int p3), .unset]) rfl k)
  refine Gen.on (b := T2.setTop (mkF m 16 #[.val (.ref a1), .val (.int p2), .val (.int p3), .val (.ref b1), .val (.int p3), .unset] [(.int p3)])) ?_ (fun t k => XS.iload X2.here hx rfl (hb hby d4_14) rfl k)
  refine Gen.on (b := T2.setTop (mkF m 17 #[.val (.ref a1), .val (.int p2), .val (.int p3), .val (.ref b1), .val (.int p3), .unset] [(.int p3), (.int p3)])) ?_ (fun t k => XS.iloadN X2.here hx rfl (hb hby d4_16) rfl k)
  refine Gen.on (b := T2.setTop (mkF m 57 #[.val (.ref a1), .val (.int p2), .val (.int p3), .val (.ref b1), .val (.int p3), .unset] [])) ?_ (fun t k => XS.icmpYes X2.here hx rfl (pc0 := 17) (pc' := 57) rfl (hb hby d4_17) rfl (teq (rfl : p3 = p3)).1 (by decide) (by decide) k)
  refine Gen.on (b := T2.setTop (mkF m 58 #[.val (.ref a1), .val (.int p2), .val (.int p3), .val (.ref b1), .val (.int p3), .unset] [(.ref b1)])) ?_ (fun t k => XS.aloadN X2.here hx rfl (hb hby d4_57) rfl rfl k)
  refine own_retA X2 hx Bd.returns rfl rfl (hb hby d4_58) (by decide) (by decide) ?_
  show Q4 Z p2 p3 y h0 n0 _ T2.heap _
  exact ⟨_, rfl, N2, K2, sz_b1, Yb2⟩

theorem d2_0 : decode jdk_42_method_149_code 0 = .ok (.aload_n 0, 1) := by decide +kernel
theorem d2_1 : decode jdk_42_method_149_code 1 = .ok (.invokespecial 1, 3) := by decide +kernel
theorem d2_4 : decode jdk_42_method_149_code 4 = .ok (.iload_n 3, 1) := by decide +kernel
theorem d2_5 : decode jdk_42_method_149_code 5 = .ok (.ifCond .ne 22, 3) := by decide +kernel
theorem d2_27 : decode jdk_42_method_149_code 27 = .ok (.getstatic 38, 3) := by decide +kernel
theorem d2_30 : decode jdk_42_method_149_code 30 = .ok (.ifCond .eq 28, 3) := by decide +kernel
theorem d2_33 : decode jdk_42_method_149_code 33 = .ok (.aload_n 1, 1) := by decide +kernel
theorem d2_34 : decode jdk_42_method_149_code 34 = .ok (.iload_n 2, 1) := by decide +kernel
theorem d2_35 : decode jdk_42_method_149_code 35 = .ok (.iload_n 3, 1) := by decide +kernel
theorem d2_36 : decode jdk_42_method_149_code 36 = .ok (.invokestatic 177, 3) := by decide +kernel
theorem d2_39 : decode jdk_42_method_149_code 39 = .ok (.astore 5, 2) := by decide +kernel
theorem d2_41 : decode jdk_42_method_149_code 41 = .ok (.aload_n 0, 1) := by decide +kernel
theorem d2_42 : decode jdk_42_method_149_code 42 = .ok (.aload 5, 2) := by decide +kernel
theorem d2_44 : decode jdk_42_method_149_code 44 = .ok (.iload_n 3, 1) := by decide +kernel
theorem d2_45 : decode jdk_42_method_149_code 45 = .ok (.invokestatic 47, 3) := by decide +kernel
theorem d2_48 : decode jdk_42_method_149_code 48 = .ok (.putfield 15, 3) := by decide +kernel
theorem d2_51 : decode jdk_42_method_149_code 51 = .ok (.aload_n 0, 1) := by decide +kernel
theorem d2_52 : decode jdk_42_method_149_code 52 = .ok (.aload 5, 2) := by decide +kernel
theorem d2_54 : decode jdk_42_method_149_code 54 = .ok (.putfield 9, 3) := by decide +kernel
theorem d2_57 : decode jdk_42_method_149_code 57 = .ok (.return_, 1) := by decide +kernel
theorem pn_2 : plainName "java/lang/String" = true := by first | (simp [plainName, overriddenIn]; done) | decide +kernel
theorem pd_2_0 : parseMethodDescriptor "([CII)[B" = some ⟨[(.array .char), .int, .int], some (.array .byte)⟩ := by decide +kernel
theorem pd_2_1 : parseMethodDescriptor "([BI)B" = some ⟨[(.array .byte), .int], some .byte⟩ := by decide +kernel
theorem ef_2 (m : MethodId) (x0 : Addr) (x1 : Addr) (x2 : Int32) (x3 : Int32) : entryFrame m #[(.ref x0), (.ref x1), (.int x2), (.int x3), .null] 6 = mkF m 0 #[.val (.ref x0), .val (.ref x1), .val (.int x2), .val (.int x3), .val .null, .unset] [] := by first | (simp [entryFrame, mkF, argsToLocals, Value.category]; done) | rfl
def Q2 (Z : State) (a1 : Addr) (a2 : Addr) (p3 : Int32) (p4 : Int32) (u1 : Value) (u2 : Value) (zc : Int32) (y : Int32 → Int32) (w0 : Int32) (f0 : Value) (h0 : Heap) (n0 : Nat) (v : Option Value) (h : Heap) (L : List Loc) : Prop := v = none ∧ Fr n0 L ∧ Keep h0 h [a1] ∧ Exa Z h a1 "java/lang/String" ∧ Lat Z h a1 p4 (fun j => y (p3 + j))
set_option maxRecDepth 65536 in
set_option maxHeartbeats 40000000 in
theorem rm2 (l : Launch) (Z : State) (a0 : Array Value) (hw : ∀ d ∈ tables_1, d.before a0 Z = true) (wds : List Jvm.Cond) (a1 : Addr) (a2 : Addr) (p3 : Int32) (p4 : Int32) (u1 : Value) (u2 : Value) (zc : Int32) (y : Int32 → Int32) (w0 : Int32) (f0 : Value) (h0 : Heap) (n0 : Nat) (Z0 : n0 ≤ h0.size) (P0 : Exa Z h0 a1 "java/lang/String") (P1 : Fld Z h0 a1 "java/lang/String" "value" "[B" u1) (P2 : Fld Z h0 a1 "java/lang/String" "coder" "B" u2) (P3 : Afn Z h0 a2 .char zc y) (P4 : Old Z n0 h0) (g_a1 : n0 ≤ a1) (sts : Sts Z w0 f0) (hcn : ¬ p4 < 0) (hcap1 : p4.toNatClampNeg ≤ 2) (hin : ∀ j : Int32, ¬ j < 0 → j < p4 → (¬ (p3 + j) < 0 ∧ (p3 + j) < zc) ∧ (¬ y (p3 + j) < 0 ∧ ¬ (255 : Int32) < y (p3 + j))) (hne0 : ¬ p4 = (0 : Int32)) :
    MetFree l (⟨"java/lang/String", "<init>", "([CIILjava/lang/Void;)V"⟩ : MethodName) (head1 (Jvm.Cond.code (⟨"java/lang/String", "<init>", "([CIILjava/lang/Void;)V"⟩ : MethodName) jdk_42_method_149_code 6 none :: wds) ({ frames := 2, cells := 1, slots := 2, locals := 37 } : Room)) (fun a U => a = #[(.ref a1), (.ref a2), (.int p3), (.int p4), .null] ∧ Z.Warmed39 U.vm ∧ U.heap = h0) (fun _ _ _ _ _ => True) (fun _ U o U' => ∃ v L, o = .returned v ∧ Q2 Z a1 a2 p3 p4 u1 u2 zc y w0 f0 h0 n0 v U'.heap L ∧ FrameEnd U o U' L ({ frames := 2, cells := 1, slots := 2, locals := 37 } : Room).cells ({ frames := 2, cells := 1, slots := 2, locals := 37 } : Room).slots) := by
  refine MetFree.of_bodySF (plainFor_of_name pn_2) hisR ?_
  intro p e s m args below meth c s₁ Bd hml0 hP hK
  obtain ⟨rfl, hZ, hh⟩ := hP
  have hx := Bd.exec
  have hby := Bd.bytes
  have hml : c.maxLocals = 6 := hml0
  have hown : s.vm.findClass "java/lang/String" = some m.cls := findClass_of_methodNamed Bd.named
  have hnm := (name_of_methodNamed Bd.named Bd.method).1
  have X0 : Stand p l e ({ frames := 2, cells := 1, slots := 2, locals := 37 } : Room) s m #[(.ref a1), (.ref a2), (.int p3), (.int p4), .null] below meth c s₁ [] 0 0 := Stand.of_body Bd
  have e0 : s₁.heap = h0 := by rw [← hh, Bd.state]; rfl
  have N0 := Fr.nil n0
  refine own_start (Q := Q2 Z a1 a2 p3 p4 u1 u2 zc y w0 f0 h0 n0) (C := ({ frames := 2, cells := 1, slots := 2, locals := 37 } : Room).cells) (S := ({ frames := 2, cells := 1, slots := 2, locals := 37 } : Room).slots) ?_
  rw [ef_2 m a1 a2 p3 p4]
  have K0 : Keep h0 h0 [a1] := Keep.refl h0 [a1]
  obtain ⟨SC, hw0, SF, hf0⟩ := id sts
  refine Gen.on (b := s₁.setTop (mkF m 1 #[.val (.ref a1), .val (.ref a2), .val (.int p3), .val (.int p4), .val .null, .unset] [(.ref a1)])) ?_ (fun t k => XS.aloadN X0.here hx rfl (hb hby d2_0) rfl rfl k)
  obtain ⟨T1, X1, e1, st1⟩ := initO X0 hx hZ hown (hw _ (List.mem_of_getElem? (i := 11) rfl)) (hw _ (List.mem_of_getElem? (i := 12) rfl)) (hw _ (List.mem_of_getElem? (i := 13) rfl)) e0 (g := (mkF m 1 #[.val (.ref a1), .val (.ref a2), .val (.int p3), .val (.int p4), .val .null, .unset] [(.ref a1)])) rfl (by rw [hml]; rfl) rfl (hb hby d2_1) (by decide) (W := 0) (by show 2 * 0 + _ ≤ _; exact Nat.le_of_eq rfl) (by decide)
  refine Gen.on (b := T1.setTop (mkF m 4 #[.val (.ref a1), .val (.ref a2), .val (.int p3), .val (.int p4), .val .null, .unset] [])) ?_ (fun t k => st1 t k)
  refine Gen.on (b := T1.setTop (mkF m 5 #[.val (.ref a1), .val (.ref a2), .val (.int p3), .val (.int p4), .val .null, .unset] [(.int p4)])) ?_ (fun t k => XS.iloadN X1.here hx rfl (hb hby d2_4) rfl k)
  refine Gen.on (b := T1.setTop (mkF m 27 #[.val (.ref a1), .val (.ref a2), .val (.int p3), .val (.int p4), .val .null, .unset] [])) ?_ (fun t k => XS.ifYes X1.here hx rfl (pc0 := 5) (pc' := 27) rfl (hb hby d2_5) rfl ((if0 _ _).trans (feq hne0).2) (by decide) (by decide) k)
  have fa3 := Sta.ext P4.2 SC
  obtain ⟨T2, X2, e2, st2⟩ := getS2 X1 hx hZ hown (host := "") (Or.inl (hw _ (List.mem_of_getElem? (i := 14) rfl))) Via.refl e1 fa3 (g := (mkF m 27 #[.val (.ref a1), .val (.ref a2), .val (.int p3), .val (.int p4), .val .null, .unset] [])) rfl (hb hby d2_27)
  refine Gen.on (b := T2.setTop (mkF m 30 #[.val (.ref a1), .val (.ref a2), .val (.int p3), .val (.int p4), .val .null, .unset] [(.int w0)])) ?_ (fun t k => st2 t k)
  refine Gen.on (b := T2.setTop (mkF m 33 #[.val (.ref a1), .val (.ref a2), .val (.int p3), .val (.int p4), .val .null, .unset] [])) ?_ (fun t k => XS.ifNo X2.here hx rfl (hb hby d2_30) rfl ((if0 _ _).trans (feq hw0).1) k)
  refine Gen.on (b := T2.setTop (mkF m 34 #[.val (.ref a1), .val (.ref a2), .val (.int p3), .val (.int p4), .val .null, .unset] [(.ref a2)])) ?_ (fun t k => XS.aloadN X2.here hx rfl (hb hby d2_33) rfl rfl k)
  refine Gen.on (b := T2.setTop (mkF m 35 #[.val (.ref a1), .val (.ref a2), .val (.int p3), .val (.int p4), .val .null, .unset] [(.int p3), (.ref a2)])) ?_ (fun t k => XS.iloadN X2.here hx rfl (hb hby d2_34) rfl k)
  refine Gen.on (b := T2.setTop (mkF m 36 #[.val (.ref a1), .val (.ref a2), .val (.int p3), .val (.int p4), .val .null, .unset] [(.int p4), (.int p3), (.ref a2)])) ?_ (fun t k => XS.iloadN X2.here hx rfl (hb hby d2_35) rfl k)
  obtain ⟨_, _, ⟨T4, L4, k4, n4⟩, -, X4, ⟨Lc4, hQ4, l4, y4, z4⟩, st4⟩ := Jvm.LawKit.callS X2 hx (y := (⟨"java/lang/StringUTF16", "compress", "([CII)[B"⟩ : MethodName)) hown (mvT hZ (hw _ (List.mem_of_getElem? (i := 15) rfl))) (mvT hZ (hw _ (List.mem_of_getElem? (i := 16) rfl))) (mvT hZ (hw _ (List.mem_of_getElem? (i := 17) rfl))) (mvT hZ (hw _ (List.mem_of_getElem? (i := 18) rfl))) (by decide) (backOf (W := 0) (rm4 l Z a0 hw [] a2 p3 p4 zc y h0 n0 Z0 P3 hcn hcap1 hin) hZ (hw _ (List.mem_of_getElem? (i := 18) rfl)) (hw _ (List.mem_of_getElem? (i := 17) rfl)) (by decide) (by decide)) (g := (mkF m 36 #[.val (.ref a1), .val (.ref a2), .val (.int p3), .val (.int p4), .val .null, .unset] [(.int p4), (.int p3), (.ref a2)])) rfl (by rw [hml]; rfl) (argsL := [(.ref a2), (.int p3), (.int p4)]) (rest := []) (lenOf pd_2_0 rfl) rfl (by show 2 * 0 + _ ≤ _; exact Nat.le_of_eq rfl) (hb hby d2_36) (fun _ _ => ⟨rfl, e2, (by decide : 0 + 1 ≤ _), (by decide : 0 + 2 ≤ _)⟩)
  dsimp only [Pt.U, Pt.locs, Pt.cells, Pt.slots] at X4 l4 y4 z4 st4 hQ4
  subst l4 y4 z4
  obtain ⟨xr4, rfl, N4q, Kc4, hge4, Yx4⟩ := hQ4
  have N4 := Fr.app N0 N4q
  have sz_xr4 := Nat.le_trans K0.1 hge4
  have ne_a1_xr4 : a1 ≠ xr4 := Nat.ne_of_lt (Nat.lt_of_lt_of_le P0.lt hge4)
  have ne_a2_xr4 : a2 ≠ xr4 := Nat.ne_of_lt (Nat.lt_of_lt_of_le P3.lt hge4)
  have Z4 : n0 ≤ T4.heap.size := Nat.le_trans Z0 Kc4.1
  have K4 : Keep h0 T4.heap [a1] := K0.trans Kc4 all0
  refine Gen.on (b := T4.setTop (mkF m 39 #[.val (.ref a1), .val (.ref a2), .val (.int p3), .val (.int p4), .val .null, .unset] [(.ref xr4)])) ?_ (fun t k => st4 t k)
  refine Gen.on (b := T4.setTop (mkF m 41 #[.val (.ref a1), .val (.ref a2), .val (.int p3), .val (.int p4), .val .null, .val (.ref xr4)] [])) ?_ (fun t k => XS.astore X4.here hx rfl (hb hby d2_39) rfl rfl (l' := #[.val (.ref a1), .val (.ref a2), .val (.int p3), .val (.int p4), .val .null, .val (.ref xr4)]) rfl k)
  refine Gen.on (b := T4.setTop (mkF m 42 #[.val (.ref a1), .val (.ref a2), .val (.int p3), .val (.int p4), .val .null, .val (.ref xr4)] [(.ref a1)])) ?_ (fun t k => XS.aloadN X4.here hx rfl (hb hby d2_41) rfl rfl k)
  refine Gen.on (b := T4.setTop (mkF m 44 #[.val (.ref a1), .val (.ref a2), .val (.int p3), .val (.int p4), .val .null, .val (.ref xr4)] [(.ref xr4), (.ref a1)])) ?_ (fun t k => XS.aload X4.here hx rfl (hb hby d2_42) rfl rfl k)
  refine Gen.on (b := T4.setTop (mkF m 45 #[.val (.ref a1), .val (.ref a2), .val (.int p3), .val (.int p4), .val .null, .val (.ref xr4)] [(.int p4), (.ref xr4), (.ref a1)])) ?_ (fun t k => XS.iloadN X4.here hx rfl (hb hby d2_44) rfl k)
  obtain ⟨_, _, ⟨T5, L5, k5, n5⟩, -, X5, ⟨Lc5, hQ5, l5, y5, z5⟩, st5⟩ := Jvm.LawKit.callS X4 hx (y := (⟨"java/lang/StringUTF16", "coderFromArrayLen", "([BI)B"⟩ : MethodName)) hown (mvT hZ (hw _ (List.mem_of_getElem? (i := 23) rfl))) (mvT hZ (hw _ (List.mem_of_getElem? (i := 24) rfl))) (mvT hZ (hw _ (List.mem_of_getElem? (i := 17) rfl))) (mvT hZ (hw _ (List.mem_of_getElem? (i := 25) rfl))) (by decide) (backOf (W := 1) (rm6 l Z a0 hw [] xr4 p4 p4 (fun j => own_b (y (p3 + j))) (0 : Int32) T4.heap n0 Z4 Yx4 (own_cw0 p4)) hZ (hw _ (List.mem_of_getElem? (i := 25) rfl)) (hw _ (List.mem_of_getElem? (i := 17) rfl)) (by decide) (by decide)) (g := (mkF m 45 #[.val (.ref a1), .val (.ref a2), .val (.int p3), .val (.int p4), .val .null, .val (.ref xr4)] [(.int p4), (.ref xr4), (.ref a1)])) rfl (by rw [hml]; rfl) (argsL := [(.ref xr4), (.int p4)]) (rest := [(.ref a1)]) (lenOf pd_2_1 rfl) rfl (by show 2 * 0 + _ ≤ _; exact Nat.le_of_eq rfl) (hb hby d2_45) (fun _ _ => ⟨rfl, rfl, (by decide : 1 + 0 ≤ _), (by decide : 2 + 0 ≤ _)⟩)
  dsimp only [Pt.U, Pt.locs, Pt.cells, Pt.slots] at X5 l5 y5 z5 st5 hQ5
  subst l5 y5 z5
  obtain ⟨rfl, N5q, e5⟩ := hQ5
  have N5 := Fr.app N4 N5q
  refine Gen.on (b := T5.setTop (mkF m 48 #[.val (.ref a1), .val (.ref a2), .val (.int p3), .val (.int p4), .val .null, .val (.ref xr4)] [(.int (0 : Int32)), (.ref a1)])) ?_ (fun t k => st5 t k)
  have fa6 := (P2.keep Kc4 nin0)
  have fa7 := (P0.keep Kc4)
  obtain ⟨T8, h8, X8, e8, W8, st8⟩ := putFN X5 hx hZ hown (hw _ (List.mem_of_getElem? (i := 26) rfl)) Via.refl e5 fa6 fa7 (Or.inr ⟨(hw _ (List.mem_of_getElem? (i := 27) rfl)), rfl, hnm⟩) (hw _ (List.mem_of_getElem? (i := 2) rfl)) (ty := .byte) (v' := (.int (0 : Int32))) (by decide) rfl (by decide) (g := (mkF m 48 #[.val (.ref a1), .val (.ref a2), .val (.int p3), .val (.int p4), .val .null, .val (.ref xr4)] [(.int (0 : Int32)), (.ref a1)])) rfl rfl (hb hby d2_48)
  have Fw8 := fa6.same W8
  have Z8 : n0 ≤ h8.size := Nat.le_trans Z4 (Keep.of_wr W8).1
  have K8 : Keep h0 h8 [a1] := K4.wr W8 (Or.inl (List.mem_of_getElem? (i := 0) rfl))
  have N8 := Fr.snoc X8 N5 g_a1
  refine Gen.on (b := T8.setTop (mkF m 51 #[.val (.ref a1), .val (.ref a2), .val (.int p3), .val (.int p4), .val .null, .val (.ref xr4)] [])) ?_ (fun t k => st8 t k)
  refine Gen.on (b := T8.setTop (mkF m 52 #[.val (.ref a1), .val (.ref a2), .val (.int p3), .val (.int p4), .val .null, .val (.ref xr4)] [(.ref a1)])) ?_ (fun t k => XS.aloadN X8.here hx rfl (hb hby d2_51) rfl rfl k)
  refine Gen.on (b := T8.setTop (mkF m 54 #[.val (.ref a1), .val (.ref a2), .val (.int p3), .val (.int p4), .val .null, .val (.ref xr4)] [(.ref xr4), (.ref a1)])) ?_ (fun t k => XS.aload X8.here hx rfl (hb hby d2_52) rfl rfl k)
  have fa9 := ((P1.keep Kc4 nin0).other W8 (Or.inr (slot_ne (Or.inr (hw _ (List.mem_of_getElem? (i := 29) rfl))) (Or.inr (hw _ (List.mem_of_getElem? (i := 27) rfl))) (by decide) (t := (.array .byte)) (t' := .byte) (by decide) (by decide))))
  have fa10 := (fa7.wr W8)
  obtain ⟨T11, h11, X11, e11, W11, st11⟩ := putF X8 hx hZ hown (host := "") (Or.inl (hw _ (List.mem_of_getElem? (i := 28) rfl))) Via.refl e8 fa9 fa10 (Or.inr ⟨(hw _ (List.mem_of_getElem? (i := 29) rfl)), rfl, hnm⟩) (hw _ (List.mem_of_getElem? (i := 2) rfl)) (ty := (.array .byte)) (by decide) rfl rfl (g := (mkF m 54 #[.val (.ref a1), .val (.ref a2), .val (.int p3), .val (.int p4), .val .null, .val (.ref xr4)] [(.ref xr4), (.ref a1)])) rfl rfl (hb hby d2_54)
  have Fw11 := fa9.same W11
  have Z11 : n0 ≤ h11.size := Nat.le_trans Z8 (Keep.of_wr W11).1
  have K11 : Keep h0 h11 [a1] := K8.wr W11 (Or.inl (List.mem_of_getElem? (i := 0) rfl))
  have N11 := Fr.snoc X11 N8 g_a1
  refine Gen.on (b := T11.setTop (mkF m 57 #[.val (.ref a1), .val (.ref a2), .val (.int p3), .val (.int p4), .val .null, .val (.ref xr4)] [])) ?_ (fun t k => st11 t k)
  refine own_ret0 X11 hx Bd.returns (hb hby d2_57) (by decide) (by decide) ?_
  have fa12 := (fa10.wr W11)
  have fa13 := (Fw8.other W11 (Or.inr (slot_ne (Or.inr (hw _ (List.mem_of_getElem? (i := 27) rfl))) (Or.inr (hw _ (List.mem_of_getElem? (i := 29) rfl))) (by decide) (t := .byte) (t' := (.array .byte)) (by decide) (by decide))))
  have fa14 := ((Yx4.other W8 (Ne.symm ne_a1_xr4)).other W11 (Ne.symm ne_a1_xr4))
  show Q2 Z a1 a2 p3 p4 u1 u2 zc y w0 f0 h0 n0 _ T11.heap _
  rw [e11]
  exact ⟨rfl, N11, K11, fa12, ⟨xr4, Fw11, fa13, fa14⟩⟩

theorem d2z_0 : decode jdk_42_method_149_code 0 = .ok (.aload_n 0, 1) := by decide +kernel
theorem d2z_1 : decode jdk_42_method_149_code 1 = .ok (.invokespecial 1, 3) := by decide +kernel
theorem d2z_4 : decode jdk_42_method_149_code 4 = .ok (.iload_n 3, 1) := by decide +kernel
theorem d2z_5 : decode jdk_42_method_149_code 5 = .ok (.ifCond .ne 22, 3) := by decide +kernel
theorem d2z_8 : decode jdk_42_method_149_code 8 = .ok (.aload_n 0, 1) := by decide +kernel
theorem d2z_9 : decode jdk_42_method_149_code 9 = .ok (.ldc 7, 2) := by decide +kernel
theorem d2z_11 : decode jdk_42_method_149_code 11 = .ok (.getfield 9, 3) := by decide +kernel
theorem d2z_14 : decode jdk_42_method_149_code 14 = .ok (.putfield 9, 3) := by decide +kernel
theorem d2z_17 : decode jdk_42_method_149_code 17 = .ok (.aload_n 0, 1) := by decide +kernel
theorem d2z_18 : decode jdk_42_method_149_code 18 = .ok (.ldc 7, 2) := by decide +kernel
theorem d2z_20 : decode jdk_42_method_149_code 20 = .ok (.getfield 15, 3) := by decide +kernel
theorem d2z_23 : decode jdk_42_method_149_code 23 = .ok (.putfield 15, 3) := by decide +kernel
theorem d2z_26 : decode jdk_42_method_149_code 26 = .ok (.return_, 1) := by decide +kernel
theorem pn_2z : plainName "java/lang/String" = true := by first | (simp [plainName, overriddenIn]; done) | decide +kernel
theorem ef_2z (m : MethodId) (x0 : Addr) (x1 : Addr) (x2 : Int32) (x3 : Int32) : entryFrame m #[(.ref x0), (.ref x1), (.int x2), (.int x3), .null] 6 = mkF m 0 #[.val (.ref x0), .val (.ref x1), .val (.int x2), .val (.int x3), .val .null, .unset] [] := by first | (simp [entryFrame, mkF, argsToLocals, Value.category]; done) | rfl
def Q2z (Z : State) (a1 : Addr) (a2 : Addr) (p3 : Int32) (u2 : Value) (y : Int32 → Int32) (h0 : Heap) (n0 : Nat) (v : Option Value) (h : Heap) (L : List Loc) : Prop := v = none ∧ Fr n0 L ∧ Keep h0 h [a1] ∧ Exa Z h a1 "java/lang/String" ∧ Lat Z h a1 (0 : Int32) y
set_option maxRecDepth 65536 in
set_option maxHeartbeats 40000000 in
theorem rm2z (l : Launch) (Z : State) (a0 : Array Value) (hw : ∀ d ∈ tables_1, d.before a0 Z = true) (wds : List Jvm.Cond) (a1 : Addr) (a2 : Addr) (p3 : Int32) (u2 : Value) (y : Int32 → Int32) (h0 : Heap) (n0 : Nat) (Z0 : n0 ≤ h0.size) (P0 : Exa Z h0 a1 "java/lang/String") (P1 : Fld Z h0 a1 "java/lang/String" "value" "[B" .null) (P2 : Fld Z h0 a1 "java/lang/String" "coder" "B" u2) (g_a1 : n0 ≤ a1) :
    MetFree l (⟨"java/lang/String", "<init>", "([CIILjava/lang/Void;)V"⟩ : MethodName) (head1 (Jvm.Cond.code (⟨"java/lang/String", "<init>", "([CIILjava/lang/Void;)V"⟩ : MethodName) jdk_42_method_149_code 6 none :: wds) ({ frames := 1, cells := 4, slots := 8, locals := 12 } : Room)) (fun a U => a = #[(.ref a1), (.ref a2), (.int p3), (.int (0 : Int32)), .null] ∧ Z.Warmed39 U.vm ∧ U.heap = h0 ∧ CHv Z consts_1 U.vm h0) (fun _ _ _ _ _ => True) (fun _ U o U' => ∃ v L, o = .returned v ∧ Q2z Z a1 a2 p3 u2 y h0 n0 v U'.heap L ∧ CHr Z consts_1 U.vm U.heap U'.vm U'.heap ∧ ReturnedEndW U o U' L ({ frames := 1, cells := 4, slots := 8, locals := 12 } : Room).cells ({ frames := 1, cells := 4, slots := 8, locals := 12 } : Room).slots) := by
  refine MetFree.of_bodySF (plainFor_of_name pn_2z) hisR ?_
  intro p e s m args below meth c s₁ Bd hml0 hP hK
  obtain ⟨rfl, hZ, hh, CHs⟩ := hP
  have hx := Bd.exec
  have hby := Bd.bytes
  have hml : c.maxLocals = 6 := hml0
  have hown : s.vm.findClass "java/lang/String" = some m.cls := findClass_of_methodNamed Bd.named
  have hnm := (name_of_methodNamed Bd.named Bd.method).1
  have hZ : Z.Warmed39 (s.setVm s.vm).vm := hZ
  have hown : (s.setVm s.vm).vm.findClass "java/lang/String" = some m.cls := hown
  have X0 : Stand p l e ({ frames := 1, cells := 4, slots := 8, locals := 12 } : Room) (s.setVm s.vm) m #[(.ref a1), (.ref a2), (.int p3), (.int (0 : Int32)), .null] below meth c s₁ [] 0 0 := Stand.of_body Bd
  have e0 : s₁.heap = h0 := by rw [← hh, Bd.state]; rfl
  have N0 := Fr.nil n0
  have hEL : EW Z a0 consts_1 := own_hEL hw
  have wS := own_wS hw
  have hS0 : s.Since s.vm h0.size := (State.WarmedH.refl s).since _
  have hk0 : h0.size ≤ h0.size := Nat.le_refl _
  have CH0 : CHr Z consts_1 s.vm h0 s.vm h0 := CHr.refl CHs
  refine ownS_start (Z := Z) (EL := consts_1) (Q := Q2z Z a1 a2 p3 u2 y h0 n0) (C := ({ frames := 1, cells := 4, slots := 8, locals := 12 } : Room).cells) (S := ({ frames := 1, cells := 4, slots := 8, locals := 12 } : Room).slots) ?_
  rw [ef_2z m a1 a2 p3 (0 : Int32)]
  have K0 : Keep h0 h0 [a1] := Keep.refl h0 [a1]
  have sfa1 : Safe Z consts_1 s.vm h0 a1 := own_safe_null hZ.alike P0 P1
  refine Gen.on (b := s₁.setTop (mkF m 1 #[.val (.ref a1), .val (.ref a2), .val (.int p3), .val (.int (0 : Int32)), .val .null, .unset] [(.ref a1)])) ?_ (fun t k => XS.aloadN X0.here hx rfl (hb hby d2z_0) rfl rfl k)
  obtain ⟨T1, X1, e1, st1⟩ := initO X0 hx hZ hown (hw _ (List.mem_of_getElem? (i := 11) rfl)) (hw _ (List.mem_of_getElem? (i := 12) rfl)) (hw _ (List.mem_of_getElem? (i := 13) rfl)) e0 (g := (mkF m 1 #[.val (.ref a1), .val (.ref a2), .val (.int p3), .val (.int (0 : Int32)), .val .null, .unset] [(.ref a1)])) rfl (by rw [hml]; rfl) rfl (hb hby d2z_1) (by decide) (W := 0) (by show 2 * 0 + _ ≤ _; exact Nat.le_of_eq rfl) (by decide)
  refine Gen.on (b := T1.setTop (mkF m 4 #[.val (.ref a1), .val (.ref a2), .val (.int p3), .val (.int (0 : Int32)), .val .null, .unset] [])) ?_ (fun t k => st1 t k)
  refine Gen.on (b := T1.setTop (mkF m 5 #[.val (.ref a1), .val (.ref a2), .val (.int p3), .val (.int (0 : Int32)), .val .null, .unset] [(.int (0 : Int32))])) ?_ (fun t k => XS.iloadN X1.here hx rfl (hb hby d2z_4) rfl k)
  refine Gen.on (b := T1.setTop (mkF m 8 #[.val (.ref a1), .val (.ref a2), .val (.int p3), .val (.int (0 : Int32)), .val .null, .unset] [])) ?_ (fun t k => XS.ifNo X1.here hx rfl (hb hby d2z_5) rfl ((if0 _ _).trans (teq (by decide : (0 : Int32) = (0 : Int32))).2) k)
  refine Gen.on (b := T1.setTop (mkF m 9 #[.val (.ref a1), .val (.ref a2), .val (.int p3), .val (.int (0 : Int32)), .val .null, .unset] [(.ref a1)])) ?_ (fun t k => XS.aloadN X1.here hx rfl (hb hby d2z_8) rfl rfl k)
  obtain ⟨la2, T2, h2, k1_2, lb2, lk2, X2, e2, E2, hS2, hk2, hZ, hown, lE2, lC2, lV2, lA2, -, -, CHc2, -, lne2, st2⟩ := ldcCH X1 hx hZ hown (hw _ (List.mem_of_getElem? (i := 120) rfl)) wS e1 hS0 hk0 hEL (List.mem_of_getElem? (i := 0) rfl) CH0.1 (vs := []) (z := 0) (by simp) (by decide) rfl (g := (mkF m 9 #[.val (.ref a1), .val (.ref a2), .val (.int p3), .val (.int (0 : Int32)), .val .null, .unset] [(.ref a1)])) rfl (hb hby d2z_9) (n := 0) (by simp) (by decide) (by decide) (by decide)
  have sf2_a1 := CHr.safe CHc2 P0.lt sfa1
  have CH2 := CHr.trans CH0 CHc2
  have Z2 : n0 ≤ h2.size := Nat.le_trans Z0 E2.1
  have K2 : Keep h0 h2 [a1] := K0.ext E2
  have ne_a1_la2 := (lne2 _ sf2_a1).1
  have ne_a1_lb2 := (lne2 _ sf2_a1).2
  refine Gen.on (b := T2.setTop (mkF m 11 #[.val (.ref a1), .val (.ref a2), .val (.int p3), .val (.int (0 : Int32)), .val .null, .unset] [(.ref la2), (.ref a1)])) ?_ (fun t k => st2 t k)
  obtain ⟨T3, X3, e3, st3⟩ := getF X2 hx hZ hown (host := "") (Or.inl (hw _ (List.mem_of_getElem? (i := 28) rfl))) Via.refl e2 lV2 (g := (mkF m 11 #[.val (.ref a1), .val (.ref a2), .val (.int p3), .val (.int (0 : Int32)), .val .null, .unset] [(.ref la2), (.ref a1)])) rfl rfl (hb hby d2z_11)
  refine Gen.on (b := T3.setTop (mkF m 14 #[.val (.ref a1), .val (.ref a2), .val (.int p3), .val (.int (0 : Int32)), .val .null, .unset] [(.ref lb2), (.ref a1)])) ?_ (fun t k => st3 t k)
  have fa4 := (P1.ext E2)
  have fa5 := (P0.ext E2)
  obtain ⟨T6, h6, X6, e6, W6, st6⟩ := putF X3 hx hZ hown (host := "") (Or.inl (hw _ (List.mem_of_getElem? (i := 28) rfl))) Via.refl e3 fa4 fa5 (Or.inr ⟨(hw _ (List.mem_of_getElem? (i := 29) rfl)), rfl, hnm⟩) (hw _ (List.mem_of_getElem? (i := 2) rfl)) (ty := (.array .byte)) (by decide) rfl rfl (g := (mkF m 14 #[.val (.ref a1), .val (.ref a2), .val (.int p3), .val (.int (0 : Int32)), .val .null, .unset] [(.ref lb2), (.ref a1)])) rfl rfl (hb hby d2z_14)
  have Fw6 := fa4.same W6
  have sf7_a1 := Safe.wr W6 sf2_a1 CH2.1 sf2_a1
  have CH7 := CHr.trans CH2 (CHr.wr W6 sf2_a1 CH2.1)
  have hk7 := Nat.le_trans hk2 (Keep.of_wr W6).1
  have Z6 : n0 ≤ h6.size := Nat.le_trans Z2 (Keep.of_wr W6).1
  have K6 : Keep h0 h6 [a1] := K2.wr W6 (Or.inl (List.mem_of_getElem? (i := 0) rfl))
  have N6 := Fr.snoc X6 N0 g_a1
  refine Gen.on (b := T6.setTop (mkF m 17 #[.val (.ref a1), .val (.ref a2), .val (.int p3), .val (.int (0 : Int32)), .val .null, .unset] [])) ?_ (fun t k => st6 t k)
  refine Gen.on (b := T6.setTop (mkF m 18 #[.val (.ref a1), .val (.ref a2), .val (.int p3), .val (.int (0 : Int32)), .val .null, .unset] [(.ref a1)])) ?_ (fun t k => XS.aloadN X6.here hx rfl (hb hby d2z_17) rfl rfl k)
  obtain ⟨la8, T8, h8, k1_8, lb8, lk8, X8, e8, E8, hS8, hk8, hZ, hown, lE8, lC8, lV8, lA8, -, -, CHc8, -, lne8, st8⟩ := ldcCH X6 hx hZ hown (hw _ (List.mem_of_getElem? (i := 120) rfl)) wS e6 hS2 hk7 hEL (List.mem_of_getElem? (i := 0) rfl) CH7.1 (vs := []) (z := 0) (by simp) (by decide) rfl (g := (mkF m 18 #[.val (.ref a1), .val (.ref a2), .val (.int p3), .val (.int (0 : Int32)), .val .null, .unset] [(.ref a1)])) rfl (hb hby d2z_18) (n := 0) (by simp) (by decide) (by decide) (by decide)
  have fa9 := (fa5.wr W6)
  have sf8_a1 := CHr.safe CHc8 fa9.lt sf7_a1
  have CH8 := CHr.trans CH7 CHc8
  have Z8 : n0 ≤ h8.size := Nat.le_trans Z6 E8.1
  have K8 : Keep h0 h8 [a1] := K6.ext E8
  have ne_a1_la8 := (lne8 _ sf8_a1).1
  have ne_a1_lb8 := (lne8 _ sf8_a1).2
  refine Gen.on (b := T8.setTop (mkF m 20 #[.val (.ref a1), .val (.ref a2), .val (.int p3), .val (.int (0 : Int32)), .val .null, .unset] [(.ref la8), (.ref a1)])) ?_ (fun t k => st8 t k)
  obtain ⟨T10, X10, e10, st10⟩ := getF X8 hx hZ hown (host := "") (Or.inl (hw _ (List.mem_of_getElem? (i := 26) rfl))) Via.refl e8 lC8 (g := (mkF m 20 #[.val (.ref a1), .val (.ref a2), .val (.int p3), .val (.int (0 : Int32)), .val .null, .unset] [(.ref la8), (.ref a1)])) rfl rfl (hb hby d2z_20)
  refine Gen.on (b := T10.setTop (mkF m 23 #[.val (.ref a1), .val (.ref a2), .val (.int p3), .val (.int (0 : Int32)), .val .null, .unset] [(.int (0 : Int32)), (.ref a1)])) ?_ (fun t k => st10 t k)
  have fa11 := (((P2.ext E2).other W6 (Or.inr (slot_ne (Or.inr (hw _ (List.mem_of_getElem? (i := 27) rfl))) (Or.inr (hw _ (List.mem_of_getElem? (i := 29) rfl))) (by decide) (t := .byte) (t' := (.array .byte)) (by decide) (by decide)))).ext E8)
  have fa12 := (fa9.ext E8)
  obtain ⟨T13, h13, X13, e13, W13, st13⟩ := putFN X10 hx hZ hown (hw _ (List.mem_of_getElem? (i := 26) rfl)) Via.refl e10 fa11 fa12 (Or.inr ⟨(hw _ (List.mem_of_getElem? (i := 27) rfl)), rfl, hnm⟩) (hw _ (List.mem_of_getElem? (i := 2) rfl)) (ty := .byte) (v' := (.int (0 : Int32))) (by decide) rfl (by decide) (g := (mkF m 23 #[.val (.ref a1), .val (.ref a2), .val (.int p3), .val (.int (0 : Int32)), .val .null, .unset] [(.int (0 : Int32)), (.ref a1)])) rfl rfl (hb hby d2z_23)
  have Fw13 := fa11.same W13
  have sf14_a1 := Safe.wr W13 sf8_a1 CH8.1 sf8_a1
  have CH14 := CHr.trans CH8 (CHr.wr W13 sf8_a1 CH8.1)
  have hk14 := Nat.le_trans hk8 (Keep.of_wr W13).1
  have Z13 : n0 ≤ h13.size := Nat.le_trans Z8 (Keep.of_wr W13).1
  have K13 : Keep h0 h13 [a1] := K8.wr W13 (Or.inl (List.mem_of_getElem? (i := 0) rfl))
  have N13 := Fr.snoc X13 N6 g_a1
  refine Gen.on (b := T13.setTop (mkF m 26 #[.val (.ref a1), .val (.ref a2), .val (.int p3), .val (.int (0 : Int32)), .val .null, .unset] [])) ?_ (fun t k => st13 t k)
  refine ownS_ret0 X13 hh hS8 e13 hk14 hZ hEL CH14 hx Bd.returns (hb hby d2z_26) (by decide) (by decide) ?_
  have fa15 := (fa12.wr W13)
  have fa16 := (((lA2.other W6 (Ne.symm ne_a1_lb2)).ext E8).other W13 (Ne.symm ne_a1_lb2))
  have fa17 := ((Fw6.ext E8).other W13 (Or.inr (slot_ne (Or.inr (hw _ (List.mem_of_getElem? (i := 29) rfl))) (Or.inr (hw _ (List.mem_of_getElem? (i := 27) rfl))) (by decide) (t := (.array .byte)) (t' := .byte) (by decide) (by decide))))
  show Q2z Z a1 a2 p3 u2 y h0 n0 _ T13.heap _
  rw [e13]
  exact ⟨rfl, N13, K13, fa15, ⟨lb2, fa17, Fw13, own_afn0 fa16 _⟩⟩

theorem d1_0 : decode jdk_42_method_3_code 0 = .ok (.aload_n 0, 1) := by decide +kernel
theorem d1_1 : decode jdk_42_method_3_code 1 = .ok (.aload_n 1, 1) := by decide +kernel
theorem d1_2 : decode jdk_42_method_3_code 2 = .ok (.iconst 0, 1) := by decide +kernel
theorem d1_3 : decode jdk_42_method_3_code 3 = .ok (.aload_n 1, 1) := by decide +kernel
theorem d1_4 : decode jdk_42_method_3_code 4 = .ok (.arraylength, 1) := by decide +kernel
theorem d1_5 : decode jdk_42_method_3_code 5 = .ok (.aconst_null, 1) := by decide +kernel
theorem d1_6 : decode jdk_42_method_3_code 6 = .ok (.invokespecial 27, 3) := by decide +kernel
theorem d1_9 : decode jdk_42_method_3_code 9 = .ok (.return_, 1) := by decide +kernel
theorem pn_1 : plainName "java/lang/String" = true := by first | (simp [plainName, overriddenIn]; done) | decide +kernel
theorem pd_1_0 : parseMethodDescriptor "([CIILjava/lang/Void;)V" = some ⟨[(.array .char), .int, .int, (.object "java/lang/Void")], none⟩ := by decide +kernel
theorem ef_1 (m : MethodId) (x0 : Addr) (x1 : Addr) : entryFrame m #[(.ref x0), (.ref x1)] 2 = mkF m 0 #[.val (.ref x0), .val (.ref x1)] [] := by first | (simp [entryFrame, mkF, argsToLocals, Value.category]; done) | rfl
def Q1 (Z : State) (a1 : Addr) (a2 : Addr) (u1 : Value) (u2 : Value) (zc : Int32) (y : Int32 → Int32) (w0 : Int32) (f0 : Value) (h0 : Heap) (n0 : Nat) (v : Option Value) (h : Heap) (L : List Loc) : Prop := v = none ∧ Fr n0 L ∧ Keep h0 h [a1] ∧ Exa Z h a1 "java/lang/String" ∧ Lat Z h a1 zc (fun j => y ((0 : Int32) + j))
set_option maxRecDepth 65536 in
set_option maxHeartbeats 40000000 in
theorem rm1 (l : Launch) (Z : State) (a0 : Array Value) (hw : ∀ d ∈ tables_1, d.before a0 Z = true) (wds : List Jvm.Cond) (a1 : Addr) (a2 : Addr) (u1 : Value) (u2 : Value) (zc : Int32) (y : Int32 → Int32) (w0 : Int32) (f0 : Value) (h0 : Heap) (n0 : Nat) (Z0 : n0 ≤ h0.size) (P0 : Exa Z h0 a1 "java/lang/String") (P1 : Fld Z h0 a1 "java/lang/String" "value" "[B" u1) (P2 : Fld Z h0 a1 "java/lang/String" "coder" "B" u2) (P3 : Afn Z h0 a2 .char zc y) (P4 : Old Z n0 h0) (g_a1 : n0 ≤ a1) (sts : Sts Z w0 f0) (hcn : ¬ zc < 0) (hcap1 : zc.toNatClampNeg ≤ 2) (hin : ∀ j : Int32, ¬ j < 0 → j < zc → (¬ ((0 : Int32) + j) < 0 ∧ ((0 : Int32) + j) < zc) ∧ (¬ y ((0 : Int32) + j) < 0 ∧ ¬ (255 : Int32) < y ((0 : Int32) + j))) (hne0 : ¬ zc = (0 : Int32)) :
    MetFree l (⟨"java/lang/String", "<init>", "([C)V"⟩ : MethodName) (head1 (Jvm.Cond.code (⟨"java/lang/String", "<init>", "([C)V"⟩ : MethodName) jdk_42_method_3_code 2 none :: wds) ({ frames := 3, cells := 1, slots := 2, locals := 54 } : Room)) (fun a U => a = #[(.ref a1), (.ref a2)] ∧ Z.Warmed39 U.vm ∧ U.heap = h0) (fun _ _ _ _ _ => True) (fun _ U o U' => ∃ v L, o = .returned v ∧ Q1 Z a1 a2 u1 u2 zc y w0 f0 h0 n0 v U'.heap L ∧ FrameEnd U o U' L ({ frames := 3, cells := 1, slots := 2, locals := 54 } : Room).cells ({ frames := 3, cells := 1, slots := 2, locals := 54 } : Room).slots) := by
  refine MetFree.of_bodySF (plainFor_of_name pn_1) hisR ?_
  intro p e s m args below meth c s₁ Bd hml0 hP hK
  obtain ⟨rfl, hZ, hh⟩ := hP
  have hx := Bd.exec
  have hby := Bd.bytes
  have hml : c.maxLocals = 2 := hml0
  have hown : s.vm.findClass "java/lang/String" = some m.cls := findClass_of_methodNamed Bd.named
  have hnm := (name_of_methodNamed Bd.named Bd.method).1
  have X0 : Stand p l e ({ frames := 3, cells := 1, slots := 2, locals := 54 } : Room) s m #[(.ref a1), (.ref a2)] below meth c s₁ [] 0 0 := Stand.of_body Bd
  have e0 : s₁.heap = h0 := by rw [← hh, Bd.state]; rfl
  have N0 := Fr.nil n0
  refine own_start (Q := Q1 Z a1 a2 u1 u2 zc y w0 f0 h0 n0) (C := ({ frames := 3, cells := 1, slots := 2, locals := 54 } : Room).cells) (S := ({ frames := 3, cells := 1, slots := 2, locals := 54 } : Room).slots) ?_
  rw [ef_1 m a1 a2]
  have K0 : Keep h0 h0 [a1] := Keep.refl h0 [a1]
  obtain ⟨SC, hw0, SF, hf0⟩ := id sts
  refine Gen.on (b := s₁.setTop (mkF m 1 #[.val (.ref a1), .val (.ref a2)] [(.ref a1)])) ?_ (fun t k => XS.aloadN X0.here hx rfl (hb hby d1_0) rfl rfl k)
  refine Gen.on (b := s₁.setTop (mkF m 2 #[.val (.ref a1), .val (.ref a2)] [(.ref a2), (.ref a1)])) ?_ (fun t k => XS.aloadN X0.here hx rfl (hb hby d1_1) rfl rfl k)
  refine Gen.on (b := s₁.setTop (mkF m 3 #[.val (.ref a1), .val (.ref a2)] [(.int (0 : Int32)), (.ref a2), (.ref a1)])) ?_ (fun t k => XS.iconst X0.here hx rfl (hb hby d1_2) k)
  refine Gen.on (b := s₁.setTop (mkF m 4 #[.val (.ref a1), .val (.ref a2)] [(.ref a2), (.int (0 : Int32)), (.ref a2), (.ref a1)])) ?_ (fun t k => XS.aloadN X0.here hx rfl (hb hby d1_3) rfl rfl k)
  obtain ⟨cl1, Ar1, SA1, NA1, HA1⟩ := id P3
  refine Gen.on (b := s₁.setTop (mkF m 5 #[.val (.ref a1), .val (.ref a2)] [(.int zc), (.int (0 : Int32)), (.ref a2), (.ref a1)])) ?_ (fun t k => X0.arraylength hx (by rw [e0]; exact Ar1.1) (State.isArrayOf_alike hZ.alike Ar1.2.1) (g := (mkF m 4 #[.val (.ref a1), .val (.ref a2)] [(.ref a2), (.int (0 : Int32)), (.ref a2), (.ref a1)])) rfl rfl (hb hby d1_4) t (by rw [len_of SA1 NA1]; exact k))
  refine Gen.on (b := s₁.setTop (mkF m 6 #[.val (.ref a1), .val (.ref a2)] [.null, (.int zc), (.int (0 : Int32)), (.ref a2), (.ref a1)])) ?_ (fun t k => XS.aconstNull X0.here hx rfl (hb hby d1_5) k)
  obtain ⟨_, _, ⟨T2, L2, k2, n2⟩, -, X2, ⟨Lc2, hQ2, l2, y2, z2⟩, st2⟩ := X0.specialBack hx (y := (⟨"java/lang/String", "<init>", "([CIILjava/lang/Void;)V"⟩ : MethodName)) rfl hown (mvT hZ (hw _ (List.mem_of_getElem? (i := 7) rfl))) (mvT hZ (hw _ (List.mem_of_getElem? (i := 8) rfl))) (mvT hZ (hw _ (List.mem_of_getElem? (i := 10) rfl))) (by decide) (backOf (W := 0) (rm2 l Z a0 hw [] a1 a2 (0 : Int32) zc u1 u2 zc y w0 f0 h0 n0 Z0 P0 P1 P2 P3 P4 g_a1 (sts) (hcn) (hcap1) (hin) (hne0)) hZ (hw _ (List.mem_of_getElem? (i := 10) rfl)) (hw _ (List.mem_of_getElem? (i := 3) rfl)) (by decide) (by decide)) (g := (mkF m 6 #[.val (.ref a1), .val (.ref a2)] [.null, (.int zc), (.int (0 : Int32)), (.ref a2), (.ref a1)])) rfl (by rw [hml]; rfl) (Steps.refl _) (a := a1) (argsL := [(.ref a2), (.int (0 : Int32)), (.int zc), .null]) (rest := []) (lenOf pd_1_0 rfl) rfl (by show 2 * 0 + _ ≤ _; exact Nat.le_of_eq rfl) (hb hby d1_6) (fun _ _ => ⟨rfl, e0, (by decide : 0 + 1 ≤ _), (by decide : 0 + 2 ≤ _)⟩)
  dsimp only [Pt.U, Pt.locs, Pt.cells, Pt.slots] at X2 l2 y2 z2 st2 hQ2
  subst l2 y2 z2
  obtain ⟨rfl, N2q, Kc2, hf2_0, hf2_1⟩ := hQ2
  have N2 := Fr.app N0 N2q
  have Z2 : n0 ≤ T2.heap.size := Nat.le_trans Z0 Kc2.1
  have K2 : Keep h0 T2.heap [a1] := K0.trans Kc2 (allS (Or.inl (List.mem_of_getElem? (i := 0) rfl)) all0)
  refine Gen.on (b := T2.setTop (mkF m 9 #[.val (.ref a1), .val (.ref a2)] [])) ?_ (fun t k => st2.trans k)
  refine own_ret0 X2 hx Bd.returns (hb hby d1_9) (by decide) (by decide) ?_
  show Q1 Z a1 a2 u1 u2 zc y w0 f0 h0 n0 _ T2.heap _
  exact ⟨rfl, N2, K2, hf2_0, hf2_1⟩

theorem d19_0 : decode jdk_41_method_13_code 0 = .ok (.iload_n 2, 1) := by decide +kernel
theorem d19_1 : decode jdk_41_method_13_code 1 = .ok (.iload_n 0, 1) := by decide +kernel
theorem d19_2 : decode jdk_41_method_13_code 2 = .ok (.ior, 1) := by decide +kernel
theorem d19_3 : decode jdk_41_method_13_code 3 = .ok (.iload_n 1, 1) := by decide +kernel
theorem d19_4 : decode jdk_41_method_13_code 4 = .ok (.ior, 1) := by decide +kernel
theorem d19_5 : decode jdk_41_method_13_code 5 = .ok (.ifCond .lt 10, 3) := by decide +kernel
theorem d19_8 : decode jdk_41_method_13_code 8 = .ok (.iload_n 1, 1) := by decide +kernel
theorem d19_9 : decode jdk_41_method_13_code 9 = .ok (.iload_n 2, 1) := by decide +kernel
theorem d19_10 : decode jdk_41_method_13_code 10 = .ok (.iload_n 0, 1) := by decide +kernel
theorem d19_11 : decode jdk_41_method_13_code 11 = .ok (.isub, 1) := by decide +kernel
theorem d19_12 : decode jdk_41_method_13_code 12 = .ok (.if_icmp .le 11, 3) := by decide +kernel
theorem d19_23 : decode jdk_41_method_13_code 23 = .ok (.iload_n 0, 1) := by decide +kernel
theorem d19_24 : decode jdk_41_method_13_code 24 = .ok (.ireturn, 1) := by decide +kernel
theorem pn_19 : plainName "jdk/internal/util/Preconditions" = true := by first | (simp [plainName, overriddenIn]; done) | decide +kernel
theorem ef_19 (m : MethodId) (x0 : Int32) (x1 : Int32) (x2 : Int32) (x3 : Value) (hx3 : x3.isRef = true) : entryFrame m #[(.int x0), (.int x1), (.int x2), x3] 4 = mkF m 0 #[.val (.int x0), .val (.int x1), .val (.int x2), .val x3] [] := by rcases ref_cases hx3 with rfl | ⟨_, rfl⟩ <;> first | (simp [entryFrame, mkF, argsToLocals, Value.category]; done) | rfl
def Q19 (Z : State) (p1 : Int32) (p2 : Int32) (p3 : Int32) (f0 : Value) (h0 : Heap) (n0 : Nat) (v : Option Value) (h : Heap) (L : List Loc) : Prop := v = some (.int p1) ∧ Fr n0 L ∧ h = h0
set_option maxRecDepth 65536 in
set_option maxHeartbeats 40000000 in
theorem rm19 (l : Launch) (Z : State) (a0 : Array Value) (hw : ∀ d ∈ tables_1, d.before a0 Z = true) (wds : List Jvm.Cond) (p1 : Int32) (p2 : Int32) (p3 : Int32) (f0 : Value) (h0 : Heap) (n0 : Nat) (Z0 : n0 ≤ h0.size) (hc0 : ¬ (((p3 ||| p1) ||| p2) < (0 : Int32))) (hc1 : ¬ ((p3 - p1) < p2)) (hf0 : f0.isRef = true) :
    MetFree l (⟨"jdk/internal/util/Preconditions", "checkFromIndexSize", "(IIILjava/util/function/BiFunction;)I"⟩ : MethodName) (head1 (Jvm.Cond.code (⟨"jdk/internal/util/Preconditions", "checkFromIndexSize", "(IIILjava/util/function/BiFunction;)I"⟩ : MethodName) jdk_41_method_13_code 4 (some .int) :: wds) ({ frames := 0, cells := 0, slots := 0, locals := 0 } : Room)) (fun a U => a = #[(.int p1), (.int p2), (.int p3), f0] ∧ Z.Warmed39 U.vm ∧ U.heap = h0) (fun _ _ _ _ _ => True) (fun _ U o U' => ∃ v L, o = .returned v ∧ Q19 Z p1 p2 p3 f0 h0 n0 v U'.heap L ∧ FrameEnd U o U' L ({ frames := 0, cells := 0, slots := 0, locals := 0 } : Room).cells ({ frames := 0, cells := 0, slots := 0, locals := 0 } : Room).slots) := by
  refine MetFree.of_bodySF (plainFor_of_name pn_19) hisR ?_
  intro p e s m args below meth c s₁ Bd hml0 hP hK
  obtain ⟨rfl, hZ, hh⟩ := hP
  have hx := Bd.exec
  have hby := Bd.bytes
  have hml : c.maxLocals = 4 := hml0
  have hown : s.vm.findClass "jdk/internal/util/Preconditions" = some m.cls := findClass_of_methodNamed Bd.named
  have hnm := (name_of_methodNamed Bd.named Bd.method).1
  have X0 : Stand p l e ({ frames := 0, cells := 0, slots := 0, locals := 0 } : Room) s m #[(.int p1), (.int p2), (.int p3), f0] below meth c s₁ [] 0 0 := Stand.of_body Bd
  have e0 : s₁.heap = h0 := by rw [← hh, Bd.state]; rfl
  have N0 := Fr.nil n0
  refine own_start (Q := Q19 Z p1 p2 p3 f0 h0 n0) (C := ({ frames := 0, cells := 0, slots := 0, locals := 0 } : Room).cells) (S := ({ frames := 0, cells := 0, slots := 0, locals := 0 } : Room).slots) ?_
  rw [ef_19 m p1 p2 p3 f0 hf0]
  refine Gen.on (b := s₁.setTop (mkF m 1 #[.val (.int p1), .val (.int p2), .val (.int p3), .val f0] [(.int p3)])) ?_ (fun t k => XS.iloadN X0.here hx rfl (hb hby d19_0) rfl k)
  refine Gen.on (b := s₁.setTop (mkF m 2 #[.val (.int p1), .val (.int p2), .val (.int p3), .val f0] [(.int p1), (.int p3)])) ?_ (fun t k => XS.iloadN X0.here hx rfl (hb hby d19_1) rfl k)
  refine Gen.on (b := s₁.setTop (mkF m 3 #[.val (.int p1), .val (.int p2), .val (.int p3), .val f0] [(.int (p3 ||| p1))])) ?_ (fun t k => XS.ior X0.here hx rfl (hb hby d19_2) rfl k)
  refine Gen.on (b := s₁.setTop (mkF m 4 #[.val (.int p1), .val (.int p2), .val (.int p3), .val f0] [(.int p2), (.int (p3 ||| p1))])) ?_ (fun t k => XS.iloadN X0.here hx rfl (hb hby d19_3) rfl k)
  refine Gen.on (b := s₁.setTop (mkF m 5 #[.val (.int p1), .val (.int p2), .val (.int p3), .val f0] [(.int ((p3 ||| p1) ||| p2))])) ?_ (fun t k => XS.ior X0.here hx rfl (hb hby d19_4) rfl k)
  refine Gen.on (b := s₁.setTop (mkF m 8 #[.val (.int p1), .val (.int p2), .val (.int p3), .val f0] [])) ?_ (fun t k => XS.ifNo X0.here hx rfl (hb hby d19_5) rfl ((if0 _ _).trans (flt hc0).1) k)
  refine Gen.on (b := s₁.setTop (mkF m 9 #[.val (.int p1), .val (.int p2), .val (.int p3), .val f0] [(.int p2)])) ?_ (fun t k => XS.iloadN X0.here hx rfl (hb hby d19_8) rfl k)
  refine Gen.on (b := s₁.setTop (mkF m 10 #[.val (.int p1), .val (.int p2), .val (.int p3), .val f0] [(.int p3), (.int p2)])) ?_ (fun t k => XS.iloadN X0.here hx rfl (hb hby d19_9) rfl k)
  refine Gen.on (b := s₁.setTop (mkF m 11 #[.val (.int p1), .val (.int p2), .val (.int p3), .val f0] [(.int p1), (.int p3), (.int p2)])) ?_ (fun t k => XS.iloadN X0.here hx rfl (hb hby d19_10) rfl k)
  refine Gen.on (b := s₁.setTop (mkF m 12 #[.val (.int p1), .val (.int p2), .val (.int p3), .val f0] [(.int (p3 - p1)), (.int p2)])) ?_ (fun t k => XS.isub X0.here hx rfl (hb hby d19_11) rfl k)
  refine Gen.on (b := s₁.setTop (mkF m 23 #[.val (.int p1), .val (.int p2), .val (.int p3), .val f0] [])) ?_ (fun t k => XS.icmpYes X0.here hx rfl (pc0 := 12) (pc' := 23) rfl (hb hby d19_12) rfl (flt hc1).2.2.2 (by decide) (by decide) k)
  refine Gen.on (b := s₁.setTop (mkF m 24 #[.val (.int p1), .val (.int p2), .val (.int p3), .val f0] [(.int p1)])) ?_ (fun t k => XS.iloadN X0.here hx rfl (hb hby d19_23) rfl k)
  refine own_retI X0 hx Bd.returns (hb hby d19_24) (by decide) (by decide) ?_
  exact ⟨rfl, N0, e0⟩

theorem d18_0 : decode jdk_42_method_157_code 0 = .ok (.iload_n 0, 1) := by decide +kernel
theorem d18_1 : decode jdk_42_method_157_code 1 = .ok (.iload_n 1, 1) := by decide +kernel
theorem d18_2 : decode jdk_42_method_157_code 2 = .ok (.iload_n 2, 1) := by decide +kernel
theorem d18_3 : decode jdk_42_method_157_code 3 = .ok (.getstatic 1053, 3) := by decide +kernel
theorem d18_6 : decode jdk_42_method_157_code 6 = .ok (.invokestatic 1065, 3) := by decide +kernel
theorem d18_9 : decode jdk_42_method_157_code 9 = .ok (.ireturn, 1) := by decide +kernel
theorem pn_18 : plainName "java/lang/String" = true := by first | (simp [plainName, overriddenIn]; done) | decide +kernel
theorem pd_18_0 : parseMethodDescriptor "(IIILjava/util/function/BiFunction;)I" = some ⟨[.int, .int, .int, (.object "java/util/function/BiFunction")], some .int⟩ := by decide +kernel
theorem ef_18 (m : MethodId) (x0 : Int32) (x1 : Int32) (x2 : Int32) : entryFrame m #[(.int x0), (.int x1), (.int x2)] 3 = mkF m 0 #[.val (.int x0), .val (.int x1), .val (.int x2)] [] := by first | (simp [entryFrame, mkF, argsToLocals, Value.category]; done) | rfl
def Q18 (Z : State) (p1 : Int32) (p2 : Int32) (p3 : Int32) (w0 : Int32) (f0 : Value) (h0 : Heap) (n0 : Nat) (v : Option Value) (h : Heap) (L : List Loc) : Prop := v = some (.int p1) ∧ Fr n0 L ∧ h = h0
set_option maxRecDepth 65536 in
set_option maxHeartbeats 40000000 in
theorem rm18 (l : Launch) (Z : State) (a0 : Array Value) (hw : ∀ d ∈ tables_1, d.before a0 Z = true) (wds : List Jvm.Cond) (p1 : Int32) (p2 : Int32) (p3 : Int32) (w0 : Int32) (f0 : Value) (h0 : Heap) (n0 : Nat) (Z0 : n0 ≤ h0.size) (P0 : Old Z n0 h0) (hc0 : ¬ (((p3 ||| p1) ||| p2) < (0 : Int32))) (hc1 : ¬ ((p3 - p1) < p2)) (sts : Sts Z w0 f0) :
    MetFree l (⟨"java/lang/String", "checkBoundsOffCount", "(III)I"⟩ : MethodName) (head1 (Jvm.Cond.code (⟨"java/lang/String", "checkBoundsOffCount", "(III)I"⟩ : MethodName) jdk_42_method_157_code 3 (some .int) :: wds) ({ frames := 1, cells := 0, slots := 0, locals := 15 } : Room)) (fun a U => a = #[(.int p1), (.int p2), (.int p3)] ∧ Z.Warmed39 U.vm ∧ U.heap = h0) (fun _ _ _ _ _ => True) (fun _ U o U' => ∃ v L, o = .returned v ∧ Q18 Z p1 p2 p3 w0 f0 h0 n0 v U'.heap L ∧ FrameEnd U o U' L ({ frames := 1, cells := 0, slots := 0, locals := 15 } : Room).cells ({ frames := 1, cells := 0, slots := 0, locals := 15 } : Room).slots) := by
  refine MetFree.of_bodySF (plainFor_of_name pn_18) hisR ?_
  intro p e s m args below meth c s₁ Bd hml0 hP hK
  obtain ⟨rfl, hZ, hh⟩ := hP
  have hx := Bd.exec
  have hby := Bd.bytes
  have hml : c.maxLocals = 3 := hml0
  have hown : s.vm.findClass "java/lang/String" = some m.cls := findClass_of_methodNamed Bd.named
  have hnm := (name_of_methodNamed Bd.named Bd.method).1
  have X0 : Stand p l e ({ frames := 1, cells := 0, slots := 0, locals := 15 } : Room) s m #[(.int p1), (.int p2), (.int p3)] below meth c s₁ [] 0 0 := Stand.of_body Bd
  have e0 : s₁.heap = h0 := by rw [← hh, Bd.state]; rfl
  have N0 := Fr.nil n0
  refine own_start (Q := Q18 Z p1 p2 p3 w0 f0 h0 n0) (C := ({ frames := 1, cells := 0, slots := 0, locals := 15 } : Room).cells) (S := ({ frames := 1, cells := 0, slots := 0, locals := 15 } : Room).slots) ?_
  rw [ef_18 m p1 p2 p3]
  obtain ⟨SC, hw0, SF, hf0⟩ := id sts
  refine Gen.on (b := s₁.setTop (mkF m 1 #[.val (.int p1), .val (.int p2), .val (.int p3)] [(.int p1)])) ?_ (fun t k => XS.iloadN X0.here hx rfl (hb hby d18_0) rfl k)
  refine Gen.on (b := s₁.setTop (mkF m 2 #[.val (.int p1), .val (.int p2), .val (.int p3)] [(.int p2), (.int p1)])) ?_ (fun t k => XS.iloadN X0.here hx rfl (hb hby d18_1) rfl k)
  refine Gen.on (b := s₁.setTop (mkF m 3 #[.val (.int p1), .val (.int p2), .val (.int p3)] [(.int p3), (.int p2), (.int p1)])) ?_ (fun t k => XS.iloadN X0.here hx rfl (hb hby d18_2) rfl k)
  have fa2 := Sta.ext P0.2 SF
  obtain ⟨T1, X1, e1, st1⟩ := getS2 X0 hx hZ hown (host := "") (Or.inl (hw _ (List.mem_of_getElem? (i := 115) rfl))) Via.refl e0 fa2 (g := (mkF m 3 #[.val (.int p1), .val (.int p2), .val (.int p3)] [(.int p3), (.int p2), (.int p1)])) rfl (hb hby d18_3)
  refine Gen.on (b := T1.setTop (mkF m 6 #[.val (.int p1), .val (.int p2), .val (.int p3)] [f0, (.int p3), (.int p2), (.int p1)])) ?_ (fun t k => st1 t k)
  obtain ⟨_, _, ⟨T3, L3, k3, n3⟩, -, X3, ⟨Lc3, hQ3, l3, y3, z3⟩, st3⟩ := Jvm.LawKit.callS X1 hx (y := (⟨"jdk/internal/util/Preconditions", "checkFromIndexSize", "(IIILjava/util/function/BiFunction;)I"⟩ : MethodName)) hown (mvT hZ (hw _ (List.mem_of_getElem? (i := 117) rfl))) (mvT hZ (hw _ (List.mem_of_getElem? (i := 118) rfl))) (mvT hZ (hw _ (List.mem_of_getElem? (i := 116) rfl))) (mvT hZ (hw _ (List.mem_of_getElem? (i := 119) rfl))) (by decide) (backOf (W := 0) (rm19 l Z a0 hw [] p1 p2 p3 f0  h0 n0 Z0 hc0 hc1 (hf0)) hZ (hw _ (List.mem_of_getElem? (i := 119) rfl)) (hw _ (List.mem_of_getElem? (i := 116) rfl)) (by decide) (by decide)) (g := (mkF m 6 #[.val (.int p1), .val (.int p2), .val (.int p3)] [f0, (.int p3), (.int p2), (.int p1)])) rfl (by rw [hml]; rfl) (argsL := [(.int p1), (.int p2), (.int p3), f0]) (rest := []) (lenOf pd_18_0 rfl) rfl (by show 2 * 0 + _ ≤ _; exact Nat.le_of_eq rfl) (hb hby d18_6) (fun _ _ => ⟨rfl, e1, (by decide : 0 + 0 ≤ _), (by decide : 0 + 0 ≤ _)⟩)
  dsimp only [Pt.U, Pt.locs, Pt.cells, Pt.slots] at X3 l3 y3 z3 st3 hQ3
  subst l3 y3 z3
  obtain ⟨rfl, N3q, e3⟩ := hQ3
  have N3 := Fr.app N0 N3q
  refine Gen.on (b := T3.setTop (mkF m 9 #[.val (.int p1), .val (.int p2), .val (.int p3)] [(.int p1)])) ?_ (fun t k => st3 t k)
  refine own_retI X3 hx Bd.returns (hb hby d18_9) (by decide) (by decide) ?_
  exact ⟨rfl, N3, e3⟩

theorem d17_0 : decode jdk_42_method_5_code 0 = .ok (.iload_n 1, 1) := by decide +kernel
theorem d17_1 : decode jdk_42_method_5_code 1 = .ok (.iload_n 2, 1) := by decide +kernel
theorem d17_2 : decode jdk_42_method_5_code 2 = .ok (.aload_n 0, 1) := by decide +kernel
theorem d17_3 : decode jdk_42_method_5_code 3 = .ok (.arraylength, 1) := by decide +kernel
theorem d17_4 : decode jdk_42_method_5_code 4 = .ok (.invokestatic 34, 3) := by decide +kernel
theorem d17_7 : decode jdk_42_method_5_code 7 = .ok (.pop, 1) := by decide +kernel
theorem d17_8 : decode jdk_42_method_5_code 8 = .ok (.aconst_null, 1) := by decide +kernel
theorem d17_9 : decode jdk_42_method_5_code 9 = .ok (.areturn, 1) := by decide +kernel
theorem pn_17 : plainName "java/lang/String" = true := by first | (simp [plainName, overriddenIn]; done) | decide +kernel
theorem pd_17_0 : parseMethodDescriptor "(III)I" = some ⟨[.int, .int, .int], some .int⟩ := by decide +kernel
theorem ef_17 (m : MethodId) (x0 : Addr) (x1 : Int32) (x2 : Int32) : entryFrame m #[(.ref x0), (.int x1), (.int x2)] 3 = mkF m 0 #[.val (.ref x0), .val (.int x1), .val (.int x2)] [] := by first | (simp [entryFrame, mkF, argsToLocals, Value.category]; done) | rfl
def Q17 (Z : State) (a1 : Addr) (p2 : Int32) (p3 : Int32) (zc : Int32) (y : Int32 → Int32) (w0 : Int32) (f0 : Value) (h0 : Heap) (n0 : Nat) (v : Option Value) (h : Heap) (L : List Loc) : Prop := v = some .null ∧ Fr n0 L ∧ h = h0
set_option maxRecDepth 65536 in
set_option maxHeartbeats 40000000 in
theorem rm17 (l : Launch) (Z : State) (a0 : Array Value) (hw : ∀ d ∈ tables_1, d.before a0 Z = true) (wds : List Jvm.Cond) (a1 : Addr) (p2 : Int32) (p3 : Int32) (zc : Int32) (y : Int32 → Int32) (w0 : Int32) (f0 : Value) (h0 : Heap) (n0 : Nat) (Z0 : n0 ≤ h0.size) (P0 : Afn Z h0 a1 .char zc y) (P1 : Old Z n0 h0) (hc0 : ¬ (((zc ||| p2) ||| p3) < (0 : Int32))) (hc1 : ¬ ((zc - p2) < p3)) (sts : Sts Z w0 f0) :
    MetFree l (⟨"java/lang/String", "rangeCheck", "([CII)Ljava/lang/Void;"⟩ : MethodName) (head1 (Jvm.Cond.code (⟨"java/lang/String", "rangeCheck", "([CII)Ljava/lang/Void;"⟩ : MethodName) jdk_42_method_5_code 3 (some (.object "java/lang/Void")) :: wds) ({ frames := 2, cells := 0, slots := 0, locals := 29 } : Room)) (fun a U => a = #[(.ref a1), (.int p2), (.int p3)] ∧ Z.Warmed39 U.vm ∧ U.heap = h0) (fun _ _ _ _ _ => True) (fun _ U o U' => ∃ v L, o = .returned v ∧ Q17 Z a1 p2 p3 zc y w0 f0 h0 n0 v U'.heap L ∧ FrameEnd U o U' L ({ frames := 2, cells := 0, slots := 0, locals := 29 } : Room).cells ({ frames := 2, cells := 0, slots := 0, locals := 29 } : Room).slots) := by
  refine MetFree.of_bodySF (plainFor_of_name pn_17) hisR ?_
  intro p e s m args below meth c s₁ Bd hml0 hP hK
  obtain ⟨rfl, hZ, hh⟩ := hP
  have hx := Bd.exec
  have hby := Bd.bytes
  have hml : c.maxLocals = 3 := hml0
  have hown : s.vm.findClass "java/lang/String" = some m.cls := findClass_of_methodNamed Bd.named
  have hnm := (name_of_methodNamed Bd.named Bd.method).1
  have X0 : Stand p l e ({ frames := 2, cells := 0, slots := 0, locals := 29 } : Room) s m #[(.ref a1), (.int p2), (.int p3)] below meth c s₁ [] 0 0 := Stand.of_body Bd
  have e0 : s₁.heap = h0 := by rw [← hh, Bd.state]; rfl
  have N0 := Fr.nil n0
  refine own_start (Q := Q17 Z a1 p2 p3 zc y w0 f0 h0 n0) (C := ({ frames := 2, cells := 0, slots := 0, locals := 29 } : Room).cells) (S := ({ frames := 2, cells := 0, slots := 0, locals := 29 } : Room).slots) ?_
  rw [ef_17 m a1 p2 p3]
  obtain ⟨SC, hw0, SF, hf0⟩ := id sts
  refine Gen.on (b := s₁.setTop (mkF m 1 #[.val (.ref a1), .val (.int p2), .val (.int p3)] [(.int p2)])) ?_ (fun t k => XS.iloadN X0.here hx rfl (hb hby d17_0) rfl k)
  refine Gen.on (b := s₁.setTop (mkF m 2 #[.val (.ref a1), .val (.int p2), .val (.int p3)] [(.int p3), (.int p2)])) ?_ (fun t k => XS.iloadN X0.here hx rfl (hb hby d17_1) rfl k)
  refine Gen.on (b := s₁.setTop (mkF m 3 #[.val (.ref a1), .val (.int p2), .val (.int p3)] [(.ref a1), (.int p3), (.int p2)])) ?_ (fun t k => XS.aloadN X0.here hx rfl (hb hby d17_2) rfl rfl k)
  obtain ⟨cl1, Ar1, SA1, NA1, HA1⟩ := id P0
  refine Gen.on (b := s₁.setTop (mkF m 4 #[.val (.ref a1), .val (.int p2), .val (.int p3)] [(.int zc), (.int p3), (.int p2)])) ?_ (fun t k => X0.arraylength hx (by rw [e0]; exact Ar1.1) (State.isArrayOf_alike hZ.alike Ar1.2.1) (g := (mkF m 3 #[.val (.ref a1), .val (.int p2), .val (.int p3)] [(.ref a1), (.int p3), (.int p2)])) rfl rfl (hb hby d17_3) t (by rw [len_of SA1 NA1]; exact k))
  obtain ⟨_, _, ⟨T2, L2, k2, n2⟩, -, X2, ⟨Lc2, hQ2, l2, y2, z2⟩, st2⟩ := Jvm.LawKit.callS X0 hx (y := (⟨"java/lang/String", "checkBoundsOffCount", "(III)I"⟩ : MethodName)) hown (mvT hZ (hw _ (List.mem_of_getElem? (i := 112) rfl))) (mvT hZ (hw _ (List.mem_of_getElem? (i := 113) rfl))) (mvT hZ (hw _ (List.mem_of_getElem? (i := 3) rfl))) (mvT hZ (hw _ (List.mem_of_getElem? (i := 114) rfl))) (by decide) (backOf (W := 0) (rm18 l Z a0 hw [] p2 p3 zc w0 f0 h0 n0 Z0 P1 hc0 hc1 (sts)) hZ (hw _ (List.mem_of_getElem? (i := 114) rfl)) (hw _ (List.mem_of_getElem? (i := 3) rfl)) (by decide) (by decide)) (g := (mkF m 4 #[.val (.ref a1), .val (.int p2), .val (.int p3)] [(.int zc), (.int p3), (.int p2)])) rfl (by rw [hml]; rfl) (argsL := [(.int p2), (.int p3), (.int zc)]) (rest := []) (lenOf pd_17_0 rfl) rfl (by show 2 * 0 + _ ≤ _; exact Nat.le_of_eq rfl) (hb hby d17_4) (fun _ _ => ⟨rfl, e0, (by decide : 0 + 0 ≤ _), (by decide : 0 + 0 ≤ _)⟩)
  dsimp only [Pt.U, Pt.locs, Pt.cells, Pt.slots] at X2 l2 y2 z2 st2 hQ2
  subst l2 y2 z2
  obtain ⟨rfl, N2q, e2⟩ := hQ2
  have N2 := Fr.app N0 N2q
  refine Gen.on (b := T2.setTop (mkF m 7 #[.val (.ref a1), .val (.int p2), .val (.int p3)] [(.int p2)])) ?_ (fun t k => st2 t k)
  refine Gen.on (b := T2.setTop (mkF m 8 #[.val (.ref a1), .val (.int p2), .val (.int p3)] [])) ?_ (fun t k => XS.pop X2.here hx rfl (hb hby d17_7) rfl rfl k)
  refine Gen.on (b := T2.setTop (mkF m 9 #[.val (.ref a1), .val (.int p2), .val (.int p3)] [.null])) ?_ (fun t k => XS.aconstNull X2.here hx rfl (hb hby d17_8) k)
  refine own_retA X2 hx Bd.returns rfl rfl (hb hby d17_9) (by decide) (by decide) ?_
  exact ⟨rfl, N2, e2⟩

theorem d16_0 : decode jdk_42_method_4_code 0 = .ok (.aload_n 0, 1) := by decide +kernel
theorem d16_1 : decode jdk_42_method_4_code 1 = .ok (.aload_n 1, 1) := by decide +kernel
theorem d16_2 : decode jdk_42_method_4_code 2 = .ok (.iload_n 2, 1) := by decide +kernel
theorem d16_3 : decode jdk_42_method_4_code 3 = .ok (.iload_n 3, 1) := by decide +kernel
theorem d16_4 : decode jdk_42_method_4_code 4 = .ok (.aload_n 1, 1) := by decide +kernel
theorem d16_5 : decode jdk_42_method_4_code 5 = .ok (.iload_n 2, 1) := by decide +kernel
theorem d16_6 : decode jdk_42_method_4_code 6 = .ok (.iload_n 3, 1) := by decide +kernel
theorem d16_7 : decode jdk_42_method_4_code 7 = .ok (.invokestatic 30, 3) := by decide +kernel
theorem d16_10 : decode jdk_42_method_4_code 10 = .ok (.invokespecial 27, 3) := by decide +kernel
theorem d16_13 : decode jdk_42_method_4_code 13 = .ok (.return_, 1) := by decide +kernel
theorem pn_16 : plainName "java/lang/String" = true := by first | (simp [plainName, overriddenIn]; done) | decide +kernel
theorem pd_16_0 : parseMethodDescriptor "([CII)Ljava/lang/Void;" = some ⟨[(.array .char), .int, .int], some (.object "java/lang/Void")⟩ := by decide +kernel
theorem pd_16_1 : parseMethodDescriptor "([CIILjava/lang/Void;)V" = some ⟨[(.array .char), .int, .int, (.object "java/lang/Void")], none⟩ := by decide +kernel
theorem ef_16 (m : MethodId) (x0 : Addr) (x1 : Addr) (x2 : Int32) (x3 : Int32) : entryFrame m #[(.ref x0), (.ref x1), (.int x2), (.int x3)] 4 = mkF m 0 #[.val (.ref x0), .val (.ref x1), .val (.int x2), .val (.int x3)] [] := by first | (simp [entryFrame, mkF, argsToLocals, Value.category]; done) | rfl
def Q16 (Z : State) (a1 : Addr) (a2 : Addr) (p3 : Int32) (p4 : Int32) (u1 : Value) (u2 : Value) (zc : Int32) (y : Int32 → Int32) (w0 : Int32) (f0 : Value) (h0 : Heap) (n0 : Nat) (v : Option Value) (h : Heap) (L : List Loc) : Prop := v = none ∧ Fr n0 L ∧ Keep h0 h [a1] ∧ Exa Z h a1 "java/lang/String" ∧ Lat Z h a1 p4 (fun j => y (p3 + j))
set_option maxRecDepth 65536 in
set_option maxHeartbeats 40000000 in
theorem rm16 (l : Launch) (Z : State) (a0 : Array Value) (hw : ∀ d ∈ tables_1, d.before a0 Z = true) (wds : List Jvm.Cond) (a1 : Addr) (a2 : Addr) (p3 : Int32) (p4 : Int32) (u1 : Value) (u2 : Value) (zc : Int32) (y : Int32 → Int32) (w0 : Int32) (f0 : Value) (h0 : Heap) (n0 : Nat) (Z0 : n0 ≤ h0.size) (P0 : Exa Z h0 a1 "java/lang/String") (P1 : Fld Z h0 a1 "java/lang/String" "value" "[B" u1) (P2 : Fld Z h0 a1 "java/lang/String" "coder" "B" u2) (P3 : Afn Z h0 a2 .char zc y) (P4 : Old Z n0 h0) (g_a1 : n0 ≤ a1) (hc0 : ¬ (((zc ||| p3) ||| p4) < (0 : Int32))) (hc1 : ¬ ((zc - p3) < p4)) (sts : Sts Z w0 f0) (hcn : ¬ p4 < 0) (hcap1 : p4.toNatClampNeg ≤ 2) (hin : ∀ j : Int32, ¬ j < 0 → j < p4 → (¬ (p3 + j) < 0 ∧ (p3 + j) < zc) ∧ (¬ y (p3 + j) < 0 ∧ ¬ (255 : Int32) < y (p3 + j))) (hne0 : ¬ p4 = (0 : Int32)) :
    MetFree l (⟨"java/lang/String", "<init>", "([CII)V"⟩ : MethodName) (head1 (Jvm.Cond.code (⟨"java/lang/String", "<init>", "([CII)V"⟩ : MethodName) jdk_42_method_4_code 4 none :: wds) ({ frames := 3, cells := 1, slots := 2, locals := 54 } : Room)) (fun a U => a = #[(.ref a1), (.ref a2), (.int p3), (.int p4)] ∧ Z.Warmed39 U.vm ∧ U.heap = h0) (fun _ _ _ _ _ => True) (fun _ U o U' => ∃ v L, o = .returned v ∧ Q16 Z a1 a2 p3 p4 u1 u2 zc y w0 f0 h0 n0 v U'.heap L ∧ FrameEnd U o U' L ({ frames := 3, cells := 1, slots := 2, locals := 54 } : Room).cells ({ frames := 3, cells := 1, slots := 2, locals := 54 } : Room).slots) := by
  refine MetFree.of_bodySF (plainFor_of_name pn_16) hisR ?_
  intro p e s m args below meth c s₁ Bd hml0 hP hK
  obtain ⟨rfl, hZ, hh⟩ := hP
  have hx := Bd.exec
  have hby := Bd.bytes
  have hml : c.maxLocals = 4 := hml0
  have hown : s.vm.findClass "java/lang/String" = some m.cls := findClass_of_methodNamed Bd.named
  have hnm := (name_of_methodNamed Bd.named Bd.method).1
  have X0 : Stand p l e ({ frames := 3, cells := 1, slots := 2, locals := 54 } : Room) s m #[(.ref a1), (.ref a2), (.int p3), (.int p4)] below meth c s₁ [] 0 0 := Stand.of_body Bd
  have e0 : s₁.heap = h0 := by rw [← hh, Bd.state]; rfl
  have N0 := Fr.nil n0
  refine own_start (Q := Q16 Z a1 a2 p3 p4 u1 u2 zc y w0 f0 h0 n0) (C := ({ frames := 3, cells := 1, slots := 2, locals := 54 } : Room).cells) (S := ({ frames := 3, cells := 1, slots := 2, locals := 54 } : Room).slots) ?_
  rw [ef_16 m a1 a2 p3 p4]
  have K0 : Keep h0 h0 [a1] := Keep.refl h0 [a1]
  obtain ⟨SC, hw0, SF, hf0⟩ := id sts
  refine Gen.on (b := s₁.setTop (mkF m 1 #[.val (.ref a1), .val (.ref a2), .val (.int p3), .val (.int p4)] [(.ref a1)])) ?_ (fun t k => XS.aloadN X0.here hx rfl (hb hby d16_0) rfl rfl k)
  refine Gen.on (b := s₁.setTop (mkF m 2 #[.val (.ref a1), .val (.ref a2), .val (.int p3), .val (.int p4)] [(.ref a2), (.ref a1)])) ?_ (fun t k => XS.aloadN X0.here hx rfl (hb hby d16_1) rfl rfl k)
  refine Gen.on (b := s₁.setTop (mkF m 3 #[.val (.ref a1), .val (.ref a2), .val (.int p3), .val (.int p4)] [(.int p3), (.ref a2), (.ref a1)])) ?_ (fun t k => XS.iloadN X0.here hx rfl (hb hby d16_2) rfl k)
  refine Gen.on (b := s₁.setTop (mkF m 4 #[.val (.ref a1), .val (.ref a2), .val (.int p3), .val (.int p4)] [(.int p4), (.int p3), (.ref a2), (.ref a1)])) ?_ (fun t k => XS.iloadN X0.here hx rfl (hb hby d16_3) rfl k)
  refine Gen.on (b := s₁.setTop (mkF m 5 #[.val (.ref a1), .val (.ref a2), .val (.int p3), .val (.int p4)] [(.ref a2), (.int p4), (.int p3), (.ref a2), (.ref a1)])) ?_ (fun t k => XS.aloadN X0.here hx rfl (hb hby d16_4) rfl rfl k)
  refine Gen.on (b := s₁.setTop (mkF m 6 #[.val (.ref a1), .val (.ref a2), .val (.int p3), .val (.int p4)] [(.int p3), (.ref a2), (.int p4), (.int p3), (.ref a2), (.ref a1)])) ?_ (fun t k => XS.iloadN X0.here hx rfl (hb hby d16_5) rfl k)
  refine Gen.on (b := s₁.setTop (mkF m 7 #[.val (.ref a1), .val (.ref a2), .val (.int p3), .val (.int p4)] [(.int p4), (.int p3), (.ref a2), (.int p4), (.int p3), (.ref a2), (.ref a1)])) ?_ (fun t k => XS.iloadN X0.here hx rfl (hb hby d16_6) rfl k)
  obtain ⟨_, _, ⟨T1, L1, k1, n1⟩, -, X1, ⟨Lc1, hQ1, l1, y1, z1⟩, st1⟩ := Jvm.LawKit.callS X0 hx (y := (⟨"java/lang/String", "rangeCheck", "([CII)Ljava/lang/Void;"⟩ : MethodName)) hown (mvT hZ (hw _ (List.mem_of_getElem? (i := 109) rfl))) (mvT hZ (hw _ (List.mem_of_getElem? (i := 110) rfl))) (mvT hZ (hw _ (List.mem_of_getElem? (i := 3) rfl))) (mvT hZ (hw _ (List.mem_of_getElem? (i := 111) rfl))) (by decide) (backOf (W := 4) (rm17 l Z a0 hw [] a2 p3 p4 zc y w0 f0 h0 n0 Z0 P3 P4 hc0 hc1 (sts)) hZ (hw _ (List.mem_of_getElem? (i := 111) rfl)) (hw _ (List.mem_of_getElem? (i := 3) rfl)) (by decide) (by decide)) (g := (mkF m 7 #[.val (.ref a1), .val (.ref a2), .val (.int p3), .val (.int p4)] [(.int p4), (.int p3), (.ref a2), (.int p4), (.int p3), (.ref a2), (.ref a1)])) rfl (by rw [hml]; rfl) (argsL := [(.ref a2), (.int p3), (.int p4)]) (rest := [(.int p4), (.int p3), (.ref a2), (.ref a1)]) (lenOf pd_16_0 rfl) rfl (by show 2 * 0 + _ ≤ _; exact Nat.le_of_eq rfl) (hb hby d16_7) (fun _ _ => ⟨rfl, e0, (by decide : 0 + 0 ≤ _), (by decide : 0 + 0 ≤ _)⟩)
  dsimp only [Pt.U, Pt.locs, Pt.cells, Pt.slots] at X1 l1 y1 z1 st1 hQ1
  subst l1 y1 z1
  obtain ⟨rfl, N1q, e1⟩ := hQ1
  have N1 := Fr.app N0 N1q
  refine Gen.on (b := T1.setTop (mkF m 10 #[.val (.ref a1), .val (.ref a2), .val (.int p3), .val (.int p4)] [.null, (.int p4), (.int p3), (.ref a2), (.ref a1)])) ?_ (fun t k => st1 t k)
  obtain ⟨_, _, ⟨T2, L2, k2, n2⟩, -, X2, ⟨Lc2, hQ2, l2, y2, z2⟩, st2⟩ := X1.specialBack hx (y := (⟨"java/lang/String", "<init>", "([CIILjava/lang/Void;)V"⟩ : MethodName)) rfl hown (mvT hZ (hw _ (List.mem_of_getElem? (i := 7) rfl))) (mvT hZ (hw _ (List.mem_of_getElem? (i := 8) rfl))) (mvT hZ (hw _ (List.mem_of_getElem? (i := 10) rfl))) (by decide) (backOf (W := 0) (rm2 l Z a0 hw [] a1 a2 p3 p4 u1 u2 zc y w0 f0 h0 n0 Z0 P0 P1 P2 P3 P4 g_a1 (sts) (hcn) (hcap1) (hin) (hne0)) hZ (hw _ (List.mem_of_getElem? (i := 10) rfl)) (hw _ (List.mem_of_getElem? (i := 3) rfl)) (by decide) (by decide)) (g := (mkF m 10 #[.val (.ref a1), .val (.ref a2), .val (.int p3), .val (.int p4)] [.null, (.int p4), (.int p3), (.ref a2), (.ref a1)])) rfl (by rw [hml]; rfl) (Steps.refl _) (a := a1) (argsL := [(.ref a2), (.int p3), (.int p4), .null]) (rest := []) (lenOf pd_16_1 rfl) rfl (by show 2 * 0 + _ ≤ _; exact Nat.le_of_eq rfl) (hb hby d16_10) (fun _ _ => ⟨rfl, e1, (by decide : 0 + 1 ≤ _), (by decide : 0 + 2 ≤ _)⟩)
  dsimp only [Pt.U, Pt.locs, Pt.cells, Pt.slots] at X2 l2 y2 z2 st2 hQ2
  subst l2 y2 z2
  obtain ⟨rfl, N2q, Kc2, hf2_0, hf2_1⟩ := hQ2
  have N2 := Fr.app N1 N2q
  have Z2 : n0 ≤ T2.heap.size := Nat.le_trans Z0 Kc2.1
  have K2 : Keep h0 T2.heap [a1] := K0.trans Kc2 (allS (Or.inl (List.mem_of_getElem? (i := 0) rfl)) all0)
  refine Gen.on (b := T2.setTop (mkF m 13 #[.val (.ref a1), .val (.ref a2), .val (.int p3), .val (.int p4)] [])) ?_ (fun t k => st2.trans k)
  refine own_ret0 X2 hx Bd.returns (hb hby d16_13) (by decide) (by decide) ?_
  show Q16 Z a1 a2 p3 p4 u1 u2 zc y w0 f0 h0 n0 _ T2.heap _
  exact ⟨rfl, N2, K2, hf2_0, hf2_1⟩

theorem d16z_0 : decode jdk_42_method_4_code 0 = .ok (.aload_n 0, 1) := by decide +kernel
theorem d16z_1 : decode jdk_42_method_4_code 1 = .ok (.aload_n 1, 1) := by decide +kernel
theorem d16z_2 : decode jdk_42_method_4_code 2 = .ok (.iload_n 2, 1) := by decide +kernel
theorem d16z_3 : decode jdk_42_method_4_code 3 = .ok (.iload_n 3, 1) := by decide +kernel
theorem d16z_4 : decode jdk_42_method_4_code 4 = .ok (.aload_n 1, 1) := by decide +kernel
theorem d16z_5 : decode jdk_42_method_4_code 5 = .ok (.iload_n 2, 1) := by decide +kernel
theorem d16z_6 : decode jdk_42_method_4_code 6 = .ok (.iload_n 3, 1) := by decide +kernel
theorem d16z_7 : decode jdk_42_method_4_code 7 = .ok (.invokestatic 30, 3) := by decide +kernel
theorem d16z_10 : decode jdk_42_method_4_code 10 = .ok (.invokespecial 27, 3) := by decide +kernel
theorem d16z_13 : decode jdk_42_method_4_code 13 = .ok (.return_, 1) := by decide +kernel
theorem pn_16z : plainName "java/lang/String" = true := by first | (simp [plainName, overriddenIn]; done) | decide +kernel
theorem pd_16z_0 : parseMethodDescriptor "([CII)Ljava/lang/Void;" = some ⟨[(.array .char), .int, .int], some (.object "java/lang/Void")⟩ := by decide +kernel
theorem pd_16z_1 : parseMethodDescriptor "([CIILjava/lang/Void;)V" = some ⟨[(.array .char), .int, .int, (.object "java/lang/Void")], none⟩ := by decide +kernel
theorem ef_16z (m : MethodId) (x0 : Addr) (x1 : Addr) (x2 : Int32) (x3 : Int32) : entryFrame m #[(.ref x0), (.ref x1), (.int x2), (.int x3)] 4 = mkF m 0 #[.val (.ref x0), .val (.ref x1), .val (.int x2), .val (.int x3)] [] := by first | (simp [entryFrame, mkF, argsToLocals, Value.category]; done) | rfl
def Q16z (Z : State) (a1 : Addr) (a2 : Addr) (p3 : Int32) (u2 : Value) (zc : Int32) (y : Int32 → Int32) (w0 : Int32) (f0 : Value) (h0 : Heap) (n0 : Nat) (v : Option Value) (h : Heap) (L : List Loc) : Prop := v = none ∧ Fr n0 L ∧ Keep h0 h [a1] ∧ Exa Z h a1 "java/lang/String" ∧ Lat Z h a1 (0 : Int32) (fun j => y (p3 + j))
set_option maxRecDepth 65536 in
set_option maxHeartbeats 40000000 in
theorem rm16z (l : Launch) (Z : State) (a0 : Array Value) (hw : ∀ d ∈ tables_1, d.before a0 Z = true) (wds : List Jvm.Cond) (a1 : Addr) (a2 : Addr) (p3 : Int32) (u2 : Value) (zc : Int32) (y : Int32 → Int32) (w0 : Int32) (f0 : Value) (h0 : Heap) (n0 : Nat) (Z0 : n0 ≤ h0.size) (P0 : Exa Z h0 a1 "java/lang/String") (P1 : Fld Z h0 a1 "java/lang/String" "value" "[B" .null) (P2 : Fld Z h0 a1 "java/lang/String" "coder" "B" u2) (P3 : Afn Z h0 a2 .char zc y) (P4 : Old Z n0 h0) (g_a1 : n0 ≤ a1) (hc0 : ¬ (((zc ||| p3) ||| (0 : Int32)) < (0 : Int32))) (hc1 : ¬ ((zc - p3) < (0 : Int32))) (sts : Sts Z w0 f0) :
    MetFree l (⟨"java/lang/String", "<init>", "([CII)V"⟩ : MethodName) (head1 (Jvm.Cond.code (⟨"java/lang/String", "<init>", "([CII)V"⟩ : MethodName) jdk_42_method_4_code 4 none :: wds) ({ frames := 3, cells := 4, slots := 8, locals := 47 } : Room)) (fun a U => a = #[(.ref a1), (.ref a2), (.int p3), (.int (0 : Int32))] ∧ Z.Warmed39 U.vm ∧ U.heap = h0 ∧ CHv Z consts_1 U.vm h0) (fun _ _ _ _ _ => True) (fun _ U o U' => ∃ v L, o = .returned v ∧ Q16z Z a1 a2 p3 u2 zc y w0 f0 h0 n0 v U'.heap L ∧ CHr Z consts_1 U.vm U.heap U'.vm U'.heap ∧ ReturnedEndW U o U' L ({ frames := 3, cells := 4, slots := 8, locals := 47 } : Room).cells ({ frames := 3, cells := 4, slots := 8, locals := 47 } : Room).slots) := by
  refine MetFree.of_bodySF (plainFor_of_name pn_16z) hisR ?_
  intro p e s m args below meth c s₁ Bd hml0 hP hK
  obtain ⟨rfl, hZ, hh, CHs⟩ := hP
  have hx := Bd.exec
  have hby := Bd.bytes
  have hml : c.maxLocals = 4 := hml0
  have hown : s.vm.findClass "java/lang/String" = some m.cls := findClass_of_methodNamed Bd.named
  have hnm := (name_of_methodNamed Bd.named Bd.method).1
  have hZ : Z.Warmed39 (s.setVm s.vm).vm := hZ
  have hown : (s.setVm s.vm).vm.findClass "java/lang/String" = some m.cls := hown
  have X0 : Stand p l e ({ frames := 3, cells := 4, slots := 8, locals := 47 } : Room) (s.setVm s.vm) m #[(.ref a1), (.ref a2), (.int p3), (.int (0 : Int32))] below meth c s₁ [] 0 0 := Stand.of_body Bd
  have e0 : s₁.heap = h0 := by rw [← hh, Bd.state]; rfl
  have N0 := Fr.nil n0
  have hEL : EW Z a0 consts_1 := own_hEL hw
  have wS := own_wS hw
  have hS0 : s.Since s.vm h0.size := (State.WarmedH.refl s).since _
  have hk0 : h0.size ≤ h0.size := Nat.le_refl _
  have CH0 : CHr Z consts_1 s.vm h0 s.vm h0 := CHr.refl CHs
  refine ownS_start (Z := Z) (EL := consts_1) (Q := Q16z Z a1 a2 p3 u2 zc y w0 f0 h0 n0) (C := ({ frames := 3, cells := 4, slots := 8, locals := 47 } : Room).cells) (S := ({ frames := 3, cells := 4, slots := 8, locals := 47 } : Room).slots) ?_
  rw [ef_16z m a1 a2 p3 (0 : Int32)]
  have K0 : Keep h0 h0 [a1] := Keep.refl h0 [a1]
  obtain ⟨SC, hw0, SF, hf0⟩ := id sts
  refine Gen.on (b := s₁.setTop (mkF m 1 #[.val (.ref a1), .val (.ref a2), .val (.int p3), .val (.int (0 : Int32))] [(.ref a1)])) ?_ (fun t k => XS.aloadN X0.here hx rfl (hb hby d16z_0) rfl rfl k)
  refine Gen.on (b := s₁.setTop (mkF m 2 #[.val (.ref a1), .val (.ref a2), .val (.int p3), .val (.int (0 : Int32))] [(.ref a2), (.ref a1)])) ?_ (fun t k => XS.aloadN X0.here hx rfl (hb hby d16z_1) rfl rfl k)
  refine Gen.on (b := s₁.setTop (mkF m 3 #[.val (.ref a1), .val (.ref a2), .val (.int p3), .val (.int (0 : Int32))] [(.int p3), (.ref a2), (.ref a1)])) ?_ (fun t k => XS.iloadN X0.here hx rfl (hb hby d16z_2) rfl k)
  refine Gen.on (b := s₁.setTop (mkF m 4 #[.val (.ref a1), .val (.ref a2), .val (.int p3), .val (.int (0 : Int32))] [(.int (0 : Int32)), (.int p3), (.ref a2), (.ref a1)])) ?_ (fun t k => XS.iloadN X0.here hx rfl (hb hby d16z_3) rfl k)
  refine Gen.on (b := s₁.setTop (mkF m 5 #[.val (.ref a1), .val (.ref a2), .val (.int p3), .val (.int (0 : Int32))] [(.ref a2), (.int (0 : Int32)), (.int p3), (.ref a2), (.ref a1)])) ?_ (fun t k => XS.aloadN X0.here hx rfl (hb hby d16z_4) rfl rfl k)
  refine Gen.on (b := s₁.setTop (mkF m 6 #[.val (.ref a1), .val (.ref a2), .val (.int p3), .val (.int (0 : Int32))] [(.int p3), (.ref a2), (.int (0 : Int32)), (.int p3), (.ref a2), (.ref a1)])) ?_ (fun t k => XS.iloadN X0.here hx rfl (hb hby d16z_5) rfl k)
  refine Gen.on (b := s₁.setTop (mkF m 7 #[.val (.ref a1), .val (.ref a2), .val (.int p3), .val (.int (0 : Int32))] [(.int (0 : Int32)), (.int p3), (.ref a2), (.int (0 : Int32)), (.int p3), (.ref a2), (.ref a1)])) ?_ (fun t k => XS.iloadN X0.here hx rfl (hb hby d16z_6) rfl k)
  obtain ⟨_, _, ⟨T1, L1, k1, n1⟩, -, X1, ⟨Lc1, hQ1, l1, y1, z1⟩, st1⟩ := Jvm.LawKit.callS X0 hx (y := (⟨"java/lang/String", "rangeCheck", "([CII)Ljava/lang/Void;"⟩ : MethodName)) hown (mvT hZ (hw _ (List.mem_of_getElem? (i := 109) rfl))) (mvT hZ (hw _ (List.mem_of_getElem? (i := 110) rfl))) (mvT hZ (hw _ (List.mem_of_getElem? (i := 3) rfl))) (mvT hZ (hw _ (List.mem_of_getElem? (i := 111) rfl))) (by decide) (backOf (W := 4) (rm17 l Z a0 hw [] a2 p3 (0 : Int32) zc y w0 f0 h0 n0 Z0 P3 P4 hc0 hc1 (sts)) hZ (hw _ (List.mem_of_getElem? (i := 111) rfl)) (hw _ (List.mem_of_getElem? (i := 3) rfl)) (by decide) (by decide)) (g := (mkF m 7 #[.val (.ref a1), .val (.ref a2), .val (.int p3), .val (.int (0 : Int32))] [(.int (0 : Int32)), (.int p3), (.ref a2), (.int (0 : Int32)), (.int p3), (.ref a2), (.ref a1)])) rfl (by rw [hml]; rfl) (argsL := [(.ref a2), (.int p3), (.int (0 : Int32))]) (rest := [(.int (0 : Int32)), (.int p3), (.ref a2), (.ref a1)]) (lenOf pd_16z_0 rfl) rfl (by show 2 * 0 + _ ≤ _; exact Nat.le_of_eq rfl) (hb hby d16z_7) (fun _ _ => ⟨rfl, e0, (by decide : 0 + 0 ≤ _), (by decide : 0 + 0 ≤ _)⟩)
  dsimp only [Pt.U, Pt.locs, Pt.cells, Pt.slots] at X1 l1 y1 z1 st1 hQ1
  subst l1 y1 z1
  obtain ⟨rfl, N1q, e1⟩ := hQ1
  have N1 := Fr.app N0 N1q
  refine Gen.on (b := T1.setTop (mkF m 10 #[.val (.ref a1), .val (.ref a2), .val (.int p3), .val (.int (0 : Int32))] [.null, (.int (0 : Int32)), (.int p3), (.ref a2), (.ref a1)])) ?_ (fun t k => st1 t k)
  obtain ⟨_, _, ⟨T2, L2, k2, n2⟩, -, X2, hSc2, gr2, ⟨Lc2, hQ2, l2, y2, z2, CHc2⟩, st2⟩ := X1.specialBackS hx (y := (⟨"java/lang/String", "<init>", "([CIILjava/lang/Void;)V"⟩ : MethodName)) rfl hown (mvT hZ (hw _ (List.mem_of_getElem? (i := 7) rfl))) (mvT hZ (hw _ (List.mem_of_getElem? (i := 8) rfl))) (mvT hZ (hw _ (List.mem_of_getElem? (i := 10) rfl))) (by decide) (backOfSH (W := 0) (rm2z l Z a0 hw [] a1 a2 p3 u2 (fun j => y (p3 + j)) h0 n0 Z0 P0 P1 P2 g_a1) hZ (hw _ (List.mem_of_getElem? (i := 10) rfl)) (hw _ (List.mem_of_getElem? (i := 3) rfl)) (by decide) (by decide) hEL CH0.1) (g := (mkF m 10 #[.val (.ref a1), .val (.ref a2), .val (.int p3), .val (.int (0 : Int32))] [.null, (.int (0 : Int32)), (.int p3), (.ref a2), (.ref a1)])) rfl (by rw [hml]; rfl) (Steps.refl _) (a := a1) (argsL := [(.ref a2), (.int p3), (.int (0 : Int32)), .null]) (rest := []) (lenOf pd_16z_1 rfl) rfl (by show 2 * 0 + _ ≤ _; exact Nat.le_of_eq rfl) (hb hby d16z_10) (fun _ _ => ⟨rfl, e1, (by decide : 0 + 4 ≤ _), (by decide : 0 + 8 ≤ _)⟩)
  dsimp only [Pt.U, Pt.locs, Pt.cells, Pt.slots] at X2 l2 y2 z2 st2 hQ2 hSc2 gr2 CHc2
  subst l2 y2 z2
  obtain ⟨X2, hS2, hZ, hown⟩ := rebS hS0 hk0 X2 hSc2 (Nat.le_trans (Nat.le_of_eq (congrArg Array.size e1).symm) gr2) hZ hown
  have CH2 := CHr.trans CH0 CHc2
  obtain ⟨rfl, N2q, Kc2, hf2_0, hf2_1⟩ := hQ2
  have N2 := Fr.app N1 N2q
  have Z2 : n0 ≤ T2.heap.size := Nat.le_trans Z0 Kc2.1
  have K2 : Keep h0 T2.heap [a1] := K0.trans Kc2 (allS (Or.inl (List.mem_of_getElem? (i := 0) rfl)) all0)
  refine Gen.on (b := T2.setTop (mkF m 13 #[.val (.ref a1), .val (.ref a2), .val (.int p3), .val (.int (0 : Int32))] [])) ?_ (fun t k => st2.trans k)
  refine ownS_ret0 X2 hh hS2 rfl (Nat.le_refl T2.heap.size) hZ hEL CH2 hx Bd.returns (hb hby d16z_13) (by decide) (by decide) ?_
  show Q16z Z a1 a2 p3 u2 zc y w0 f0 h0 n0 _ T2.heap _
  exact ⟨rfl, N2, K2, hf2_0, hf2_1⟩

theorem own_shr0 (z : Int32) : (z >>> ((0 : Int32) &&& 31)) = z := by
  apply Int32.toInt_inj.mp
  rw [Jvm.Kit.i32_shr z _ (k := 0) (by decide +kernel)]; omega


theorem d21_0 : decode jdk_42_method_152_code 0 = .ok (.getstatic 38, 3) := by decide +kernel
theorem d21_3 : decode jdk_42_method_152_code 3 = .ok (.ifCond .eq 10, 3) := by decide +kernel
theorem d21_6 : decode jdk_42_method_152_code 6 = .ok (.aload_n 0, 1) := by decide +kernel
theorem d21_7 : decode jdk_42_method_152_code 7 = .ok (.getfield 15, 3) := by decide +kernel
theorem d21_10 : decode jdk_42_method_152_code 10 = .ok (.goto 4, 3) := by decide +kernel
theorem d21_14 : decode jdk_42_method_152_code 14 = .ok (.ireturn, 1) := by decide +kernel
theorem pn_21 : plainName "java/lang/String" = true := by first | (simp [plainName, overriddenIn]; done) | decide +kernel
theorem ef_21 (m : MethodId) (x0 : Addr) : entryFrame m #[(.ref x0)] 1 = mkF m 0 #[.val (.ref x0)] [] := by first | (simp [entryFrame, mkF, argsToLocals, Value.category]; done) | rfl
def Q21 (Z : State) (a1 : Addr) (w0 : Int32) (f0 : Value) (h0 : Heap) (n0 : Nat) (v : Option Value) (h : Heap) (L : List Loc) : Prop := v = some (.int (0 : Int32)) ∧ Fr n0 L ∧ h = h0
set_option maxRecDepth 65536 in
set_option maxHeartbeats 40000000 in
theorem rm21 (l : Launch) (Z : State) (a0 : Array Value) (hw : ∀ d ∈ tables_1, d.before a0 Z = true) (wds : List Jvm.Cond) (a1 : Addr) (w0 : Int32) (f0 : Value) (h0 : Heap) (n0 : Nat) (Z0 : n0 ≤ h0.size) (P0 : Exa Z h0 a1 "java/lang/String") (P1 : Fld Z h0 a1 "java/lang/String" "coder" "B" (.int (0 : Int32))) (P2 : Old Z n0 h0) (sts : Sts Z w0 f0) :
    MetFree l (⟨"java/lang/String", "coder", "()B"⟩ : MethodName) (head1 (Jvm.Cond.code (⟨"java/lang/String", "coder", "()B"⟩ : MethodName) jdk_42_method_152_code 1 (some .byte) :: wds) ({ frames := 0, cells := 0, slots := 0, locals := 0 } : Room)) (fun a U => a = #[(.ref a1)] ∧ Z.Warmed39 U.vm ∧ U.heap = h0) (fun _ _ _ _ _ => True) (fun _ U o U' => ∃ v L, o = .returned v ∧ Q21 Z a1 w0 f0 h0 n0 v U'.heap L ∧ FrameEnd U o U' L ({ frames := 0, cells := 0, slots := 0, locals := 0 } : Room).cells ({ frames := 0, cells := 0, slots := 0, locals := 0 } : Room).slots) := by
  refine MetFree.of_bodySF (plainFor_of_name pn_21) hisR ?_
  intro p e s m args below meth c s₁ Bd hml0 hP hK
  obtain ⟨rfl, hZ, hh⟩ := hP
  have hx := Bd.exec
  have hby := Bd.bytes
  have hml : c.maxLocals = 1 := hml0
  have hown : s.vm.findClass "java/lang/String" = some m.cls := findClass_of_methodNamed Bd.named
  have hnm := (name_of_methodNamed Bd.named Bd.method).1
  have X0 : Stand p l e ({ frames := 0, cells := 0, slots := 0, locals := 0 } : Room) s m #[(.ref a1)] below meth c s₁ [] 0 0 := Stand.of_body Bd
  have e0 : s₁.heap = h0 := by rw [← hh, Bd.state]; rfl
  have N0 := Fr.nil n0
  refine own_start (Q := Q21 Z a1 w0 f0 h0 n0) (C := ({ frames := 0, cells := 0, slots := 0, locals := 0 } : Room).cells) (S := ({ frames := 0, cells := 0, slots := 0, locals := 0 } : Room).slots) ?_
  rw [ef_21 m a1]
  obtain ⟨SC, hw0, SF, hf0⟩ := id sts
  have fa2 := Sta.ext P2.2 SC
  obtain ⟨T1, X1, e1, st1⟩ := getS2 X0 hx hZ hown (host := "") (Or.inl (hw _ (List.mem_of_getElem? (i := 14) rfl))) Via.refl e0 fa2 (g := (mkF m 0 #[.val (.ref a1)] [])) rfl (hb hby d21_0)
  refine Gen.on (b := T1.setTop (mkF m 3 #[.val (.ref a1)] [(.int w0)])) ?_ (fun t k => st1 t k)
  refine Gen.on (b := T1.setTop (mkF m 6 #[.val (.ref a1)] [])) ?_ (fun t k => XS.ifNo X1.here hx rfl (hb hby d21_3) rfl ((if0 _ _).trans (feq hw0).1) k)
  refine Gen.on (b := T1.setTop (mkF m 7 #[.val (.ref a1)] [(.ref a1)])) ?_ (fun t k => XS.aloadN X1.here hx rfl (hb hby d21_6) rfl rfl k)
  obtain ⟨T3, X3, e3, st3⟩ := getF X1 hx hZ hown (host := "") (Or.inl (hw _ (List.mem_of_getElem? (i := 26) rfl))) Via.refl e1 P1 (g := (mkF m 7 #[.val (.ref a1)] [(.ref a1)])) rfl rfl (hb hby d21_7)
  refine Gen.on (b := T3.setTop (mkF m 10 #[.val (.ref a1)] [(.int (0 : Int32))])) ?_ (fun t k => st3 t k)
  refine Gen.on (b := T3.setTop (mkF m 14 #[.val (.ref a1)] [(.int (0 : Int32))])) ?_ (fun t k => XS.goto X3.here hx rfl (pc0 := 10) (pc' := 14) rfl (hb hby d21_10) (by decide) (by decide) k)
  refine own_retN (t := .byte) X3 hx Bd.returns (by simp) (by decide) (hb hby d21_14) (by decide) (by decide) ?_
  exact ⟨rfl, N0, e3⟩

theorem d20_0 : decode jdk_42_method_54_code 0 = .ok (.aload_n 0, 1) := by decide +kernel
theorem d20_1 : decode jdk_42_method_54_code 1 = .ok (.getfield 9, 3) := by decide +kernel
theorem d20_4 : decode jdk_42_method_54_code 4 = .ok (.arraylength, 1) := by decide +kernel
theorem d20_5 : decode jdk_42_method_54_code 5 = .ok (.aload_n 0, 1) := by decide +kernel
theorem d20_6 : decode jdk_42_method_54_code 6 = .ok (.invokevirtual 335, 3) := by decide +kernel
theorem d20_9 : decode jdk_42_method_54_code 9 = .ok (.ishr, 1) := by decide +kernel
theorem d20_10 : decode jdk_42_method_54_code 10 = .ok (.ireturn, 1) := by decide +kernel
theorem pn_20 : plainName "java/lang/String" = true := by first | (simp [plainName, overriddenIn]; done) | decide +kernel
theorem pd_20_0 : parseMethodDescriptor "()B" = some ⟨[], some .byte⟩ := by decide +kernel
theorem ef_20 (m : MethodId) (x0 : Addr) : entryFrame m #[(.ref x0)] 1 = mkF m 0 #[.val (.ref x0)] [] := by first | (simp [entryFrame, mkF, argsToLocals, Value.category]; done) | rfl
def Q20 (Z : State) (a1 : Addr) (a2 : Addr) (zb : Int32) (yb : Int32 → Int32) (w0 : Int32) (f0 : Value) (h0 : Heap) (n0 : Nat) (v : Option Value) (h : Heap) (L : List Loc) : Prop := v = some (.int zb) ∧ Fr n0 L ∧ h = h0
set_option maxRecDepth 65536 in
set_option maxHeartbeats 40000000 in
theorem rm20 (l : Launch) (Z : State) (a0 : Array Value) (hw : ∀ d ∈ tables_1, d.before a0 Z = true) (wds : List Jvm.Cond) (a1 : Addr) (a2 : Addr) (zb : Int32) (yb : Int32 → Int32) (w0 : Int32) (f0 : Value) (h0 : Heap) (n0 : Nat) (Z0 : n0 ≤ h0.size) (P0 : Exa Z h0 a1 "java/lang/String") (P1 : Fld Z h0 a1 "java/lang/String" "value" "[B" (.ref a2)) (P2 : Fld Z h0 a1 "java/lang/String" "coder" "B" (.int (0 : Int32))) (P3 : Afn Z h0 a2 .byte zb yb) (P4 : Old Z n0 h0) (sts : Sts Z w0 f0) :
    MetFree l (⟨"java/lang/String", "length", "()I"⟩ : MethodName) (head1 (Jvm.Cond.code (⟨"java/lang/String", "length", "()I"⟩ : MethodName) jdk_42_method_54_code 1 (some .int) :: wds) ({ frames := 1, cells := 0, slots := 0, locals := 13 } : Room)) (fun a U => a = #[(.ref a1)] ∧ Z.Warmed39 U.vm ∧ U.heap = h0) (fun _ _ _ _ _ => True) (fun _ U o U' => ∃ v L, o = .returned v ∧ Q20 Z a1 a2 zb yb w0 f0 h0 n0 v U'.heap L ∧ FrameEnd U o U' L ({ frames := 1, cells := 0, slots := 0, locals := 13 } : Room).cells ({ frames := 1, cells := 0, slots := 0, locals := 13 } : Room).slots) := by
  refine MetFree.of_bodySF (plainFor_of_name pn_20) hisR ?_
  intro p e s m args below meth c s₁ Bd hml0 hP hK
  obtain ⟨rfl, hZ, hh⟩ := hP
  have hx := Bd.exec
  have hby := Bd.bytes
  have hml : c.maxLocals = 1 := hml0
  have hown : s.vm.findClass "java/lang/String" = some m.cls := findClass_of_methodNamed Bd.named
  have hnm := (name_of_methodNamed Bd.named Bd.method).1
  have X0 : Stand p l e ({ frames := 1, cells := 0, slots := 0, locals := 13 } : Room) s m #[(.ref a1)] below meth c s₁ [] 0 0 := Stand.of_body Bd
  have e0 : s₁.heap = h0 := by rw [← hh, Bd.state]; rfl
  have N0 := Fr.nil n0
  refine own_start (Q := Q20 Z a1 a2 zb yb w0 f0 h0 n0) (C := ({ frames := 1, cells := 0, slots := 0, locals := 13 } : Room).cells) (S := ({ frames := 1, cells := 0, slots := 0, locals := 13 } : Room).slots) ?_
  rw [ef_20 m a1]
  obtain ⟨SC, hw0, SF, hf0⟩ := id sts
  refine Gen.on (b := s₁.setTop (mkF m 1 #[.val (.ref a1)] [(.ref a1)])) ?_ (fun t k => XS.aloadN X0.here hx rfl (hb hby d20_0) rfl rfl k)
  obtain ⟨T1, X1, e1, st1⟩ := getF X0 hx hZ hown (host := "") (Or.inl (hw _ (List.mem_of_getElem? (i := 28) rfl))) Via.refl e0 P1 (g := (mkF m 1 #[.val (.ref a1)] [(.ref a1)])) rfl rfl (hb hby d20_1)
  refine Gen.on (b := T1.setTop (mkF m 4 #[.val (.ref a1)] [(.ref a2)])) ?_ (fun t k => st1 t k)
  obtain ⟨cl2, Ar2, SA2, NA2, HA2⟩ := id P3
  refine Gen.on (b := T1.setTop (mkF m 5 #[.val (.ref a1)] [(.int zb)])) ?_ (fun t k => X1.arraylength hx (by rw [e1]; exact Ar2.1) (State.isArrayOf_alike hZ.alike Ar2.2.1) (g := (mkF m 4 #[.val (.ref a1)] [(.ref a2)])) rfl rfl (hb hby d20_4) t (by rw [len_of SA2 NA2]; exact k))
  refine Gen.on (b := T1.setTop (mkF m 6 #[.val (.ref a1)] [(.ref a1), (.int zb)])) ?_ (fun t k => XS.aloadN X1.here hx rfl (hb hby d20_5) rfl rfl k)
  obtain ⟨cq3, kq3, q3a, q3b, q3c⟩ := isOf hZ e1 P0
  obtain ⟨_, _, ⟨T3, L3, k3, n3⟩, -, X3, ⟨Lc3, hQ3, l3, y3, z3⟩, st3⟩ := X1.virtualBack hx (y := (⟨"java/lang/String", "coder", "()B"⟩ : MethodName)) (z := (⟨"java/lang/String", "coder", "()B"⟩ : MethodName)) hown (mvT hZ (hw _ (List.mem_of_getElem? (i := 128) rfl))) (mvT hZ (hw _ (List.mem_of_getElem? (i := 129) rfl))) (notFace_of_selects (args := #[]) (mvT hZ (hw _ (List.mem_of_getElem? (i := 131) rfl)))) (mvT hZ (hw _ (List.mem_of_getElem? (i := 131) rfl))) (mvT hZ (hw _ (List.mem_of_getElem? (i := 130) rfl))) (by decide) (backOf (W := 1) (rm21 l Z a0 hw [] a1 w0 f0 h0 n0 Z0 P0 P2 P4 (sts)) hZ (hw _ (List.mem_of_getElem? (i := 132) rfl)) (hw _ (List.mem_of_getElem? (i := 3) rfl)) (by decide) (by decide)) q3a q3c (g := (mkF m 6 #[.val (.ref a1)] [(.ref a1), (.int zb)])) rfl (by rw [hml]; rfl) (Steps.refl _) (argsL := []) (rest := [(.int zb)]) (lenOf pd_20_0 rfl) rfl (by show 2 * 0 + _ ≤ _; exact Nat.le_of_eq rfl) (hb hby d20_6) (fun _ _ => ⟨rfl, e1, (by decide : 0 + 0 ≤ _), (by decide : 0 + 0 ≤ _)⟩)
  dsimp only [Pt.U, Pt.locs, Pt.cells, Pt.slots] at X3 l3 y3 z3 st3 hQ3
  subst l3 y3 z3
  obtain ⟨rfl, N3q, e3⟩ := hQ3
  have N3 := Fr.app N0 N3q
  refine Gen.on (b := T3.setTop (mkF m 9 #[.val (.ref a1)] [(.int (0 : Int32)), (.int zb)])) ?_ (fun t k => st3.trans k)
  refine Gen.on (b := T3.setTop (mkF m 10 #[.val (.ref a1)] [(.int (zb >>> ((0 : Int32) &&& 31)))])) ?_ (fun t k => XS.ishr X3.here hx rfl (hb hby d20_9) rfl k)
  refine own_retI X3 hx Bd.returns (hb hby d20_10) (by decide) (by decide) ?_
  exact ⟨(by rw [own_shr0]), N3, e3⟩

theorem d23_0 : decode jdk_42_method_154_code 0 = .ok (.getstatic 38, 3) := by decide +kernel
theorem d23_3 : decode jdk_42_method_154_code 3 = .ok (.ifCond .eq 14, 3) := by decide +kernel
theorem d23_6 : decode jdk_42_method_154_code 6 = .ok (.aload_n 0, 1) := by decide +kernel
theorem d23_7 : decode jdk_42_method_154_code 7 = .ok (.getfield 15, 3) := by decide +kernel
theorem d23_10 : decode jdk_42_method_154_code 10 = .ok (.ifCond .ne 7, 3) := by decide +kernel
theorem d23_13 : decode jdk_42_method_154_code 13 = .ok (.iconst 1, 1) := by decide +kernel
theorem d23_14 : decode jdk_42_method_154_code 14 = .ok (.goto 4, 3) := by decide +kernel
theorem d23_18 : decode jdk_42_method_154_code 18 = .ok (.ireturn, 1) := by decide +kernel
theorem pn_23 : plainName "java/lang/String" = true := by first | (simp [plainName, overriddenIn]; done) | decide +kernel
theorem ef_23 (m : MethodId) (x0 : Addr) : entryFrame m #[(.ref x0)] 1 = mkF m 0 #[.val (.ref x0)] [] := by first | (simp [entryFrame, mkF, argsToLocals, Value.category]; done) | rfl
def Q23 (Z : State) (a1 : Addr) (w0 : Int32) (f0 : Value) (h0 : Heap) (n0 : Nat) (v : Option Value) (h : Heap) (L : List Loc) : Prop := v = some (.int (1 : Int32)) ∧ Fr n0 L ∧ h = h0
set_option maxRecDepth 65536 in
set_option maxHeartbeats 40000000 in
theorem rm23 (l : Launch) (Z : State) (a0 : Array Value) (hw : ∀ d ∈ tables_1, d.before a0 Z = true) (wds : List Jvm.Cond) (a1 : Addr) (w0 : Int32) (f0 : Value) (h0 : Heap) (n0 : Nat) (Z0 : n0 ≤ h0.size) (P0 : Exa Z h0 a1 "java/lang/String") (P1 : Fld Z h0 a1 "java/lang/String" "coder" "B" (.int (0 : Int32))) (P2 : Old Z n0 h0) (sts : Sts Z w0 f0) :
    MetFree l (⟨"java/lang/String", "isLatin1", "()Z"⟩ : MethodName) (head1 (Jvm.Cond.code (⟨"java/lang/String", "isLatin1", "()Z"⟩ : MethodName) jdk_42_method_154_code 1 (some .boolean) :: wds) ({ frames := 0, cells := 0, slots := 0, locals := 0 } : Room)) (fun a U => a = #[(.ref a1)] ∧ Z.Warmed39 U.vm ∧ U.heap = h0) (fun _ _ _ _ _ => True) (fun _ U o U' => ∃ v L, o = .returned v ∧ Q23 Z a1 w0 f0 h0 n0 v U'.heap L ∧ FrameEnd U o U' L ({ frames := 0, cells := 0, slots := 0, locals := 0 } : Room).cells ({ frames := 0, cells := 0, slots := 0, locals := 0 } : Room).slots) := by
  refine MetFree.of_bodySF (plainFor_of_name pn_23) hisR ?_
  intro p e s m args below meth c s₁ Bd hml0 hP hK
  obtain ⟨rfl, hZ, hh⟩ := hP
  have hx := Bd.exec
  have hby := Bd.bytes
  have hml : c.maxLocals = 1 := hml0
  have hown : s.vm.findClass "java/lang/String" = some m.cls := findClass_of_methodNamed Bd.named
  have hnm := (name_of_methodNamed Bd.named Bd.method).1
  have X0 : Stand p l e ({ frames := 0, cells := 0, slots := 0, locals := 0 } : Room) s m #[(.ref a1)] below meth c s₁ [] 0 0 := Stand.of_body Bd
  have e0 : s₁.heap = h0 := by rw [← hh, Bd.state]; rfl
  have N0 := Fr.nil n0
  refine own_start (Q := Q23 Z a1 w0 f0 h0 n0) (C := ({ frames := 0, cells := 0, slots := 0, locals := 0 } : Room).cells) (S := ({ frames := 0, cells := 0, slots := 0, locals := 0 } : Room).slots) ?_
  rw [ef_23 m a1]
  obtain ⟨SC, hw0, SF, hf0⟩ := id sts
  have fa2 := Sta.ext P2.2 SC
  obtain ⟨T1, X1, e1, st1⟩ := getS2 X0 hx hZ hown (host := "") (Or.inl (hw _ (List.mem_of_getElem? (i := 14) rfl))) Via.refl e0 fa2 (g := (mkF m 0 #[.val (.ref a1)] [])) rfl (hb hby d23_0)
  refine Gen.on (b := T1.setTop (mkF m 3 #[.val (.ref a1)] [(.int w0)])) ?_ (fun t k => st1 t k)
  refine Gen.on (b := T1.setTop (mkF m 6 #[.val (.ref a1)] [])) ?_ (fun t k => XS.ifNo X1.here hx rfl (hb hby d23_3) rfl ((if0 _ _).trans (feq hw0).1) k)
  refine Gen.on (b := T1.setTop (mkF m 7 #[.val (.ref a1)] [(.ref a1)])) ?_ (fun t k => XS.aloadN X1.here hx rfl (hb hby d23_6) rfl rfl k)
  obtain ⟨T3, X3, e3, st3⟩ := getF X1 hx hZ hown (host := "") (Or.inl (hw _ (List.mem_of_getElem? (i := 26) rfl))) Via.refl e1 P1 (g := (mkF m 7 #[.val (.ref a1)] [(.ref a1)])) rfl rfl (hb hby d23_7)
  refine Gen.on (b := T3.setTop (mkF m 10 #[.val (.ref a1)] [(.int (0 : Int32))])) ?_ (fun t k => st3 t k)
  refine Gen.on (b := T3.setTop (mkF m 13 #[.val (.ref a1)] [])) ?_ (fun t k => XS.ifNo X3.here hx rfl (hb hby d23_10) rfl ((if0 _ _).trans (teq (by decide : (0 : Int32) = (0 : Int32))).2) k)
  refine Gen.on (b := T3.setTop (mkF m 14 #[.val (.ref a1)] [(.int (1 : Int32))])) ?_ (fun t k => XS.iconst X3.here hx rfl (hb hby d23_13) k)
  refine Gen.on (b := T3.setTop (mkF m 18 #[.val (.ref a1)] [(.int (1 : Int32))])) ?_ (fun t k => XS.goto X3.here hx rfl (pc0 := 14) (pc' := 18) rfl (hb hby d23_14) (by decide) (by decide) k)
  refine own_retN (t := .boolean) X3 hx Bd.returns (by simp) (by decide) (hb hby d23_18) (by decide) (by decide) ?_
  exact ⟨rfl, N0, e3⟩

theorem d26_0 : decode jdk_41_method_11_code 0 = .ok (.iload_n 0, 1) := by decide +kernel
theorem d26_1 : decode jdk_41_method_11_code 1 = .ok (.ifCond .lt 8, 3) := by decide +kernel
theorem d26_4 : decode jdk_41_method_11_code 4 = .ok (.iload_n 0, 1) := by decide +kernel
theorem d26_5 : decode jdk_41_method_11_code 5 = .ok (.iload_n 1, 1) := by decide +kernel
theorem d26_6 : decode jdk_41_method_11_code 6 = .ok (.if_icmp .lt 10, 3) := by decide +kernel
theorem d26_16 : decode jdk_41_method_11_code 16 = .ok (.iload_n 0, 1) := by decide +kernel
theorem d26_17 : decode jdk_41_method_11_code 17 = .ok (.ireturn, 1) := by decide +kernel
theorem pn_26 : plainName "jdk/internal/util/Preconditions" = true := by first | (simp [plainName, overriddenIn]; done) | decide +kernel
theorem ef_26 (m : MethodId) (x0 : Int32) (x1 : Int32) (x2 : Value) (hx2 : x2.isRef = true) : entryFrame m #[(.int x0), (.int x1), x2] 3 = mkF m 0 #[.val (.int x0), .val (.int x1), .val x2] [] := by rcases ref_cases hx2 with rfl | ⟨_, rfl⟩ <;> first | (simp [entryFrame, mkF, argsToLocals, Value.category]; done) | rfl
def Q26 (Z : State) (p1 : Int32) (p2 : Int32) (f0 : Value) (h0 : Heap) (n0 : Nat) (v : Option Value) (h : Heap) (L : List Loc) : Prop := v = some (.int p1) ∧ Fr n0 L ∧ h = h0
set_option maxRecDepth 65536 in
set_option maxHeartbeats 40000000 in
theorem rm26 (l : Launch) (Z : State) (a0 : Array Value) (hw : ∀ d ∈ tables_1, d.before a0 Z = true) (wds : List Jvm.Cond) (p1 : Int32) (p2 : Int32) (f0 : Value) (h0 : Heap) (n0 : Nat) (Z0 : n0 ≤ h0.size) (hc0 : ¬ (p1 < (0 : Int32))) (hc1 : p1 < p2) (hf0 : f0.isRef = true) :
    MetFree l (⟨"jdk/internal/util/Preconditions", "checkIndex", "(IILjava/util/function/BiFunction;)I"⟩ : MethodName) (head1 (Jvm.Cond.code (⟨"jdk/internal/util/Preconditions", "checkIndex", "(IILjava/util/function/BiFunction;)I"⟩ : MethodName) jdk_41_method_11_code 3 (some .int) :: wds) ({ frames := 0, cells := 0, slots := 0, locals := 0 } : Room)) (fun a U => a = #[(.int p1), (.int p2), f0] ∧ Z.Warmed39 U.vm ∧ U.heap = h0) (fun _ _ _ _ _ => True) (fun _ U o U' => ∃ v L, o = .returned v ∧ Q26 Z p1 p2 f0 h0 n0 v U'.heap L ∧ FrameEnd U o U' L ({ frames := 0, cells := 0, slots := 0, locals := 0 } : Room).cells ({ frames := 0, cells := 0, slots := 0, locals := 0 } : Room).slots) := by
  refine MetFree.of_bodySF (plainFor_of_name pn_26) hisR ?_
  intro p e s m args below meth c s₁ Bd hml0 hP hK
  obtain ⟨rfl, hZ, hh⟩ := hP
  have hx := Bd.exec
  have hby := Bd.bytes
  have hml : c.maxLocals = 3 := hml0
  have hown : s.vm.findClass "jdk/internal/util/Preconditions" = some m.cls := findClass_of_methodNamed Bd.named
  have hnm := (name_of_methodNamed Bd.named Bd.method).1
  have X0 : Stand p l e ({ frames := 0, cells := 0, slots := 0, locals := 0 } : Room) s m #[(.int p1), (.int p2), f0] below meth c s₁ [] 0 0 := Stand.of_body Bd
  have e0 : s₁.heap = h0 := by rw [← hh, Bd.state]; rfl
  have N0 := Fr.nil n0
  refine own_start (Q := Q26 Z p1 p2 f0 h0 n0) (C := ({ frames := 0, cells := 0, slots := 0, locals := 0 } : Room).cells) (S := ({ frames := 0, cells := 0, slots := 0, locals := 0 } : Room).slots) ?_
  rw [ef_26 m p1 p2 f0 hf0]
  refine Gen.on (b := s₁.setTop (mkF m 1 #[.val (.int p1), .val (.int p2), .val f0] [(.int p1)])) ?_ (fun t k => XS.iloadN X0.here hx rfl (hb hby d26_0) rfl k)
  refine Gen.on (b := s₁.setTop (mkF m 4 #[.val (.int p1), .val (.int p2), .val f0] [])) ?_ (fun t k => XS.ifNo X0.here hx rfl (hb hby d26_1) rfl ((if0 _ _).trans (flt hc0).1) k)
  refine Gen.on (b := s₁.setTop (mkF m 5 #[.val (.int p1), .val (.int p2), .val f0] [(.int p1)])) ?_ (fun t k => XS.iloadN X0.here hx rfl (hb hby d26_4) rfl k)
  refine Gen.on (b := s₁.setTop (mkF m 6 #[.val (.int p1), .val (.int p2), .val f0] [(.int p2), (.int p1)])) ?_ (fun t k => XS.iloadN X0.here hx rfl (hb hby d26_5) rfl k)
  refine Gen.on (b := s₁.setTop (mkF m 16 #[.val (.int p1), .val (.int p2), .val f0] [])) ?_ (fun t k => XS.icmpYes X0.here hx rfl (pc0 := 6) (pc' := 16) rfl (hb hby d26_6) rfl (tlt hc1).1 (by decide) (by decide) k)
  refine Gen.on (b := s₁.setTop (mkF m 17 #[.val (.int p1), .val (.int p2), .val f0] [(.int p1)])) ?_ (fun t k => XS.iloadN X0.here hx rfl (hb hby d26_16) rfl k)
  refine own_retI X0 hx Bd.returns (hb hby d26_17) (by decide) (by decide) ?_
  exact ⟨rfl, N0, e0⟩

theorem d25_0 : decode jdk_42_method_155_code 0 = .ok (.iload_n 0, 1) := by decide +kernel
theorem d25_1 : decode jdk_42_method_155_code 1 = .ok (.iload_n 1, 1) := by decide +kernel
theorem d25_2 : decode jdk_42_method_155_code 2 = .ok (.getstatic 1053, 3) := by decide +kernel
theorem d25_5 : decode jdk_42_method_155_code 5 = .ok (.invokestatic 1059, 3) := by decide +kernel
theorem d25_8 : decode jdk_42_method_155_code 8 = .ok (.pop, 1) := by decide +kernel
theorem d25_9 : decode jdk_42_method_155_code 9 = .ok (.return_, 1) := by decide +kernel
theorem pn_25 : plainName "java/lang/String" = true := by first | (simp [plainName, overriddenIn]; done) | decide +kernel
theorem pd_25_0 : parseMethodDescriptor "(IILjava/util/function/BiFunction;)I" = some ⟨[.int, .int, (.object "java/util/function/BiFunction")], some .int⟩ := by decide +kernel
theorem ef_25 (m : MethodId) (x0 : Int32) (x1 : Int32) : entryFrame m #[(.int x0), (.int x1)] 2 = mkF m 0 #[.val (.int x0), .val (.int x1)] [] := by first | (simp [entryFrame, mkF, argsToLocals, Value.category]; done) | rfl
def Q25 (Z : State) (p1 : Int32) (p2 : Int32) (w0 : Int32) (f0 : Value) (h0 : Heap) (n0 : Nat) (v : Option Value) (h : Heap) (L : List Loc) : Prop := v = none ∧ Fr n0 L ∧ h = h0
set_option maxRecDepth 65536 in
set_option maxHeartbeats 40000000 in
theorem rm25 (l : Launch) (Z : State) (a0 : Array Value) (hw : ∀ d ∈ tables_1, d.before a0 Z = true) (wds : List Jvm.Cond) (p1 : Int32) (p2 : Int32) (w0 : Int32) (f0 : Value) (h0 : Heap) (n0 : Nat) (Z0 : n0 ≤ h0.size) (P0 : Old Z n0 h0) (hc0 : ¬ (p1 < (0 : Int32))) (hc1 : p1 < p2) (sts : Sts Z w0 f0) :
    MetFree l (⟨"java/lang/String", "checkIndex", "(II)V"⟩ : MethodName) (head1 (Jvm.Cond.code (⟨"java/lang/String", "checkIndex", "(II)V"⟩ : MethodName) jdk_42_method_155_code 2 none :: wds) ({ frames := 1, cells := 0, slots := 0, locals := 14 } : Room)) (fun a U => a = #[(.int p1), (.int p2)] ∧ Z.Warmed39 U.vm ∧ U.heap = h0) (fun _ _ _ _ _ => True) (fun _ U o U' => ∃ v L, o = .returned v ∧ Q25 Z p1 p2 w0 f0 h0 n0 v U'.heap L ∧ FrameEnd U o U' L ({ frames := 1, cells := 0, slots := 0, locals := 14 } : Room).cells ({ frames := 1, cells := 0, slots := 0, locals := 14 } : Room).slots) := by
  refine MetFree.of_bodySF (plainFor_of_name pn_25) hisR ?_
  intro p e s m args below meth c s₁ Bd hml0 hP hK
  obtain ⟨rfl, hZ, hh⟩ := hP
  have hx := Bd.exec
  have hby := Bd.bytes
  have hml : c.maxLocals = 2 := hml0
  have hown : s.vm.findClass "java/lang/String" = some m.cls := findClass_of_methodNamed Bd.named
  have hnm := (name_of_methodNamed Bd.named Bd.method).1
  have X0 : Stand p l e ({ frames := 1, cells := 0, slots := 0, locals := 14 } : Room) s m #[(.int p1), (.int p2)] below meth c s₁ [] 0 0 := Stand.of_body Bd
  have e0 : s₁.heap = h0 := by rw [← hh, Bd.state]; rfl
  have N0 := Fr.nil n0
  refine own_start (Q := Q25 Z p1 p2 w0 f0 h0 n0) (C := ({ frames := 1, cells := 0, slots := 0, locals := 14 } : Room).cells) (S := ({ frames := 1, cells := 0, slots := 0, locals := 14 } : Room).slots) ?_
  rw [ef_25 m p1 p2]
  obtain ⟨SC, hw0, SF, hf0⟩ := id sts
  refine Gen.on (b := s₁.setTop (mkF m 1 #[.val (.int p1), .val (.int p2)] [(.int p1)])) ?_ (fun t k => XS.iloadN X0.here hx rfl (hb hby d25_0) rfl k)
  refine Gen.on (b := s₁.setTop (mkF m 2 #[.val (.int p1), .val (.int p2)] [(.int p2), (.int p1)])) ?_ (fun t k => XS.iloadN X0.here hx rfl (hb hby d25_1) rfl k)
  have fa2 := Sta.ext P0.2 SF
  obtain ⟨T1, X1, e1, st1⟩ := getS2 X0 hx hZ hown (host := "") (Or.inl (hw _ (List.mem_of_getElem? (i := 115) rfl))) Via.refl e0 fa2 (g := (mkF m 2 #[.val (.int p1), .val (.int p2)] [(.int p2), (.int p1)])) rfl (hb hby d25_2)
  refine Gen.on (b := T1.setTop (mkF m 5 #[.val (.int p1), .val (.int p2)] [f0, (.int p2), (.int p1)])) ?_ (fun t k => st1 t k)
  obtain ⟨_, _, ⟨T3, L3, k3, n3⟩, -, X3, ⟨Lc3, hQ3, l3, y3, z3⟩, st3⟩ := Jvm.LawKit.callS X1 hx (y := (⟨"jdk/internal/util/Preconditions", "checkIndex", "(IILjava/util/function/BiFunction;)I"⟩ : MethodName)) hown (mvT hZ (hw _ (List.mem_of_getElem? (i := 150) rfl))) (mvT hZ (hw _ (List.mem_of_getElem? (i := 151) rfl))) (mvT hZ (hw _ (List.mem_of_getElem? (i := 116) rfl))) (mvT hZ (hw _ (List.mem_of_getElem? (i := 152) rfl))) (by decide) (backOf (W := 0) (rm26 l Z a0 hw [] p1 p2 f0  h0 n0 Z0 hc0 hc1 (hf0)) hZ (hw _ (List.mem_of_getElem? (i := 152) rfl)) (hw _ (List.mem_of_getElem? (i := 116) rfl)) (by decide) (by decide)) (g := (mkF m 5 #[.val (.int p1), .val (.int p2)] [f0, (.int p2), (.int p1)])) rfl (by rw [hml]; rfl) (argsL := [(.int p1), (.int p2), f0]) (rest := []) (lenOf pd_25_0 rfl) rfl (by show 2 * 0 + _ ≤ _; exact Nat.le_of_eq rfl) (hb hby d25_5) (fun _ _ => ⟨rfl, e1, (by decide : 0 + 0 ≤ _), (by decide : 0 + 0 ≤ _)⟩)
  dsimp only [Pt.U, Pt.locs, Pt.cells, Pt.slots] at X3 l3 y3 z3 st3 hQ3
  subst l3 y3 z3
  obtain ⟨rfl, N3q, e3⟩ := hQ3
  have N3 := Fr.app N0 N3q
  refine Gen.on (b := T3.setTop (mkF m 8 #[.val (.int p1), .val (.int p2)] [(.int p1)])) ?_ (fun t k => st3 t k)
  refine Gen.on (b := T3.setTop (mkF m 9 #[.val (.int p1), .val (.int p2)] [])) ?_ (fun t k => XS.pop X3.here hx rfl (hb hby d25_8) rfl rfl k)
  refine own_ret0 X3 hx Bd.returns (hb hby d25_9) (by decide) (by decide) ?_
  exact ⟨rfl, N3, e3⟩

theorem d24_0 : decode jdk_43_method_2_code 0 = .ok (.iload_n 1, 1) := by decide +kernel
theorem d24_1 : decode jdk_43_method_2_code 1 = .ok (.aload_n 0, 1) := by decide +kernel
theorem d24_2 : decode jdk_43_method_2_code 2 = .ok (.arraylength, 1) := by decide +kernel
theorem d24_3 : decode jdk_43_method_2_code 3 = .ok (.invokestatic 9, 3) := by decide +kernel
theorem d24_6 : decode jdk_43_method_2_code 6 = .ok (.aload_n 0, 1) := by decide +kernel
theorem d24_7 : decode jdk_43_method_2_code 7 = .ok (.iload_n 1, 1) := by decide +kernel
theorem d24_8 : decode jdk_43_method_2_code 8 = .ok (.baload, 1) := by decide +kernel
theorem d24_9 : decode jdk_43_method_2_code 9 = .ok (.sipush 255, 3) := by decide +kernel
theorem d24_12 : decode jdk_43_method_2_code 12 = .ok (.iand, 1) := by decide +kernel
theorem d24_13 : decode jdk_43_method_2_code 13 = .ok (.i2c, 1) := by decide +kernel
theorem d24_14 : decode jdk_43_method_2_code 14 = .ok (.ireturn, 1) := by decide +kernel
theorem pn_24 : plainName "java/lang/StringLatin1" = true := by first | (simp [plainName, overriddenIn]; done) | decide +kernel
theorem pd_24_0 : parseMethodDescriptor "(II)V" = some ⟨[.int, .int], none⟩ := by decide +kernel
theorem ef_24 (m : MethodId) (x0 : Addr) (x1 : Int32) : entryFrame m #[(.ref x0), (.int x1)] 2 = mkF m 0 #[.val (.ref x0), .val (.int x1)] [] := by first | (simp [entryFrame, mkF, argsToLocals, Value.category]; done) | rfl
def Q24 (Z : State) (a1 : Addr) (p2 : Int32) (zb : Int32) (yb : Int32 → Int32) (w0 : Int32) (f0 : Value) (h0 : Heap) (n0 : Nat) (v : Option Value) (h : Heap) (L : List Loc) : Prop := v = some (.int (own_lc (yb p2))) ∧ Fr n0 L ∧ h = h0
set_option maxRecDepth 65536 in
set_option maxHeartbeats 40000000 in
theorem rm24 (l : Launch) (Z : State) (a0 : Array Value) (hw : ∀ d ∈ tables_1, d.before a0 Z = true) (wds : List Jvm.Cond) (a1 : Addr) (p2 : Int32) (zb : Int32) (yb : Int32 → Int32) (w0 : Int32) (f0 : Value) (h0 : Heap) (n0 : Nat) (Z0 : n0 ≤ h0.size) (P0 : Afn Z h0 a1 .byte zb yb) (P1 : Old Z n0 h0) (hc0 : ¬ (p2 < (0 : Int32))) (hc1 : p2 < zb) (sts : Sts Z w0 f0) :
    MetFree l (⟨"java/lang/StringLatin1", "charAt", "([BI)C"⟩ : MethodName) (head1 (Jvm.Cond.code (⟨"java/lang/StringLatin1", "charAt", "([BI)C"⟩ : MethodName) jdk_43_method_2_code 2 (some .char) :: wds) ({ frames := 2, cells := 0, slots := 0, locals := 27 } : Room)) (fun a U => a = #[(.ref a1), (.int p2)] ∧ Z.Warmed39 U.vm ∧ U.heap = h0) (fun _ _ _ _ _ => True) (fun _ U o U' => ∃ v L, o = .returned v ∧ Q24 Z a1 p2 zb yb w0 f0 h0 n0 v U'.heap L ∧ FrameEnd U o U' L ({ frames := 2, cells := 0, slots := 0, locals := 27 } : Room).cells ({ frames := 2, cells := 0, slots := 0, locals := 27 } : Room).slots) := by
  refine MetFree.of_bodySF (plainFor_of_name pn_24) hisR ?_
  intro p e s m args below meth c s₁ Bd hml0 hP hK
  obtain ⟨rfl, hZ, hh⟩ := hP
  have hx := Bd.exec
  have hby := Bd.bytes
  have hml : c.maxLocals = 2 := hml0
  have hown : s.vm.findClass "java/lang/StringLatin1" = some m.cls := findClass_of_methodNamed Bd.named
  have hnm := (name_of_methodNamed Bd.named Bd.method).1
  have X0 : Stand p l e ({ frames := 2, cells := 0, slots := 0, locals := 27 } : Room) s m #[(.ref a1), (.int p2)] below meth c s₁ [] 0 0 := Stand.of_body Bd
  have e0 : s₁.heap = h0 := by rw [← hh, Bd.state]; rfl
  have N0 := Fr.nil n0
  refine own_start (Q := Q24 Z a1 p2 zb yb w0 f0 h0 n0) (C := ({ frames := 2, cells := 0, slots := 0, locals := 27 } : Room).cells) (S := ({ frames := 2, cells := 0, slots := 0, locals := 27 } : Room).slots) ?_
  rw [ef_24 m a1 p2]
  obtain ⟨SC, hw0, SF, hf0⟩ := id sts
  refine Gen.on (b := s₁.setTop (mkF m 1 #[.val (.ref a1), .val (.int p2)] [(.int p2)])) ?_ (fun t k => XS.iloadN X0.here hx rfl (hb hby d24_0) rfl k)
  refine Gen.on (b := s₁.setTop (mkF m 2 #[.val (.ref a1), .val (.int p2)] [(.ref a1), (.int p2)])) ?_ (fun t k => XS.aloadN X0.here hx rfl (hb hby d24_1) rfl rfl k)
  obtain ⟨cl1, Ar1, SA1, NA1, HA1⟩ := id P0
  refine Gen.on (b := s₁.setTop (mkF m 3 #[.val (.ref a1), .val (.int p2)] [(.int zb), (.int p2)])) ?_ (fun t k => X0.arraylength hx (by rw [e0]; exact Ar1.1) (State.isArrayOf_alike hZ.alike Ar1.2.1) (g := (mkF m 2 #[.val (.ref a1), .val (.int p2)] [(.ref a1), (.int p2)])) rfl rfl (hb hby d24_2) t (by rw [len_of SA1 NA1]; exact k))
  obtain ⟨_, _, ⟨T2, L2, k2, n2⟩, -, X2, ⟨Lc2, hQ2, l2, y2, z2⟩, st2⟩ := Jvm.LawKit.callS X0 hx (y := (⟨"java/lang/String", "checkIndex", "(II)V"⟩ : MethodName)) hown (mvT hZ (hw _ (List.mem_of_getElem? (i := 147) rfl))) (mvT hZ (hw _ (List.mem_of_getElem? (i := 148) rfl))) (mvT hZ (hw _ (List.mem_of_getElem? (i := 3) rfl))) (mvT hZ (hw _ (List.mem_of_getElem? (i := 149) rfl))) (by decide) (backOf (W := 0) (rm25 l Z a0 hw [] p2 zb w0 f0 h0 n0 Z0 P1 hc0 hc1 (sts)) hZ (hw _ (List.mem_of_getElem? (i := 149) rfl)) (hw _ (List.mem_of_getElem? (i := 3) rfl)) (by decide) (by decide)) (g := (mkF m 3 #[.val (.ref a1), .val (.int p2)] [(.int zb), (.int p2)])) rfl (by rw [hml]; rfl) (argsL := [(.int p2), (.int zb)]) (rest := []) (lenOf pd_24_0 rfl) rfl (by show 2 * 0 + _ ≤ _; exact Nat.le_of_eq rfl) (hb hby d24_3) (fun _ _ => ⟨rfl, e0, (by decide : 0 + 0 ≤ _), (by decide : 0 + 0 ≤ _)⟩)
  dsimp only [Pt.U, Pt.locs, Pt.cells, Pt.slots] at X2 l2 y2 z2 st2 hQ2
  subst l2 y2 z2
  obtain ⟨rfl, N2q, e2⟩ := hQ2
  have N2 := Fr.app N0 N2q
  refine Gen.on (b := T2.setTop (mkF m 6 #[.val (.ref a1), .val (.int p2)] [])) ?_ (fun t k => st2 t k)
  refine Gen.on (b := T2.setTop (mkF m 7 #[.val (.ref a1), .val (.int p2)] [(.ref a1)])) ?_ (fun t k => XS.aloadN X2.here hx rfl (hb hby d24_6) rfl rfl k)
  refine Gen.on (b := T2.setTop (mkF m 8 #[.val (.ref a1), .val (.int p2)] [(.int p2), (.ref a1)])) ?_ (fun t k => XS.iloadN X2.here hx rfl (hb hby d24_7) rfl k)
  obtain ⟨cl3, Ar3, SA3, NA3, HA3⟩ := id P0
  have hin3 : ¬ (p2 < 0 ∨ cl3.slots.size ≤ (p2).toNatClampNeg) := inb_of SA3 ⟨hc0, hc1⟩
  refine Gen.on (b := T2.setTop (mkF m 9 #[.val (.ref a1), .val (.int p2)] [(.int (yb p2))])) ?_ (fun t k => X2.baloadBytes hx (j := p2) (v := (.int (yb p2))) (by rw [e2]; exact Ar3.1) (State.isArrayOf_alike hZ.alike Ar3.2.1) Ar3.2.2 hin3 (HA3 _ hin3) (g := (mkF m 8 #[.val (.ref a1), .val (.int p2)] [(.int p2), (.ref a1)])) rfl rfl (hb hby d24_8) t k)
  refine Gen.on (b := T2.setTop (mkF m 12 #[.val (.ref a1), .val (.int p2)] [(.int (255 : Int32)), (.int (yb p2))])) ?_ (fun t k => XS.sipush X2.here hx rfl (hb hby d24_9) k)
  refine Gen.on (b := T2.setTop (mkF m 13 #[.val (.ref a1), .val (.int p2)] [(.int ((yb p2) &&& (255 : Int32)))])) ?_ (fun t k => XS.iand X2.here hx rfl (hb hby d24_12) rfl k)
  refine Gen.on (b := T2.setTop (mkF m 14 #[.val (.ref a1), .val (.int p2)] [(.int ((yb p2) &&& (255 : Int32)).toUInt32.toUInt16.toUInt32.toInt32)])) ?_ (fun t k => XS.i2c X2.here hx rfl (hb hby d24_13) rfl k)
  refine own_retN (t := .char) X2 hx Bd.returns (by simp) (own_nar_i2c _) (hb hby d24_14) (by decide) (by decide) ?_
  exact ⟨rfl, N2, e2⟩

theorem d22_0 : decode jdk_42_method_56_code 0 = .ok (.aload_n 0, 1) := by decide +kernel
theorem d22_1 : decode jdk_42_method_56_code 1 = .ok (.invokevirtual 492, 3) := by decide +kernel
theorem d22_4 : decode jdk_42_method_56_code 4 = .ok (.ifCond .eq 12, 3) := by decide +kernel
theorem d22_7 : decode jdk_42_method_56_code 7 = .ok (.aload_n 0, 1) := by decide +kernel
theorem d22_8 : decode jdk_42_method_56_code 8 = .ok (.getfield 9, 3) := by decide +kernel
theorem d22_11 : decode jdk_42_method_56_code 11 = .ok (.iload_n 1, 1) := by decide +kernel
theorem d22_12 : decode jdk_42_method_56_code 12 = .ok (.invokestatic 495, 3) := by decide +kernel
theorem d22_15 : decode jdk_42_method_56_code 15 = .ok (.ireturn, 1) := by decide +kernel
theorem pn_22 : plainName "java/lang/String" = true := by first | (simp [plainName, overriddenIn]; done) | decide +kernel
theorem pd_22_0 : parseMethodDescriptor "()Z" = some ⟨[], some .boolean⟩ := by decide +kernel
theorem pd_22_1 : parseMethodDescriptor "([BI)C" = some ⟨[(.array .byte), .int], some .char⟩ := by decide +kernel
theorem ef_22 (m : MethodId) (x0 : Addr) (x1 : Int32) : entryFrame m #[(.ref x0), (.int x1)] 2 = mkF m 0 #[.val (.ref x0), .val (.int x1)] [] := by first | (simp [entryFrame, mkF, argsToLocals, Value.category]; done) | rfl
def Q22 (Z : State) (a1 : Addr) (p2 : Int32) (a2 : Addr) (zb : Int32) (yb : Int32 → Int32) (w0 : Int32) (f0 : Value) (h0 : Heap) (n0 : Nat) (v : Option Value) (h : Heap) (L : List Loc) : Prop := v = some (.int (own_lc (yb p2))) ∧ Fr n0 L ∧ h = h0
set_option maxRecDepth 65536 in
set_option maxHeartbeats 40000000 in
theorem rm22 (l : Launch) (Z : State) (a0 : Array Value) (hw : ∀ d ∈ tables_1, d.before a0 Z = true) (wds : List Jvm.Cond) (a1 : Addr) (p2 : Int32) (a2 : Addr) (zb : Int32) (yb : Int32 → Int32) (w0 : Int32) (f0 : Value) (h0 : Heap) (n0 : Nat) (Z0 : n0 ≤ h0.size) (P0 : Exa Z h0 a1 "java/lang/String") (P1 : Fld Z h0 a1 "java/lang/String" "value" "[B" (.ref a2)) (P2 : Fld Z h0 a1 "java/lang/String" "coder" "B" (.int (0 : Int32))) (P3 : Afn Z h0 a2 .byte zb yb) (P4 : Old Z n0 h0) (hc0 : ¬ (p2 < (0 : Int32))) (hc1 : p2 < zb) (sts : Sts Z w0 f0) :
    MetFree l (⟨"java/lang/String", "charAt", "(I)C"⟩ : MethodName) (head1 (Jvm.Cond.code (⟨"java/lang/String", "charAt", "(I)C"⟩ : MethodName) jdk_42_method_56_code 2 (some .char) :: wds) ({ frames := 3, cells := 0, slots := 0, locals := 40 } : Room)) (fun a U => a = #[(.ref a1), (.int p2)] ∧ Z.Warmed39 U.vm ∧ U.heap = h0) (fun _ _ _ _ _ => True) (fun _ U o U' => ∃ v L, o = .returned v ∧ Q22 Z a1 p2 a2 zb yb w0 f0 h0 n0 v U'.heap L ∧ FrameEnd U o U' L ({ frames := 3, cells := 0, slots := 0, locals := 40 } : Room).cells ({ frames := 3, cells := 0, slots := 0, locals := 40 } : Room).slots) := by
  refine MetFree.of_bodySF (plainFor_of_name pn_22) hisR ?_
  intro p e s m args below meth c s₁ Bd hml0 hP hK
  obtain ⟨rfl, hZ, hh⟩ := hP
  have hx := Bd.exec
  have hby := Bd.bytes
  have hml : c.maxLocals = 2 := hml0
  have hown : s.vm.findClass "java/lang/String" = some m.cls := findClass_of_methodNamed Bd.named
  have hnm := (name_of_methodNamed Bd.named Bd.method).1
  have X0 : Stand p l e ({ frames := 3, cells := 0, slots := 0, locals := 40 } : Room) s m #[(.ref a1), (.int p2)] below meth c s₁ [] 0 0 := Stand.of_body Bd
  have e0 : s₁.heap = h0 := by rw [← hh, Bd.state]; rfl
  have N0 := Fr.nil n0
  refine own_start (Q := Q22 Z a1 p2 a2 zb yb w0 f0 h0 n0) (C := ({ frames := 3, cells := 0, slots := 0, locals := 40 } : Room).cells) (S := ({ frames := 3, cells := 0, slots := 0, locals := 40 } : Room).slots) ?_
  rw [ef_22 m a1 p2]
  obtain ⟨SC, hw0, SF, hf0⟩ := id sts
  refine Gen.on (b := s₁.setTop (mkF m 1 #[.val (.ref a1), .val (.int p2)] [(.ref a1)])) ?_ (fun t k => XS.aloadN X0.here hx rfl (hb hby d22_0) rfl rfl k)
  obtain ⟨cq1, kq1, q1a, q1b, q1c⟩ := isOf hZ e0 P0
  obtain ⟨_, _, ⟨T1, L1, k1, n1⟩, -, X1, ⟨Lc1, hQ1, l1, y1, z1⟩, st1⟩ := X0.virtualBack hx (y := (⟨"java/lang/String", "isLatin1", "()Z"⟩ : MethodName)) (z := (⟨"java/lang/String", "isLatin1", "()Z"⟩ : MethodName)) hown (mvT hZ (hw _ (List.mem_of_getElem? (i := 138) rfl))) (mvT hZ (hw _ (List.mem_of_getElem? (i := 139) rfl))) (notFace_of_selects (args := #[]) (mvT hZ (hw _ (List.mem_of_getElem? (i := 141) rfl)))) (mvT hZ (hw _ (List.mem_of_getElem? (i := 141) rfl))) (mvT hZ (hw _ (List.mem_of_getElem? (i := 140) rfl))) (by decide) (backOf (W := 0) (rm23 l Z a0 hw [] a1 w0 f0 h0 n0 Z0 P0 P2 P4 (sts)) hZ (hw _ (List.mem_of_getElem? (i := 142) rfl)) (hw _ (List.mem_of_getElem? (i := 3) rfl)) (by decide) (by decide)) q1a q1c (g := (mkF m 1 #[.val (.ref a1), .val (.int p2)] [(.ref a1)])) rfl (by rw [hml]; rfl) (Steps.refl _) (argsL := []) (rest := []) (lenOf pd_22_0 rfl) rfl (by show 2 * 0 + _ ≤ _; exact Nat.le_of_eq rfl) (hb hby d22_1) (fun _ _ => ⟨rfl, e0, (by decide : 0 + 0 ≤ _), (by decide : 0 + 0 ≤ _)⟩)
  dsimp only [Pt.U, Pt.locs, Pt.cells, Pt.slots] at X1 l1 y1 z1 st1 hQ1
  subst l1 y1 z1
  obtain ⟨rfl, N1q, e1⟩ := hQ1
  have N1 := Fr.app N0 N1q
  refine Gen.on (b := T1.setTop (mkF m 4 #[.val (.ref a1), .val (.int p2)] [(.int (1 : Int32))])) ?_ (fun t k => st1.trans k)
  refine Gen.on (b := T1.setTop (mkF m 7 #[.val (.ref a1), .val (.int p2)] [])) ?_ (fun t k => XS.ifNo X1.here hx rfl (hb hby d22_4) rfl ((if0 _ _).trans (feq (by decide : ¬ ((1 : Int32) = (0 : Int32)))).1) k)
  refine Gen.on (b := T1.setTop (mkF m 8 #[.val (.ref a1), .val (.int p2)] [(.ref a1)])) ?_ (fun t k => XS.aloadN X1.here hx rfl (hb hby d22_7) rfl rfl k)
  obtain ⟨T2, X2, e2, st2⟩ := getF X1 hx hZ hown (host := "") (Or.inl (hw _ (List.mem_of_getElem? (i := 28) rfl))) Via.refl e1 P1 (g := (mkF m 8 #[.val (.ref a1), .val (.int p2)] [(.ref a1)])) rfl rfl (hb hby d22_8)
  refine Gen.on (b := T2.setTop (mkF m 11 #[.val (.ref a1), .val (.int p2)] [(.ref a2)])) ?_ (fun t k => st2 t k)
  refine Gen.on (b := T2.setTop (mkF m 12 #[.val (.ref a1), .val (.int p2)] [(.int p2), (.ref a2)])) ?_ (fun t k => XS.iloadN X2.here hx rfl (hb hby d22_11) rfl k)
  obtain ⟨_, _, ⟨T3, L3, k3, n3⟩, -, X3, ⟨Lc3, hQ3, l3, y3, z3⟩, st3⟩ := Jvm.LawKit.callS X2 hx (y := (⟨"java/lang/StringLatin1", "charAt", "([BI)C"⟩ : MethodName)) hown (mvT hZ (hw _ (List.mem_of_getElem? (i := 143) rfl))) (mvT hZ (hw _ (List.mem_of_getElem? (i := 144) rfl))) (mvT hZ (hw _ (List.mem_of_getElem? (i := 145) rfl))) (mvT hZ (hw _ (List.mem_of_getElem? (i := 146) rfl))) (by decide) (backOf (W := 0) (rm24 l Z a0 hw [] a2 p2 zb yb w0 f0 h0 n0 Z0 P3 P4 hc0 hc1 (sts)) hZ (hw _ (List.mem_of_getElem? (i := 146) rfl)) (hw _ (List.mem_of_getElem? (i := 145) rfl)) (by decide) (by decide)) (g := (mkF m 12 #[.val (.ref a1), .val (.int p2)] [(.int p2), (.ref a2)])) rfl (by rw [hml]; rfl) (argsL := [(.ref a2), (.int p2)]) (rest := []) (lenOf pd_22_1 rfl) rfl (by show 2 * 0 + _ ≤ _; exact Nat.le_of_eq rfl) (hb hby d22_12) (fun _ _ => ⟨rfl, e2, (by decide : 0 + 0 ≤ _), (by decide : 0 + 0 ≤ _)⟩)
  dsimp only [Pt.U, Pt.locs, Pt.cells, Pt.slots] at X3 l3 y3 z3 st3 hQ3
  subst l3 y3 z3
  obtain ⟨rfl, N3q, e3⟩ := hQ3
  have N3 := Fr.app N1 N3q
  refine Gen.on (b := T3.setTop (mkF m 15 #[.val (.ref a1), .val (.int p2)] [(.int (own_lc (yb p2)))])) ?_ (fun t k => st3 t k)
  refine own_retN (t := .char) X3 hx Bd.returns (by simp) (own_nar_i2c _) (hb hby d22_15) (by decide) (by decide) ?_
  exact ⟨rfl, N3, e3⟩

theorem own_at0 {c : Cell} {vs : List Value} {d : Value} (H : Has c vs d) (S : c.slots.size = (4 : Int32).toNatClampNeg) : c.slots[(0 : Int32).toNatClampNeg]? = some (vs.getD 0 d) := by
  have e : (0 : Int32).toNatClampNeg = 0 := by decide
  rw [e]; exact H 0 (by rw [S]; decide)


theorem d8_0 : decode prog_105_method_2_code 0 = .ok (.aload_n 0, 1) := by decide +kernel
theorem d8_1 : decode prog_105_method_2_code 1 = .ok (.aload_n 1, 1) := by decide +kernel
theorem d8_2 : decode prog_105_method_2_code 2 = .ok (.putfield 35, 3) := by decide +kernel
theorem d8_5 : decode prog_105_method_2_code 5 = .ok (.aload_n 0, 1) := by decide +kernel
theorem d8_6 : decode prog_105_method_2_code 6 = .ok (.iload_n 2, 1) := by decide +kernel
theorem d8_7 : decode prog_105_method_2_code 7 = .ok (.putfield 39, 3) := by decide +kernel
theorem d8_10 : decode prog_105_method_2_code 10 = .ok (.aload_n 0, 1) := by decide +kernel
theorem d8_11 : decode prog_105_method_2_code 11 = .ok (.aload_n 3, 1) := by decide +kernel
theorem d8_12 : decode prog_105_method_2_code 12 = .ok (.putfield 43, 3) := by decide +kernel
theorem d8_15 : decode prog_105_method_2_code 15 = .ok (.aload_n 0, 1) := by decide +kernel
theorem d8_16 : decode prog_105_method_2_code 16 = .ok (.aload 4, 2) := by decide +kernel
theorem d8_18 : decode prog_105_method_2_code 18 = .ok (.putfield 46, 3) := by decide +kernel
theorem d8_21 : decode prog_105_method_2_code 21 = .ok (.aload_n 0, 1) := by decide +kernel
theorem d8_22 : decode prog_105_method_2_code 22 = .ok (.iconst 0, 1) := by decide +kernel
theorem d8_23 : decode prog_105_method_2_code 23 = .ok (.putfield 49, 3) := by decide +kernel
theorem d8_26 : decode prog_105_method_2_code 26 = .ok (.return_, 1) := by decide +kernel
theorem pn_8 : plainName "com/example/scheherazade/scheherazade/reader/TagParts" = true := by first | (simp [plainName, overriddenIn]; done) | decide +kernel
theorem ef_8 (m : MethodId) (x0 : Addr) (x1 : Addr) (x2 : Int32) (x3 : Addr) (x4 : Addr) : entryFrame m #[(.ref x0), (.ref x1), (.int x2), (.ref x3), (.ref x4)] 5 = mkF m 0 #[.val (.ref x0), .val (.ref x1), .val (.int x2), .val (.ref x3), .val (.ref x4)] [] := by first | (simp [entryFrame, mkF, argsToLocals, Value.category]; done) | rfl
def Q8 (Z : State) (a1 : Addr) (a2 : Addr) (p3 : Int32) (a4 : Addr) (a5 : Addr) (u1 : Value) (u2 : Value) (u3 : Value) (u4 : Value) (u5 : Value) (m1 : Addr) (m2 : Addr) (m3 : Addr) (m4 : Addr) (m5 : Addr) (m6 : Addr) (h0 : Heap) (n0 : Nat) (v : Option Value) (h : Heap) (L : List Loc) : Prop := v = none ∧ Fr n0 L ∧ Keep h0 h [a1] ∧ Exa Z h a1 "com/example/scheherazade/scheherazade/reader/TagParts" ∧ Fld Z h a1 "com/example/scheherazade/scheherazade/reader/TagParts" "name" "Ljava/lang/String;" (.ref a2) ∧ Fld Z h a1 "com/example/scheherazade/scheherazade/reader/TagParts" "prefixed" "Z" (.int (nar .boolean p3)) ∧ Fld Z h a1 "com/example/scheherazade/scheherazade/reader/TagParts" "nameSpelling" "[C" (.ref a4) ∧ Fld Z h a1 "com/example/scheherazade/scheherazade/reader/TagParts" "source" "[C" (.ref a5) ∧ Fld Z h a1 "com/example/scheherazade/scheherazade/reader/TagParts" "attributeCount" "I" (.int (0 : Int32)) ∧ Fld Z h a1 "com/example/scheherazade/scheherazade/reader/TagParts" "attributeNames" "[Ljava/lang/String;" (.ref m1) ∧ Fld Z h a1 "com/example/scheherazade/scheherazade/reader/TagParts" "attributePrefixes" "[Z" (.ref m2) ∧ Fld Z h a1 "com/example/scheherazade/scheherazade/reader/TagParts" "attributeSpellings" "[[C" (.ref m3) ∧ Fld Z h a1 "com/example/scheherazade/scheherazade/reader/TagParts" "valueStarts" "[I" (.ref m4) ∧ Fld Z h a1 "com/example/scheherazade/scheherazade/reader/TagParts" "valueLengths" "[I" (.ref m5) ∧ Fld Z h a1 "com/example/scheherazade/scheherazade/reader/TagParts" "attributeValues" "[Ljava/lang/String;" (.ref m6)
set_option maxRecDepth 65536 in
set_option maxHeartbeats 40000000 in
theorem rm8 (l : Launch) (Z : State) (a0 : Array Value) (hw : ∀ d ∈ tables_1, d.before a0 Z = true) (wds : List Jvm.Cond) (a1 : Addr) (a2 : Addr) (p3 : Int32) (a4 : Addr) (a5 : Addr) (u1 : Value) (u2 : Value) (u3 : Value) (u4 : Value) (u5 : Value) (m1 : Addr) (m2 : Addr) (m3 : Addr) (m4 : Addr) (m5 : Addr) (m6 : Addr) (h0 : Heap) (n0 : Nat) (Z0 : n0 ≤ h0.size) (P0 : Exa Z h0 a1 "com/example/scheherazade/scheherazade/reader/TagParts") (P1 : Fld Z h0 a1 "com/example/scheherazade/scheherazade/reader/TagParts" "name" "Ljava/lang/String;" u1) (P2 : Fld Z h0 a1 "com/example/scheherazade/scheherazade/reader/TagParts" "prefixed" "Z" u2) (P3 : Fld Z h0 a1 "com/example/scheherazade/scheherazade/reader/TagParts" "nameSpelling" "[C" u3) (P4 : Fld Z h0 a1 "com/example/scheherazade/scheherazade/reader/TagParts" "source" "[C" u4) (P5 : Fld Z h0 a1 "com/example/scheherazade/scheherazade/reader/TagParts" "attributeCount" "I" u5) (P6 : Fld Z h0 a1 "com/example/scheherazade/scheherazade/reader/TagParts" "attributeNames" "[Ljava/lang/String;" (.ref m1)) (P7 : Fld Z h0 a1 "com/example/scheherazade/scheherazade/reader/TagParts" "attributePrefixes" "[Z" (.ref m2)) (P8 : Fld Z h0 a1 "com/example/scheherazade/scheherazade/reader/TagParts" "attributeSpellings" "[[C" (.ref m3)) (P9 : Fld Z h0 a1 "com/example/scheherazade/scheherazade/reader/TagParts" "valueStarts" "[I" (.ref m4)) (P10 : Fld Z h0 a1 "com/example/scheherazade/scheherazade/reader/TagParts" "valueLengths" "[I" (.ref m5)) (P11 : Fld Z h0 a1 "com/example/scheherazade/scheherazade/reader/TagParts" "attributeValues" "[Ljava/lang/String;" (.ref m6)) (g_a1 : n0 ≤ a1) :
    MetFree l (⟨"com/example/scheherazade/scheherazade/reader/TagParts", "start", "(Ljava/lang/String;Z[C[C)V"⟩ : MethodName) (head1 (Jvm.Cond.code (⟨"com/example/scheherazade/scheherazade/reader/TagParts", "start", "(Ljava/lang/String;Z[C[C)V"⟩ : MethodName) prog_105_method_2_code 5 none :: wds) ({ frames := 0, cells := 0, slots := 0, locals := 0 } : Room)) (fun a U => a = #[(.ref a1), (.ref a2), (.int p3), (.ref a4), (.ref a5)] ∧ Z.Warmed39 U.vm ∧ U.heap = h0) (fun _ _ _ _ _ => True) (fun _ U o U' => ∃ v L, o = .returned v ∧ Q8 Z a1 a2 p3 a4 a5 u1 u2 u3 u4 u5 m1 m2 m3 m4 m5 m6 h0 n0 v U'.heap L ∧ FrameEnd U o U' L ({ frames := 0, cells := 0, slots := 0, locals := 0 } : Room).cells ({ frames := 0, cells := 0, slots := 0, locals := 0 } : Room).slots) := by
  refine MetFree.of_bodySF (plainFor_of_name pn_8) hisR ?_
  intro p e s m args below meth c s₁ Bd hml0 hP hK
  obtain ⟨rfl, hZ, hh⟩ := hP
  have hx := Bd.exec
  have hby := Bd.bytes
  have hml : c.maxLocals = 5 := hml0
  have hown : s.vm.findClass "com/example/scheherazade/scheherazade/reader/TagParts" = some m.cls := findClass_of_methodNamed Bd.named
  have hnm := (name_of_methodNamed Bd.named Bd.method).1
  have X0 : Stand p l e ({ frames := 0, cells := 0, slots := 0, locals := 0 } : Room) s m #[(.ref a1), (.ref a2), (.int p3), (.ref a4), (.ref a5)] below meth c s₁ [] 0 0 := Stand.of_body Bd
  have e0 : s₁.heap = h0 := by rw [← hh, Bd.state]; rfl
  have N0 := Fr.nil n0
  refine own_start (Q := Q8 Z a1 a2 p3 a4 a5 u1 u2 u3 u4 u5 m1 m2 m3 m4 m5 m6 h0 n0) (C := ({ frames := 0, cells := 0, slots := 0, locals := 0 } : Room).cells) (S := ({ frames := 0, cells := 0, slots := 0, locals := 0 } : Room).slots) ?_
  rw [ef_8 m a1 a2 p3 a4 a5]
  have K0 : Keep h0 h0 [a1] := Keep.refl h0 [a1]
  refine Gen.on (b := s₁.setTop (mkF m 1 #[.val (.ref a1), .val (.ref a2), .val (.int p3), .val (.ref a4), .val (.ref a5)] [(.ref a1)])) ?_ (fun t k => XS.aloadN X0.here hx rfl (hb hby d8_0) rfl rfl k)
  refine Gen.on (b := s₁.setTop (mkF m 2 #[.val (.ref a1), .val (.ref a2), .val (.int p3), .val (.ref a4), .val (.ref a5)] [(.ref a2), (.ref a1)])) ?_ (fun t k => XS.aloadN X0.here hx rfl (hb hby d8_1) rfl rfl k)
  obtain ⟨T1, h1, X1, e1, W1, st1⟩ := putF X0 hx hZ hown (host := "") (Or.inl (hw _ (List.mem_of_getElem? (i := 60) rfl))) Via.refl e0 P1 P0 (Or.inl (hw _ (List.mem_of_getElem? (i := 61) rfl))) (hw _ (List.mem_of_getElem? (i := 31) rfl)) (ty := (.object "java/lang/String")) (by decide) rfl rfl (g := (mkF m 2 #[.val (.ref a1), .val (.ref a2), .val (.int p3), .val (.ref a4), .val (.ref a5)] [(.ref a2), (.ref a1)])) rfl rfl (hb hby d8_2)
  have Fw1 := P1.same W1
  have Z1 : n0 ≤ h1.size := Nat.le_trans Z0 (Keep.of_wr W1).1
  have K1 : Keep h0 h1 [a1] := K0.wr W1 (Or.inl (List.mem_of_getElem? (i := 0) rfl))
  have N1 := Fr.snoc X1 N0 g_a1
  refine Gen.on (b := T1.setTop (mkF m 5 #[.val (.ref a1), .val (.ref a2), .val (.int p3), .val (.ref a4), .val (.ref a5)] [])) ?_ (fun t k => st1 t k)
  refine Gen.on (b := T1.setTop (mkF m 6 #[.val (.ref a1), .val (.ref a2), .val (.int p3), .val (.ref a4), .val (.ref a5)] [(.ref a1)])) ?_ (fun t k => XS.aloadN X1.here hx rfl (hb hby d8_5) rfl rfl k)
  refine Gen.on (b := T1.setTop (mkF m 7 #[.val (.ref a1), .val (.ref a2), .val (.int p3), .val (.ref a4), .val (.ref a5)] [(.int p3), (.ref a1)])) ?_ (fun t k => XS.iloadN X1.here hx rfl (hb hby d8_6) rfl k)
  have fa2 := (P2.other W1 (Or.inr (slot_ne (Or.inl (hw _ (List.mem_of_getElem? (i := 63) rfl))) (Or.inl (hw _ (List.mem_of_getElem? (i := 61) rfl))) (by decide) (t := .boolean) (t' := (.object "java/lang/String")) (by decide) (by decide))))
  have fa3 := (P0.wr W1)
  obtain ⟨T4, h4, X4, e4, W4, st4⟩ := putFN X1 hx hZ hown (hw _ (List.mem_of_getElem? (i := 62) rfl)) Via.refl e1 fa2 fa3 (Or.inl (hw _ (List.mem_of_getElem? (i := 63) rfl))) (hw _ (List.mem_of_getElem? (i := 31) rfl)) (ty := .boolean) (v' := (.int (nar .boolean p3))) (by decide) rfl (fits_nar_bool _) (g := (mkF m 7 #[.val (.ref a1), .val (.ref a2), .val (.int p3), .val (.ref a4), .val (.ref a5)] [(.int p3), (.ref a1)])) rfl rfl (hb hby d8_7)
  have Fw4 := fa2.same W4
  have Z4 : n0 ≤ h4.size := Nat.le_trans Z1 (Keep.of_wr W4).1
  have K4 : Keep h0 h4 [a1] := K1.wr W4 (Or.inl (List.mem_of_getElem? (i := 0) rfl))
  have N4 := Fr.snoc X4 N1 g_a1
  refine Gen.on (b := T4.setTop (mkF m 10 #[.val (.ref a1), .val (.ref a2), .val (.int p3), .val (.ref a4), .val (.ref a5)] [])) ?_ (fun t k => st4 t k)
  refine Gen.on (b := T4.setTop (mkF m 11 #[.val (.ref a1), .val (.ref a2), .val (.int p3), .val (.ref a4), .val (.ref a5)] [(.ref a1)])) ?_ (fun t k => XS.aloadN X4.here hx rfl (hb hby d8_10) rfl rfl k)
  refine Gen.on (b := T4.setTop (mkF m 12 #[.val (.ref a1), .val (.ref a2), .val (.int p3), .val (.ref a4), .val (.ref a5)] [(.ref a4), (.ref a1)])) ?_ (fun t k => XS.aloadN X4.here hx rfl (hb hby d8_11) rfl rfl k)
  have fa5 := ((P3.other W1 (Or.inr (slot_ne (Or.inl (hw _ (List.mem_of_getElem? (i := 65) rfl))) (Or.inl (hw _ (List.mem_of_getElem? (i := 61) rfl))) (by decide) (t := (.array .char)) (t' := (.object "java/lang/String")) (by decide) (by decide)))).other W4 (Or.inr (slot_ne (Or.inl (hw _ (List.mem_of_getElem? (i := 65) rfl))) (Or.inl (hw _ (List.mem_of_getElem? (i := 63) rfl))) (by decide) (t := (.array .char)) (t' := .boolean) (by decide) (by decide))))
  have fa6 := (fa3.wr W4)
  obtain ⟨T7, h7, X7, e7, W7, st7⟩ := putF X4 hx hZ hown (host := "") (Or.inl (hw _ (List.mem_of_getElem? (i := 64) rfl))) Via.refl e4 fa5 fa6 (Or.inl (hw _ (List.mem_of_getElem? (i := 65) rfl))) (hw _ (List.mem_of_getElem? (i := 31) rfl)) (ty := (.array .char)) (by decide) rfl rfl (g := (mkF m 12 #[.val (.ref a1), .val (.ref a2), .val (.int p3), .val (.ref a4), .val (.ref a5)] [(.ref a4), (.ref a1)])) rfl rfl (hb hby d8_12)
  have Fw7 := fa5.same W7
  have Z7 : n0 ≤ h7.size := Nat.le_trans Z4 (Keep.of_wr W7).1
  have K7 : Keep h0 h7 [a1] := K4.wr W7 (Or.inl (List.mem_of_getElem? (i := 0) rfl))
  have N7 := Fr.snoc X7 N4 g_a1
  refine Gen.on (b := T7.setTop (mkF m 15 #[.val (.ref a1), .val (.ref a2), .val (.int p3), .val (.ref a4), .val (.ref a5)] [])) ?_ (fun t k => st7 t k)
  refine Gen.on (b := T7.setTop (mkF m 16 #[.val (.ref a1), .val (.ref a2), .val (.int p3), .val (.ref a4), .val (.ref a5)] [(.ref a1)])) ?_ (fun t k => XS.aloadN X7.here hx rfl (hb hby d8_15) rfl rfl k)
  refine Gen.on (b := T7.setTop (mkF m 18 #[.val (.ref a1), .val (.ref a2), .val (.int p3), .val (.ref a4), .val (.ref a5)] [(.ref a5), (.ref a1)])) ?_ (fun t k => XS.aload X7.here hx rfl (hb hby d8_16) rfl rfl k)
  have fa8 := (((P4.other W1 (Or.inr (slot_ne (Or.inl (hw _ (List.mem_of_getElem? (i := 67) rfl))) (Or.inl (hw _ (List.mem_of_getElem? (i := 61) rfl))) (by decide) (t := (.array .char)) (t' := (.object "java/lang/String")) (by decide) (by decide)))).other W4 (Or.inr (slot_ne (Or.inl (hw _ (List.mem_of_getElem? (i := 67) rfl))) (Or.inl (hw _ (List.mem_of_getElem? (i := 63) rfl))) (by decide) (t := (.array .char)) (t' := .boolean) (by decide) (by decide)))).other W7 (Or.inr (slot_ne (Or.inl (hw _ (List.mem_of_getElem? (i := 67) rfl))) (Or.inl (hw _ (List.mem_of_getElem? (i := 65) rfl))) (by decide) (t := (.array .char)) (t' := (.array .char)) (by decide) (by decide))))
  have fa9 := (fa6.wr W7)
  obtain ⟨T10, h10, X10, e10, W10, st10⟩ := putF X7 hx hZ hown (host := "") (Or.inl (hw _ (List.mem_of_getElem? (i := 66) rfl))) Via.refl e7 fa8 fa9 (Or.inl (hw _ (List.mem_of_getElem? (i := 67) rfl))) (hw _ (List.mem_of_getElem? (i := 31) rfl)) (ty := (.array .char)) (by decide) rfl rfl (g := (mkF m 18 #[.val (.ref a1), .val (.ref a2), .val (.int p3), .val (.ref a4), .val (.ref a5)] [(.ref a5), (.ref a1)])) rfl rfl (hb hby d8_18)
  have Fw10 := fa8.same W10
  have Z10 : n0 ≤ h10.size := Nat.le_trans Z7 (Keep.of_wr W10).1
  have K10 : Keep h0 h10 [a1] := K7.wr W10 (Or.inl (List.mem_of_getElem? (i := 0) rfl))
  have N10 := Fr.snoc X10 N7 g_a1
  refine Gen.on (b := T10.setTop (mkF m 21 #[.val (.ref a1), .val (.ref a2), .val (.int p3), .val (.ref a4), .val (.ref a5)] [])) ?_ (fun t k => st10 t k)
  refine Gen.on (b := T10.setTop (mkF m 22 #[.val (.ref a1), .val (.ref a2), .val (.int p3), .val (.ref a4), .val (.ref a5)] [(.ref a1)])) ?_ (fun t k => XS.aloadN X10.here hx rfl (hb hby d8_21) rfl rfl k)
  refine Gen.on (b := T10.setTop (mkF m 23 #[.val (.ref a1), .val (.ref a2), .val (.int p3), .val (.ref a4), .val (.ref a5)] [(.int (0 : Int32)), (.ref a1)])) ?_ (fun t k => XS.iconst X10.here hx rfl (hb hby d8_22) k)
  have fa11 := ((((P5.other W1 (Or.inr (slot_ne (Or.inl (hw _ (List.mem_of_getElem? (i := 69) rfl))) (Or.inl (hw _ (List.mem_of_getElem? (i := 61) rfl))) (by decide) (t := .int) (t' := (.object "java/lang/String")) (by decide) (by decide)))).other W4 (Or.inr (slot_ne (Or.inl (hw _ (List.mem_of_getElem? (i := 69) rfl))) (Or.inl (hw _ (List.mem_of_getElem? (i := 63) rfl))) (by decide) (t := .int) (t' := .boolean) (by decide) (by decide)))).other W7 (Or.inr (slot_ne (Or.inl (hw _ (List.mem_of_getElem? (i := 69) rfl))) (Or.inl (hw _ (List.mem_of_getElem? (i := 65) rfl))) (by decide) (t := .int) (t' := (.array .char)) (by decide) (by decide)))).other W10 (Or.inr (slot_ne (Or.inl (hw _ (List.mem_of_getElem? (i := 69) rfl))) (Or.inl (hw _ (List.mem_of_getElem? (i := 67) rfl))) (by decide) (t := .int) (t' := (.array .char)) (by decide) (by decide))))
  have fa12 := (fa9.wr W10)
  obtain ⟨T13, h13, X13, e13, W13, st13⟩ := putF X10 hx hZ hown (host := "") (Or.inl (hw _ (List.mem_of_getElem? (i := 68) rfl))) Via.refl e10 fa11 fa12 (Or.inl (hw _ (List.mem_of_getElem? (i := 69) rfl))) (hw _ (List.mem_of_getElem? (i := 31) rfl)) (ty := .int) (by decide) rfl rfl (g := (mkF m 23 #[.val (.ref a1), .val (.ref a2), .val (.int p3), .val (.ref a4), .val (.ref a5)] [(.int (0 : Int32)), (.ref a1)])) rfl rfl (hb hby d8_23)
  have Fw13 := fa11.same W13
  have Z13 : n0 ≤ h13.size := Nat.le_trans Z10 (Keep.of_wr W13).1
  have K13 : Keep h0 h13 [a1] := K10.wr W13 (Or.inl (List.mem_of_getElem? (i := 0) rfl))
  have N13 := Fr.snoc X13 N10 g_a1
  refine Gen.on (b := T13.setTop (mkF m 26 #[.val (.ref a1), .val (.ref a2), .val (.int p3), .val (.ref a4), .val (.ref a5)] [])) ?_ (fun t k => st13 t k)
  refine own_ret0 X13 hx Bd.returns (hb hby d8_26) (by decide) (by decide) ?_
  have fa14 := (fa12.wr W13)
  have fa15 := ((((Fw1.other W4 (Or.inr (slot_ne (Or.inl (hw _ (List.mem_of_getElem? (i := 61) rfl))) (Or.inl (hw _ (List.mem_of_getElem? (i := 63) rfl))) (by decide) (t := (.object "java/lang/String")) (t' := .boolean) (by decide) (by decide)))).other W7 (Or.inr (slot_ne (Or.inl (hw _ (List.mem_of_getElem? (i := 61) rfl))) (Or.inl (hw _ (List.mem_of_getElem? (i := 65) rfl))) (by decide) (t := (.object "java/lang/String")) (t' := (.array .char)) (by decide) (by decide)))).other W10 (Or.inr (slot_ne (Or.inl (hw _ (List.mem_of_getElem? (i := 61) rfl))) (Or.inl (hw _ (List.mem_of_getElem? (i := 67) rfl))) (by decide) (t := (.object "java/lang/String")) (t' := (.array .char)) (by decide) (by decide)))).other W13 (Or.inr (slot_ne (Or.inl (hw _ (List.mem_of_getElem? (i := 61) rfl))) (Or.inl (hw _ (List.mem_of_getElem? (i := 69) rfl))) (by decide) (t := (.object "java/lang/String")) (t' := .int) (by decide) (by decide))))
  have fa16 := (((Fw4.other W7 (Or.inr (slot_ne (Or.inl (hw _ (List.mem_of_getElem? (i := 63) rfl))) (Or.inl (hw _ (List.mem_of_getElem? (i := 65) rfl))) (by decide) (t := .boolean) (t' := (.array .char)) (by decide) (by decide)))).other W10 (Or.inr (slot_ne (Or.inl (hw _ (List.mem_of_getElem? (i := 63) rfl))) (Or.inl (hw _ (List.mem_of_getElem? (i := 67) rfl))) (by decide) (t := .boolean) (t' := (.array .char)) (by decide) (by decide)))).other W13 (Or.inr (slot_ne (Or.inl (hw _ (List.mem_of_getElem? (i := 63) rfl))) (Or.inl (hw _ (List.mem_of_getElem? (i := 69) rfl))) (by decide) (t := .boolean) (t' := .int) (by decide) (by decide))))
  have fa17 := ((Fw7.other W10 (Or.inr (slot_ne (Or.inl (hw _ (List.mem_of_getElem? (i := 65) rfl))) (Or.inl (hw _ (List.mem_of_getElem? (i := 67) rfl))) (by decide) (t := (.array .char)) (t' := (.array .char)) (by decide) (by decide)))).other W13 (Or.inr (slot_ne (Or.inl (hw _ (List.mem_of_getElem? (i := 65) rfl))) (Or.inl (hw _ (List.mem_of_getElem? (i := 69) rfl))) (by decide) (t := (.array .char)) (t' := .int) (by decide) (by decide))))
  have fa18 := (Fw10.other W13 (Or.inr (slot_ne (Or.inl (hw _ (List.mem_of_getElem? (i := 67) rfl))) (Or.inl (hw _ (List.mem_of_getElem? (i := 69) rfl))) (by decide) (t := (.array .char)) (t' := .int) (by decide) (by decide))))
  have fa19 := (((((P6.other W1 (Or.inr (slot_ne (Or.inl (hw _ (List.mem_of_getElem? (i := 40) rfl))) (Or.inl (hw _ (List.mem_of_getElem? (i := 61) rfl))) (by decide) (t := (.array (.object "java/lang/String"))) (t' := (.object "java/lang/String")) (by decide) (by decide)))).other W4 (Or.inr (slot_ne (Or.inl (hw _ (List.mem_of_getElem? (i := 40) rfl))) (Or.inl (hw _ (List.mem_of_getElem? (i := 63) rfl))) (by decide) (t := (.array (.object "java/lang/String"))) (t' := .boolean) (by decide) (by decide)))).other W7 (Or.inr (slot_ne (Or.inl (hw _ (List.mem_of_getElem? (i := 40) rfl))) (Or.inl (hw _ (List.mem_of_getElem? (i := 65) rfl))) (by decide) (t := (.array (.object "java/lang/String"))) (t' := (.array .char)) (by decide) (by decide)))).other W10 (Or.inr (slot_ne (Or.inl (hw _ (List.mem_of_getElem? (i := 40) rfl))) (Or.inl (hw _ (List.mem_of_getElem? (i := 67) rfl))) (by decide) (t := (.array (.object "java/lang/String"))) (t' := (.array .char)) (by decide) (by decide)))).other W13 (Or.inr (slot_ne (Or.inl (hw _ (List.mem_of_getElem? (i := 40) rfl))) (Or.inl (hw _ (List.mem_of_getElem? (i := 69) rfl))) (by decide) (t := (.array (.object "java/lang/String"))) (t' := .int) (by decide) (by decide))))
  have fa20 := (((((P7.other W1 (Or.inr (slot_ne (Or.inl (hw _ (List.mem_of_getElem? (i := 43) rfl))) (Or.inl (hw _ (List.mem_of_getElem? (i := 61) rfl))) (by decide) (t := (.array .boolean)) (t' := (.object "java/lang/String")) (by decide) (by decide)))).other W4 (Or.inr (slot_ne (Or.inl (hw _ (List.mem_of_getElem? (i := 43) rfl))) (Or.inl (hw _ (List.mem_of_getElem? (i := 63) rfl))) (by decide) (t := (.array .boolean)) (t' := .boolean) (by decide) (by decide)))).other W7 (Or.inr (slot_ne (Or.inl (hw _ (List.mem_of_getElem? (i := 43) rfl))) (Or.inl (hw _ (List.mem_of_getElem? (i := 65) rfl))) (by decide) (t := (.array .boolean)) (t' := (.array .char)) (by decide) (by decide)))).other W10 (Or.inr (slot_ne (Or.inl (hw _ (List.mem_of_getElem? (i := 43) rfl))) (Or.inl (hw _ (List.mem_of_getElem? (i := 67) rfl))) (by decide) (t := (.array .boolean)) (t' := (.array .char)) (by decide) (by decide)))).other W13 (Or.inr (slot_ne (Or.inl (hw _ (List.mem_of_getElem? (i := 43) rfl))) (Or.inl (hw _ (List.mem_of_getElem? (i := 69) rfl))) (by decide) (t := (.array .boolean)) (t' := .int) (by decide) (by decide))))
  have fa21 := (((((P8.other W1 (Or.inr (slot_ne (Or.inl (hw _ (List.mem_of_getElem? (i := 47) rfl))) (Or.inl (hw _ (List.mem_of_getElem? (i := 61) rfl))) (by decide) (t := (.array (.array .char))) (t' := (.object "java/lang/String")) (by decide) (by decide)))).other W4 (Or.inr (slot_ne (Or.inl (hw _ (List.mem_of_getElem? (i := 47) rfl))) (Or.inl (hw _ (List.mem_of_getElem? (i := 63) rfl))) (by decide) (t := (.array (.array .char))) (t' := .boolean) (by decide) (by decide)))).other W7 (Or.inr (slot_ne (Or.inl (hw _ (List.mem_of_getElem? (i := 47) rfl))) (Or.inl (hw _ (List.mem_of_getElem? (i := 65) rfl))) (by decide) (t := (.array (.array .char))) (t' := (.array .char)) (by decide) (by decide)))).other W10 (Or.inr (slot_ne (Or.inl (hw _ (List.mem_of_getElem? (i := 47) rfl))) (Or.inl (hw _ (List.mem_of_getElem? (i := 67) rfl))) (by decide) (t := (.array (.array .char))) (t' := (.array .char)) (by decide) (by decide)))).other W13 (Or.inr (slot_ne (Or.inl (hw _ (List.mem_of_getElem? (i := 47) rfl))) (Or.inl (hw _ (List.mem_of_getElem? (i := 69) rfl))) (by decide) (t := (.array (.array .char))) (t' := .int) (by decide) (by decide))))
  have fa22 := (((((P9.other W1 (Or.inr (slot_ne (Or.inl (hw _ (List.mem_of_getElem? (i := 50) rfl))) (Or.inl (hw _ (List.mem_of_getElem? (i := 61) rfl))) (by decide) (t := (.array .int)) (t' := (.object "java/lang/String")) (by decide) (by decide)))).other W4 (Or.inr (slot_ne (Or.inl (hw _ (List.mem_of_getElem? (i := 50) rfl))) (Or.inl (hw _ (List.mem_of_getElem? (i := 63) rfl))) (by decide) (t := (.array .int)) (t' := .boolean) (by decide) (by decide)))).other W7 (Or.inr (slot_ne (Or.inl (hw _ (List.mem_of_getElem? (i := 50) rfl))) (Or.inl (hw _ (List.mem_of_getElem? (i := 65) rfl))) (by decide) (t := (.array .int)) (t' := (.array .char)) (by decide) (by decide)))).other W10 (Or.inr (slot_ne (Or.inl (hw _ (List.mem_of_getElem? (i := 50) rfl))) (Or.inl (hw _ (List.mem_of_getElem? (i := 67) rfl))) (by decide) (t := (.array .int)) (t' := (.array .char)) (by decide) (by decide)))).other W13 (Or.inr (slot_ne (Or.inl (hw _ (List.mem_of_getElem? (i := 50) rfl))) (Or.inl (hw _ (List.mem_of_getElem? (i := 69) rfl))) (by decide) (t := (.array .int)) (t' := .int) (by decide) (by decide))))
  have fa23 := (((((P10.other W1 (Or.inr (slot_ne (Or.inl (hw _ (List.mem_of_getElem? (i := 52) rfl))) (Or.inl (hw _ (List.mem_of_getElem? (i := 61) rfl))) (by decide) (t := (.array .int)) (t' := (.object "java/lang/String")) (by decide) (by decide)))).other W4 (Or.inr (slot_ne (Or.inl (hw _ (List.mem_of_getElem? (i := 52) rfl))) (Or.inl (hw _ (List.mem_of_getElem? (i := 63) rfl))) (by decide) (t := (.array .int)) (t' := .boolean) (by decide) (by decide)))).other W7 (Or.inr (slot_ne (Or.inl (hw _ (List.mem_of_getElem? (i := 52) rfl))) (Or.inl (hw _ (List.mem_of_getElem? (i := 65) rfl))) (by decide) (t := (.array .int)) (t' := (.array .char)) (by decide) (by decide)))).other W10 (Or.inr (slot_ne (Or.inl (hw _ (List.mem_of_getElem? (i := 52) rfl))) (Or.inl (hw _ (List.mem_of_getElem? (i := 67) rfl))) (by decide) (t := (.array .int)) (t' := (.array .char)) (by decide) (by decide)))).other W13 (Or.inr (slot_ne (Or.inl (hw _ (List.mem_of_getElem? (i := 52) rfl))) (Or.inl (hw _ (List.mem_of_getElem? (i := 69) rfl))) (by decide) (t := (.array .int)) (t' := .int) (by decide) (by decide))))
  have fa24 := (((((P11.other W1 (Or.inr (slot_ne (Or.inl (hw _ (List.mem_of_getElem? (i := 54) rfl))) (Or.inl (hw _ (List.mem_of_getElem? (i := 61) rfl))) (by decide) (t := (.array (.object "java/lang/String"))) (t' := (.object "java/lang/String")) (by decide) (by decide)))).other W4 (Or.inr (slot_ne (Or.inl (hw _ (List.mem_of_getElem? (i := 54) rfl))) (Or.inl (hw _ (List.mem_of_getElem? (i := 63) rfl))) (by decide) (t := (.array (.object "java/lang/String"))) (t' := .boolean) (by decide) (by decide)))).other W7 (Or.inr (slot_ne (Or.inl (hw _ (List.mem_of_getElem? (i := 54) rfl))) (Or.inl (hw _ (List.mem_of_getElem? (i := 65) rfl))) (by decide) (t := (.array (.object "java/lang/String"))) (t' := (.array .char)) (by decide) (by decide)))).other W10 (Or.inr (slot_ne (Or.inl (hw _ (List.mem_of_getElem? (i := 54) rfl))) (Or.inl (hw _ (List.mem_of_getElem? (i := 67) rfl))) (by decide) (t := (.array (.object "java/lang/String"))) (t' := (.array .char)) (by decide) (by decide)))).other W13 (Or.inr (slot_ne (Or.inl (hw _ (List.mem_of_getElem? (i := 54) rfl))) (Or.inl (hw _ (List.mem_of_getElem? (i := 69) rfl))) (by decide) (t := (.array (.object "java/lang/String"))) (t' := .int) (by decide) (by decide))))
  show Q8 Z a1 a2 p3 a4 a5 u1 u2 u3 u4 u5 m1 m2 m3 m4 m5 m6 h0 n0 _ T13.heap _
  rw [e13]
  exact ⟨rfl, N13, K13, fa14, fa15, fa16, fa17, fa18, Fw13, fa19, fa20, fa21, fa22, fa23, fa24⟩

theorem d8n_0 : decode prog_105_method_2_code 0 = .ok (.aload_n 0, 1) := by decide +kernel
theorem d8n_1 : decode prog_105_method_2_code 1 = .ok (.aload_n 1, 1) := by decide +kernel
theorem d8n_2 : decode prog_105_method_2_code 2 = .ok (.putfield 35, 3) := by decide +kernel
theorem d8n_5 : decode prog_105_method_2_code 5 = .ok (.aload_n 0, 1) := by decide +kernel
theorem d8n_6 : decode prog_105_method_2_code 6 = .ok (.iload_n 2, 1) := by decide +kernel
theorem d8n_7 : decode prog_105_method_2_code 7 = .ok (.putfield 39, 3) := by decide +kernel
theorem d8n_10 : decode prog_105_method_2_code 10 = .ok (.aload_n 0, 1) := by decide +kernel
theorem d8n_11 : decode prog_105_method_2_code 11 = .ok (.aload_n 3, 1) := by decide +kernel
theorem d8n_12 : decode prog_105_method_2_code 12 = .ok (.putfield 43, 3) := by decide +kernel
theorem d8n_15 : decode prog_105_method_2_code 15 = .ok (.aload_n 0, 1) := by decide +kernel
theorem d8n_16 : decode prog_105_method_2_code 16 = .ok (.aload 4, 2) := by decide +kernel
theorem d8n_18 : decode prog_105_method_2_code 18 = .ok (.putfield 46, 3) := by decide +kernel
theorem d8n_21 : decode prog_105_method_2_code 21 = .ok (.aload_n 0, 1) := by decide +kernel
theorem d8n_22 : decode prog_105_method_2_code 22 = .ok (.iconst 0, 1) := by decide +kernel
theorem d8n_23 : decode prog_105_method_2_code 23 = .ok (.putfield 49, 3) := by decide +kernel
theorem d8n_26 : decode prog_105_method_2_code 26 = .ok (.return_, 1) := by decide +kernel
theorem pn_8n : plainName "com/example/scheherazade/scheherazade/reader/TagParts" = true := by first | (simp [plainName, overriddenIn]; done) | decide +kernel
theorem ef_8n (m : MethodId) (x0 : Addr) (x1 : Addr) (x2 : Int32) (x4 : Addr) : entryFrame m #[(.ref x0), (.ref x1), (.int x2), .null, (.ref x4)] 5 = mkF m 0 #[.val (.ref x0), .val (.ref x1), .val (.int x2), .val .null, .val (.ref x4)] [] := by first | (simp [entryFrame, mkF, argsToLocals, Value.category]; done) | rfl
def Q8n (Z : State) (a1 : Addr) (a2 : Addr) (p3 : Int32) (a5 : Addr) (u1 : Value) (u2 : Value) (u3 : Value) (u4 : Value) (u5 : Value) (m1 : Addr) (m2 : Addr) (m3 : Addr) (m4 : Addr) (m5 : Addr) (m6 : Addr) (h0 : Heap) (n0 : Nat) (v : Option Value) (h : Heap) (L : List Loc) : Prop := v = none ∧ Fr n0 L ∧ Keep h0 h [a1] ∧ Exa Z h a1 "com/example/scheherazade/scheherazade/reader/TagParts" ∧ Fld Z h a1 "com/example/scheherazade/scheherazade/reader/TagParts" "name" "Ljava/lang/String;" (.ref a2) ∧ Fld Z h a1 "com/example/scheherazade/scheherazade/reader/TagParts" "prefixed" "Z" (.int (nar .boolean p3)) ∧ Fld Z h a1 "com/example/scheherazade/scheherazade/reader/TagParts" "nameSpelling" "[C" .null ∧ Fld Z h a1 "com/example/scheherazade/scheherazade/reader/TagParts" "source" "[C" (.ref a5) ∧ Fld Z h a1 "com/example/scheherazade/scheherazade/reader/TagParts" "attributeCount" "I" (.int (0 : Int32)) ∧ Fld Z h a1 "com/example/scheherazade/scheherazade/reader/TagParts" "attributeNames" "[Ljava/lang/String;" (.ref m1) ∧ Fld Z h a1 "com/example/scheherazade/scheherazade/reader/TagParts" "attributePrefixes" "[Z" (.ref m2) ∧ Fld Z h a1 "com/example/scheherazade/scheherazade/reader/TagParts" "attributeSpellings" "[[C" (.ref m3) ∧ Fld Z h a1 "com/example/scheherazade/scheherazade/reader/TagParts" "valueStarts" "[I" (.ref m4) ∧ Fld Z h a1 "com/example/scheherazade/scheherazade/reader/TagParts" "valueLengths" "[I" (.ref m5) ∧ Fld Z h a1 "com/example/scheherazade/scheherazade/reader/TagParts" "attributeValues" "[Ljava/lang/String;" (.ref m6)
set_option maxRecDepth 65536 in
set_option maxHeartbeats 40000000 in
theorem rm8n (l : Launch) (Z : State) (a0 : Array Value) (hw : ∀ d ∈ tables_1, d.before a0 Z = true) (wds : List Jvm.Cond) (a1 : Addr) (a2 : Addr) (p3 : Int32) (a5 : Addr) (u1 : Value) (u2 : Value) (u3 : Value) (u4 : Value) (u5 : Value) (m1 : Addr) (m2 : Addr) (m3 : Addr) (m4 : Addr) (m5 : Addr) (m6 : Addr) (h0 : Heap) (n0 : Nat) (Z0 : n0 ≤ h0.size) (P0 : Exa Z h0 a1 "com/example/scheherazade/scheherazade/reader/TagParts") (P1 : Fld Z h0 a1 "com/example/scheherazade/scheherazade/reader/TagParts" "name" "Ljava/lang/String;" u1) (P2 : Fld Z h0 a1 "com/example/scheherazade/scheherazade/reader/TagParts" "prefixed" "Z" u2) (P3 : Fld Z h0 a1 "com/example/scheherazade/scheherazade/reader/TagParts" "nameSpelling" "[C" u3) (P4 : Fld Z h0 a1 "com/example/scheherazade/scheherazade/reader/TagParts" "source" "[C" u4) (P5 : Fld Z h0 a1 "com/example/scheherazade/scheherazade/reader/TagParts" "attributeCount" "I" u5) (P6 : Fld Z h0 a1 "com/example/scheherazade/scheherazade/reader/TagParts" "attributeNames" "[Ljava/lang/String;" (.ref m1)) (P7 : Fld Z h0 a1 "com/example/scheherazade/scheherazade/reader/TagParts" "attributePrefixes" "[Z" (.ref m2)) (P8 : Fld Z h0 a1 "com/example/scheherazade/scheherazade/reader/TagParts" "attributeSpellings" "[[C" (.ref m3)) (P9 : Fld Z h0 a1 "com/example/scheherazade/scheherazade/reader/TagParts" "valueStarts" "[I" (.ref m4)) (P10 : Fld Z h0 a1 "com/example/scheherazade/scheherazade/reader/TagParts" "valueLengths" "[I" (.ref m5)) (P11 : Fld Z h0 a1 "com/example/scheherazade/scheherazade/reader/TagParts" "attributeValues" "[Ljava/lang/String;" (.ref m6)) (g_a1 : n0 ≤ a1) :
    MetFree l (⟨"com/example/scheherazade/scheherazade/reader/TagParts", "start", "(Ljava/lang/String;Z[C[C)V"⟩ : MethodName) (head1 (Jvm.Cond.code (⟨"com/example/scheherazade/scheherazade/reader/TagParts", "start", "(Ljava/lang/String;Z[C[C)V"⟩ : MethodName) prog_105_method_2_code 5 none :: wds) ({ frames := 0, cells := 0, slots := 0, locals := 0 } : Room)) (fun a U => a = #[(.ref a1), (.ref a2), (.int p3), .null, (.ref a5)] ∧ Z.Warmed39 U.vm ∧ U.heap = h0) (fun _ _ _ _ _ => True) (fun _ U o U' => ∃ v L, o = .returned v ∧ Q8n Z a1 a2 p3 a5 u1 u2 u3 u4 u5 m1 m2 m3 m4 m5 m6 h0 n0 v U'.heap L ∧ FrameEnd U o U' L ({ frames := 0, cells := 0, slots := 0, locals := 0 } : Room).cells ({ frames := 0, cells := 0, slots := 0, locals := 0 } : Room).slots) := by
  refine MetFree.of_bodySF (plainFor_of_name pn_8n) hisR ?_
  intro p e s m args below meth c s₁ Bd hml0 hP hK
  obtain ⟨rfl, hZ, hh⟩ := hP
  have hx := Bd.exec
  have hby := Bd.bytes
  have hml : c.maxLocals = 5 := hml0
  have hown : s.vm.findClass "com/example/scheherazade/scheherazade/reader/TagParts" = some m.cls := findClass_of_methodNamed Bd.named
  have hnm := (name_of_methodNamed Bd.named Bd.method).1
  have X0 : Stand p l e ({ frames := 0, cells := 0, slots := 0, locals := 0 } : Room) s m #[(.ref a1), (.ref a2), (.int p3), .null, (.ref a5)] below meth c s₁ [] 0 0 := Stand.of_body Bd
  have e0 : s₁.heap = h0 := by rw [← hh, Bd.state]; rfl
  have N0 := Fr.nil n0
  refine own_start (Q := Q8n Z a1 a2 p3 a5 u1 u2 u3 u4 u5 m1 m2 m3 m4 m5 m6 h0 n0) (C := ({ frames := 0, cells := 0, slots := 0, locals := 0 } : Room).cells) (S := ({ frames := 0, cells := 0, slots := 0, locals := 0 } : Room).slots) ?_
  rw [ef_8n m a1 a2 p3 a5]
  have K0 : Keep h0 h0 [a1] := Keep.refl h0 [a1]
  refine Gen.on (b := s₁.setTop (mkF m 1 #[.val (.ref a1), .val (.ref a2), .val (.int p3), .val .null, .val (.ref a5)] [(.ref a1)])) ?_ (fun t k => XS.aloadN X0.here hx rfl (hb hby d8n_0) rfl rfl k)
  refine Gen.on (b := s₁.setTop (mkF m 2 #[.val (.ref a1), .val (.ref a2), .val (.int p3), .val .null, .val (.ref a5)] [(.ref a2), (.ref a1)])) ?_ (fun t k => XS.aloadN X0.here hx rfl (hb hby d8n_1) rfl rfl k)
  obtain ⟨T1, h1, X1, e1, W1, st1⟩ := putF X0 hx hZ hown (host := "") (Or.inl (hw _ (List.mem_of_getElem? (i := 60) rfl))) Via.refl e0 P1 P0 (Or.inl (hw _ (List.mem_of_getElem? (i := 61) rfl))) (hw _ (List.mem_of_getElem? (i := 31) rfl)) (ty := (.object "java/lang/String")) (by decide) rfl rfl (g := (mkF m 2 #[.val (.ref a1), .val (.ref a2), .val (.int p3), .val .null, .val (.ref a5)] [(.ref a2), (.ref a1)])) rfl rfl (hb hby d8n_2)
  have Fw1 := P1.same W1
  have Z1 : n0 ≤ h1.size := Nat.le_trans Z0 (Keep.of_wr W1).1
  have K1 : Keep h0 h1 [a1] := K0.wr W1 (Or.inl (List.mem_of_getElem? (i := 0) rfl))
  have N1 := Fr.snoc X1 N0 g_a1
  refine Gen.on (b := T1.setTop (mkF m 5 #[.val (.ref a1), .val (.ref a2), .val (.int p3), .val .null, .val (.ref a5)] [])) ?_ (fun t k => st1 t k)
  refine Gen.on (b := T1.setTop (mkF m 6 #[.val (.ref a1), .val (.ref a2), .val (.int p3), .val .null, .val (.ref a5)] [(.ref a1)])) ?_ (fun t k => XS.aloadN X1.here hx rfl (hb hby d8n_5) rfl rfl k)
  refine Gen.on (b := T1.setTop (mkF m 7 #[.val (.ref a1), .val (.ref a2), .val (.int p3), .val .null, .val (.ref a5)] [(.int p3), (.ref a1)])) ?_ (fun t k => XS.iloadN X1.here hx rfl (hb hby d8n_6) rfl k)
  have fa2 := (P2.other W1 (Or.inr (slot_ne (Or.inl (hw _ (List.mem_of_getElem? (i := 63) rfl))) (Or.inl (hw _ (List.mem_of_getElem? (i := 61) rfl))) (by decide) (t := .boolean) (t' := (.object "java/lang/String")) (by decide) (by decide))))
  have fa3 := (P0.wr W1)
  obtain ⟨T4, h4, X4, e4, W4, st4⟩ := putFN X1 hx hZ hown (hw _ (List.mem_of_getElem? (i := 62) rfl)) Via.refl e1 fa2 fa3 (Or.inl (hw _ (List.mem_of_getElem? (i := 63) rfl))) (hw _ (List.mem_of_getElem? (i := 31) rfl)) (ty := .boolean) (v' := (.int (nar .boolean p3))) (by decide) rfl (fits_nar_bool _) (g := (mkF m 7 #[.val (.ref a1), .val (.ref a2), .val (.int p3), .val .null, .val (.ref a5)] [(.int p3), (.ref a1)])) rfl rfl (hb hby d8n_7)
  have Fw4 := fa2.same W4
  have Z4 : n0 ≤ h4.size := Nat.le_trans Z1 (Keep.of_wr W4).1
  have K4 : Keep h0 h4 [a1] := K1.wr W4 (Or.inl (List.mem_of_getElem? (i := 0) rfl))
  have N4 := Fr.snoc X4 N1 g_a1
  refine Gen.on (b := T4.setTop (mkF m 10 #[.val (.ref a1), .val (.ref a2), .val (.int p3), .val .null, .val (.ref a5)] [])) ?_ (fun t k => st4 t k)
  refine Gen.on (b := T4.setTop (mkF m 11 #[.val (.ref a1), .val (.ref a2), .val (.int p3), .val .null, .val (.ref a5)] [(.ref a1)])) ?_ (fun t k => XS.aloadN X4.here hx rfl (hb hby d8n_10) rfl rfl k)
  refine Gen.on (b := T4.setTop (mkF m 12 #[.val (.ref a1), .val (.ref a2), .val (.int p3), .val .null, .val (.ref a5)] [.null, (.ref a1)])) ?_ (fun t k => XS.aloadN X4.here hx rfl (hb hby d8n_11) rfl rfl k)
  have fa5 := ((P3.other W1 (Or.inr (slot_ne (Or.inl (hw _ (List.mem_of_getElem? (i := 65) rfl))) (Or.inl (hw _ (List.mem_of_getElem? (i := 61) rfl))) (by decide) (t := (.array .char)) (t' := (.object "java/lang/String")) (by decide) (by decide)))).other W4 (Or.inr (slot_ne (Or.inl (hw _ (List.mem_of_getElem? (i := 65) rfl))) (Or.inl (hw _ (List.mem_of_getElem? (i := 63) rfl))) (by decide) (t := (.array .char)) (t' := .boolean) (by decide) (by decide))))
  have fa6 := (fa3.wr W4)
  obtain ⟨T7, h7, X7, e7, W7, st7⟩ := putF X4 hx hZ hown (host := "") (Or.inl (hw _ (List.mem_of_getElem? (i := 64) rfl))) Via.refl e4 fa5 fa6 (Or.inl (hw _ (List.mem_of_getElem? (i := 65) rfl))) (hw _ (List.mem_of_getElem? (i := 31) rfl)) (ty := (.array .char)) (by decide) rfl rfl (g := (mkF m 12 #[.val (.ref a1), .val (.ref a2), .val (.int p3), .val .null, .val (.ref a5)] [.null, (.ref a1)])) rfl rfl (hb hby d8n_12)
  have Fw7 := fa5.same W7
  have Z7 : n0 ≤ h7.size := Nat.le_trans Z4 (Keep.of_wr W7).1
  have K7 : Keep h0 h7 [a1] := K4.wr W7 (Or.inl (List.mem_of_getElem? (i := 0) rfl))
  have N7 := Fr.snoc X7 N4 g_a1
  refine Gen.on (b := T7.setTop (mkF m 15 #[.val (.ref a1), .val (.ref a2), .val (.int p3), .val .null, .val (.ref a5)] [])) ?_ (fun t k => st7 t k)
  refine Gen.on (b := T7.setTop (mkF m 16 #[.val (.ref a1), .val (.ref a2), .val (.int p3), .val .null, .val (.ref a5)] [(.ref a1)])) ?_ (fun t k => XS.aloadN X7.here hx rfl (hb hby d8n_15) rfl rfl k)
  refine Gen.on (b := T7.setTop (mkF m 18 #[.val (.ref a1), .val (.ref a2), .val (.int p3), .val .null, .val (.ref a5)] [(.ref a5), (.ref a1)])) ?_ (fun t k => XS.aload X7.here hx rfl (hb hby d8n_16) rfl rfl k)
  have fa8 := (((P4.other W1 (Or.inr (slot_ne (Or.inl (hw _ (List.mem_of_getElem? (i := 67) rfl))) (Or.inl (hw _ (List.mem_of_getElem? (i := 61) rfl))) (by decide) (t := (.array .char)) (t' := (.object "java/lang/String")) (by decide) (by decide)))).other W4 (Or.inr (slot_ne (Or.inl (hw _ (List.mem_of_getElem? (i := 67) rfl))) (Or.inl (hw _ (List.mem_of_getElem? (i := 63) rfl))) (by decide) (t := (.array .char)) (t' := .boolean) (by decide) (by decide)))).other W7 (Or.inr (slot_ne (Or.inl (hw _ (List.mem_of_getElem? (i := 67) rfl))) (Or.inl (hw _ (List.mem_of_getElem? (i := 65) rfl))) (by decide) (t := (.array .char)) (t' := (.array .char)) (by decide) (by decide))))
  have fa9 := (fa6.wr W7)
  obtain ⟨T10, h10, X10, e10, W10, st10⟩ := putF X7 hx hZ hown (host := "") (Or.inl (hw _ (List.mem_of_getElem? (i := 66) rfl))) Via.refl e7 fa8 fa9 (Or.inl (hw _ (List.mem_of_getElem? (i := 67) rfl))) (hw _ (List.mem_of_getElem? (i := 31) rfl)) (ty := (.array .char)) (by decide) rfl rfl (g := (mkF m 18 #[.val (.ref a1), .val (.ref a2), .val (.int p3), .val .null, .val (.ref a5)] [(.ref a5), (.ref a1)])) rfl rfl (hb hby d8n_18)
  have Fw10 := fa8.same W10
  have Z10 : n0 ≤ h10.size := Nat.le_trans Z7 (Keep.of_wr W10).1
  have K10 : Keep h0 h10 [a1] := K7.wr W10 (Or.inl (List.mem_of_getElem? (i := 0) rfl))
  have N10 := Fr.snoc X10 N7 g_a1
  refine Gen.on (b := T10.setTop (mkF m 21 #[.val (.ref a1), .val (.ref a2), .val (.int p3), .val .null, .val (.ref a5)] [])) ?_ (fun t k => st10 t k)
  refine Gen.on (b := T10.setTop (mkF m 22 #[.val (.ref a1), .val (.ref a2), .val (.int p3), .val .null, .val (.ref a5)] [(.ref a1)])) ?_ (fun t k => XS.aloadN X10.here hx rfl (hb hby d8n_21) rfl rfl k)
  refine Gen.on (b := T10.setTop (mkF m 23 #[.val (.ref a1), .val (.ref a2), .val (.int p3), .val .null, .val (.ref a5)] [(.int (0 : Int32)), (.ref a1)])) ?_ (fun t k => XS.iconst X10.here hx rfl (hb hby d8n_22) k)
  have fa11 := ((((P5.other W1 (Or.inr (slot_ne (Or.inl (hw _ (List.mem_of_getElem? (i := 69) rfl))) (Or.inl (hw _ (List.mem_of_getElem? (i := 61) rfl))) (by decide) (t := .int) (t' := (.object "java/lang/String")) (by decide) (by decide)))).other W4 (Or.inr (slot_ne (Or.inl (hw _ (List.mem_of_getElem? (i := 69) rfl))) (Or.inl (hw _ (List.mem_of_getElem? (i := 63) rfl))) (by decide) (t := .int) (t' := .boolean) (by decide) (by decide)))).other W7 (Or.inr (slot_ne (Or.inl (hw _ (List.mem_of_getElem? (i := 69) rfl))) (Or.inl (hw _ (List.mem_of_getElem? (i := 65) rfl))) (by decide) (t := .int) (t' := (.array .char)) (by decide) (by decide)))).other W10 (Or.inr (slot_ne (Or.inl (hw _ (List.mem_of_getElem? (i := 69) rfl))) (Or.inl (hw _ (List.mem_of_getElem? (i := 67) rfl))) (by decide) (t := .int) (t' := (.array .char)) (by decide) (by decide))))
  have fa12 := (fa9.wr W10)
  obtain ⟨T13, h13, X13, e13, W13, st13⟩ := putF X10 hx hZ hown (host := "") (Or.inl (hw _ (List.mem_of_getElem? (i := 68) rfl))) Via.refl e10 fa11 fa12 (Or.inl (hw _ (List.mem_of_getElem? (i := 69) rfl))) (hw _ (List.mem_of_getElem? (i := 31) rfl)) (ty := .int) (by decide) rfl rfl (g := (mkF m 23 #[.val (.ref a1), .val (.ref a2), .val (.int p3), .val .null, .val (.ref a5)] [(.int (0 : Int32)), (.ref a1)])) rfl rfl (hb hby d8n_23)
  have Fw13 := fa11.same W13
  have Z13 : n0 ≤ h13.size := Nat.le_trans Z10 (Keep.of_wr W13).1
  have K13 : Keep h0 h13 [a1] := K10.wr W13 (Or.inl (List.mem_of_getElem? (i := 0) rfl))
  have N13 := Fr.snoc X13 N10 g_a1
  refine Gen.on (b := T13.setTop (mkF m 26 #[.val (.ref a1), .val (.ref a2), .val (.int p3), .val .null, .val (.ref a5)] [])) ?_ (fun t k => st13 t k)
  refine own_ret0 X13 hx Bd.returns (hb hby d8n_26) (by decide) (by decide) ?_
  have fa14 := (fa12.wr W13)
  have fa15 := ((((Fw1.other W4 (Or.inr (slot_ne (Or.inl (hw _ (List.mem_of_getElem? (i := 61) rfl))) (Or.inl (hw _ (List.mem_of_getElem? (i := 63) rfl))) (by decide) (t := (.object "java/lang/String")) (t' := .boolean) (by decide) (by decide)))).other W7 (Or.inr (slot_ne (Or.inl (hw _ (List.mem_of_getElem? (i := 61) rfl))) (Or.inl (hw _ (List.mem_of_getElem? (i := 65) rfl))) (by decide) (t := (.object "java/lang/String")) (t' := (.array .char)) (by decide) (by decide)))).other W10 (Or.inr (slot_ne (Or.inl (hw _ (List.mem_of_getElem? (i := 61) rfl))) (Or.inl (hw _ (List.mem_of_getElem? (i := 67) rfl))) (by decide) (t := (.object "java/lang/String")) (t' := (.array .char)) (by decide) (by decide)))).other W13 (Or.inr (slot_ne (Or.inl (hw _ (List.mem_of_getElem? (i := 61) rfl))) (Or.inl (hw _ (List.mem_of_getElem? (i := 69) rfl))) (by decide) (t := (.object "java/lang/String")) (t' := .int) (by decide) (by decide))))
  have fa16 := (((Fw4.other W7 (Or.inr (slot_ne (Or.inl (hw _ (List.mem_of_getElem? (i := 63) rfl))) (Or.inl (hw _ (List.mem_of_getElem? (i := 65) rfl))) (by decide) (t := .boolean) (t' := (.array .char)) (by decide) (by decide)))).other W10 (Or.inr (slot_ne (Or.inl (hw _ (List.mem_of_getElem? (i := 63) rfl))) (Or.inl (hw _ (List.mem_of_getElem? (i := 67) rfl))) (by decide) (t := .boolean) (t' := (.array .char)) (by decide) (by decide)))).other W13 (Or.inr (slot_ne (Or.inl (hw _ (List.mem_of_getElem? (i := 63) rfl))) (Or.inl (hw _ (List.mem_of_getElem? (i := 69) rfl))) (by decide) (t := .boolean) (t' := .int) (by decide) (by decide))))
  have fa17 := ((Fw7.other W10 (Or.inr (slot_ne (Or.inl (hw _ (List.mem_of_getElem? (i := 65) rfl))) (Or.inl (hw _ (List.mem_of_getElem? (i := 67) rfl))) (by decide) (t := (.array .char)) (t' := (.array .char)) (by decide) (by decide)))).other W13 (Or.inr (slot_ne (Or.inl (hw _ (List.mem_of_getElem? (i := 65) rfl))) (Or.inl (hw _ (List.mem_of_getElem? (i := 69) rfl))) (by decide) (t := (.array .char)) (t' := .int) (by decide) (by decide))))
  have fa18 := (Fw10.other W13 (Or.inr (slot_ne (Or.inl (hw _ (List.mem_of_getElem? (i := 67) rfl))) (Or.inl (hw _ (List.mem_of_getElem? (i := 69) rfl))) (by decide) (t := (.array .char)) (t' := .int) (by decide) (by decide))))
  have fa19 := (((((P6.other W1 (Or.inr (slot_ne (Or.inl (hw _ (List.mem_of_getElem? (i := 40) rfl))) (Or.inl (hw _ (List.mem_of_getElem? (i := 61) rfl))) (by decide) (t := (.array (.object "java/lang/String"))) (t' := (.object "java/lang/String")) (by decide) (by decide)))).other W4 (Or.inr (slot_ne (Or.inl (hw _ (List.mem_of_getElem? (i := 40) rfl))) (Or.inl (hw _ (List.mem_of_getElem? (i := 63) rfl))) (by decide) (t := (.array (.object "java/lang/String"))) (t' := .boolean) (by decide) (by decide)))).other W7 (Or.inr (slot_ne (Or.inl (hw _ (List.mem_of_getElem? (i := 40) rfl))) (Or.inl (hw _ (List.mem_of_getElem? (i := 65) rfl))) (by decide) (t := (.array (.object "java/lang/String"))) (t' := (.array .char)) (by decide) (by decide)))).other W10 (Or.inr (slot_ne (Or.inl (hw _ (List.mem_of_getElem? (i := 40) rfl))) (Or.inl (hw _ (List.mem_of_getElem? (i := 67) rfl))) (by decide) (t := (.array (.object "java/lang/String"))) (t' := (.array .char)) (by decide) (by decide)))).other W13 (Or.inr (slot_ne (Or.inl (hw _ (List.mem_of_getElem? (i := 40) rfl))) (Or.inl (hw _ (List.mem_of_getElem? (i := 69) rfl))) (by decide) (t := (.array (.object "java/lang/String"))) (t' := .int) (by decide) (by decide))))
  have fa20 := (((((P7.other W1 (Or.inr (slot_ne (Or.inl (hw _ (List.mem_of_getElem? (i := 43) rfl))) (Or.inl (hw _ (List.mem_of_getElem? (i := 61) rfl))) (by decide) (t := (.array .boolean)) (t' := (.object "java/lang/String")) (by decide) (by decide)))).other W4 (Or.inr (slot_ne (Or.inl (hw _ (List.mem_of_getElem? (i := 43) rfl))) (Or.inl (hw _ (List.mem_of_getElem? (i := 63) rfl))) (by decide) (t := (.array .boolean)) (t' := .boolean) (by decide) (by decide)))).other W7 (Or.inr (slot_ne (Or.inl (hw _ (List.mem_of_getElem? (i := 43) rfl))) (Or.inl (hw _ (List.mem_of_getElem? (i := 65) rfl))) (by decide) (t := (.array .boolean)) (t' := (.array .char)) (by decide) (by decide)))).other W10 (Or.inr (slot_ne (Or.inl (hw _ (List.mem_of_getElem? (i := 43) rfl))) (Or.inl (hw _ (List.mem_of_getElem? (i := 67) rfl))) (by decide) (t := (.array .boolean)) (t' := (.array .char)) (by decide) (by decide)))).other W13 (Or.inr (slot_ne (Or.inl (hw _ (List.mem_of_getElem? (i := 43) rfl))) (Or.inl (hw _ (List.mem_of_getElem? (i := 69) rfl))) (by decide) (t := (.array .boolean)) (t' := .int) (by decide) (by decide))))
  have fa21 := (((((P8.other W1 (Or.inr (slot_ne (Or.inl (hw _ (List.mem_of_getElem? (i := 47) rfl))) (Or.inl (hw _ (List.mem_of_getElem? (i := 61) rfl))) (by decide) (t := (.array (.array .char))) (t' := (.object "java/lang/String")) (by decide) (by decide)))).other W4 (Or.inr (slot_ne (Or.inl (hw _ (List.mem_of_getElem? (i := 47) rfl))) (Or.inl (hw _ (List.mem_of_getElem? (i := 63) rfl))) (by decide) (t := (.array (.array .char))) (t' := .boolean) (by decide) (by decide)))).other W7 (Or.inr (slot_ne (Or.inl (hw _ (List.mem_of_getElem? (i := 47) rfl))) (Or.inl (hw _ (List.mem_of_getElem? (i := 65) rfl))) (by decide) (t := (.array (.array .char))) (t' := (.array .char)) (by decide) (by decide)))).other W10 (Or.inr (slot_ne (Or.inl (hw _ (List.mem_of_getElem? (i := 47) rfl))) (Or.inl (hw _ (List.mem_of_getElem? (i := 67) rfl))) (by decide) (t := (.array (.array .char))) (t' := (.array .char)) (by decide) (by decide)))).other W13 (Or.inr (slot_ne (Or.inl (hw _ (List.mem_of_getElem? (i := 47) rfl))) (Or.inl (hw _ (List.mem_of_getElem? (i := 69) rfl))) (by decide) (t := (.array (.array .char))) (t' := .int) (by decide) (by decide))))
  have fa22 := (((((P9.other W1 (Or.inr (slot_ne (Or.inl (hw _ (List.mem_of_getElem? (i := 50) rfl))) (Or.inl (hw _ (List.mem_of_getElem? (i := 61) rfl))) (by decide) (t := (.array .int)) (t' := (.object "java/lang/String")) (by decide) (by decide)))).other W4 (Or.inr (slot_ne (Or.inl (hw _ (List.mem_of_getElem? (i := 50) rfl))) (Or.inl (hw _ (List.mem_of_getElem? (i := 63) rfl))) (by decide) (t := (.array .int)) (t' := .boolean) (by decide) (by decide)))).other W7 (Or.inr (slot_ne (Or.inl (hw _ (List.mem_of_getElem? (i := 50) rfl))) (Or.inl (hw _ (List.mem_of_getElem? (i := 65) rfl))) (by decide) (t := (.array .int)) (t' := (.array .char)) (by decide) (by decide)))).other W10 (Or.inr (slot_ne (Or.inl (hw _ (List.mem_of_getElem? (i := 50) rfl))) (Or.inl (hw _ (List.mem_of_getElem? (i := 67) rfl))) (by decide) (t := (.array .int)) (t' := (.array .char)) (by decide) (by decide)))).other W13 (Or.inr (slot_ne (Or.inl (hw _ (List.mem_of_getElem? (i := 50) rfl))) (Or.inl (hw _ (List.mem_of_getElem? (i := 69) rfl))) (by decide) (t := (.array .int)) (t' := .int) (by decide) (by decide))))
  have fa23 := (((((P10.other W1 (Or.inr (slot_ne (Or.inl (hw _ (List.mem_of_getElem? (i := 52) rfl))) (Or.inl (hw _ (List.mem_of_getElem? (i := 61) rfl))) (by decide) (t := (.array .int)) (t' := (.object "java/lang/String")) (by decide) (by decide)))).other W4 (Or.inr (slot_ne (Or.inl (hw _ (List.mem_of_getElem? (i := 52) rfl))) (Or.inl (hw _ (List.mem_of_getElem? (i := 63) rfl))) (by decide) (t := (.array .int)) (t' := .boolean) (by decide) (by decide)))).other W7 (Or.inr (slot_ne (Or.inl (hw _ (List.mem_of_getElem? (i := 52) rfl))) (Or.inl (hw _ (List.mem_of_getElem? (i := 65) rfl))) (by decide) (t := (.array .int)) (t' := (.array .char)) (by decide) (by decide)))).other W10 (Or.inr (slot_ne (Or.inl (hw _ (List.mem_of_getElem? (i := 52) rfl))) (Or.inl (hw _ (List.mem_of_getElem? (i := 67) rfl))) (by decide) (t := (.array .int)) (t' := (.array .char)) (by decide) (by decide)))).other W13 (Or.inr (slot_ne (Or.inl (hw _ (List.mem_of_getElem? (i := 52) rfl))) (Or.inl (hw _ (List.mem_of_getElem? (i := 69) rfl))) (by decide) (t := (.array .int)) (t' := .int) (by decide) (by decide))))
  have fa24 := (((((P11.other W1 (Or.inr (slot_ne (Or.inl (hw _ (List.mem_of_getElem? (i := 54) rfl))) (Or.inl (hw _ (List.mem_of_getElem? (i := 61) rfl))) (by decide) (t := (.array (.object "java/lang/String"))) (t' := (.object "java/lang/String")) (by decide) (by decide)))).other W4 (Or.inr (slot_ne (Or.inl (hw _ (List.mem_of_getElem? (i := 54) rfl))) (Or.inl (hw _ (List.mem_of_getElem? (i := 63) rfl))) (by decide) (t := (.array (.object "java/lang/String"))) (t' := .boolean) (by decide) (by decide)))).other W7 (Or.inr (slot_ne (Or.inl (hw _ (List.mem_of_getElem? (i := 54) rfl))) (Or.inl (hw _ (List.mem_of_getElem? (i := 65) rfl))) (by decide) (t := (.array (.object "java/lang/String"))) (t' := (.array .char)) (by decide) (by decide)))).other W10 (Or.inr (slot_ne (Or.inl (hw _ (List.mem_of_getElem? (i := 54) rfl))) (Or.inl (hw _ (List.mem_of_getElem? (i := 67) rfl))) (by decide) (t := (.array (.object "java/lang/String"))) (t' := (.array .char)) (by decide) (by decide)))).other W13 (Or.inr (slot_ne (Or.inl (hw _ (List.mem_of_getElem? (i := 54) rfl))) (Or.inl (hw _ (List.mem_of_getElem? (i := 69) rfl))) (by decide) (t := (.array (.object "java/lang/String"))) (t' := .int) (by decide) (by decide))))
  show Q8n Z a1 a2 p3 a5 u1 u2 u3 u4 u5 m1 m2 m3 m4 m5 m6 h0 n0 _ T13.heap _
  rw [e13]
  exact ⟨rfl, N13, K13, fa14, fa15, fa16, fa17, fa18, Fw13, fa19, fa20, fa21, fa22, fa23, fa24⟩

theorem d9_0 : decode prog_105_method_3_code 0 = .ok (.aload_n 0, 1) := by decide +kernel
theorem d9_1 : decode prog_105_method_3_code 1 = .ok (.getfield 49, 3) := by decide +kernel
theorem d9_4 : decode prog_105_method_3_code 4 = .ok (.aload_n 0, 1) := by decide +kernel
theorem d9_5 : decode prog_105_method_3_code 5 = .ok (.getfield 11, 3) := by decide +kernel
theorem d9_8 : decode prog_105_method_3_code 8 = .ok (.arraylength, 1) := by decide +kernel
theorem d9_9 : decode prog_105_method_3_code 9 = .ok (.if_icmp .ne 98, 3) := by decide +kernel
theorem d9_107 : decode prog_105_method_3_code 107 = .ok (.aload_n 0, 1) := by decide +kernel
theorem d9_108 : decode prog_105_method_3_code 108 = .ok (.getfield 11, 3) := by decide +kernel
theorem d9_111 : decode prog_105_method_3_code 111 = .ok (.aload_n 0, 1) := by decide +kernel
theorem d9_112 : decode prog_105_method_3_code 112 = .ok (.getfield 49, 3) := by decide +kernel
theorem d9_115 : decode prog_105_method_3_code 115 = .ok (.aload_n 1, 1) := by decide +kernel
theorem d9_116 : decode prog_105_method_3_code 116 = .ok (.aastore, 1) := by decide +kernel
theorem d9_117 : decode prog_105_method_3_code 117 = .ok (.aload_n 0, 1) := by decide +kernel
theorem d9_118 : decode prog_105_method_3_code 118 = .ok (.getfield 15, 3) := by decide +kernel
theorem d9_121 : decode prog_105_method_3_code 121 = .ok (.aload_n 0, 1) := by decide +kernel
theorem d9_122 : decode prog_105_method_3_code 122 = .ok (.getfield 49, 3) := by decide +kernel
theorem d9_125 : decode prog_105_method_3_code 125 = .ok (.iload_n 2, 1) := by decide +kernel
theorem d9_126 : decode prog_105_method_3_code 126 = .ok (.bastore, 1) := by decide +kernel
theorem d9_127 : decode prog_105_method_3_code 127 = .ok (.aload_n 0, 1) := by decide +kernel
theorem d9_128 : decode prog_105_method_3_code 128 = .ok (.getfield 21, 3) := by decide +kernel
theorem d9_131 : decode prog_105_method_3_code 131 = .ok (.aload_n 0, 1) := by decide +kernel
theorem d9_132 : decode prog_105_method_3_code 132 = .ok (.getfield 49, 3) := by decide +kernel
theorem d9_135 : decode prog_105_method_3_code 135 = .ok (.aload_n 3, 1) := by decide +kernel
theorem d9_136 : decode prog_105_method_3_code 136 = .ok (.aastore, 1) := by decide +kernel
theorem d9_137 : decode prog_105_method_3_code 137 = .ok (.aload_n 0, 1) := by decide +kernel
theorem d9_138 : decode prog_105_method_3_code 138 = .ok (.getfield 25, 3) := by decide +kernel
theorem d9_141 : decode prog_105_method_3_code 141 = .ok (.aload_n 0, 1) := by decide +kernel
theorem d9_142 : decode prog_105_method_3_code 142 = .ok (.getfield 49, 3) := by decide +kernel
theorem d9_145 : decode prog_105_method_3_code 145 = .ok (.iload 4, 2) := by decide +kernel
theorem d9_147 : decode prog_105_method_3_code 147 = .ok (.iastore, 1) := by decide +kernel
theorem d9_148 : decode prog_105_method_3_code 148 = .ok (.aload_n 0, 1) := by decide +kernel
theorem d9_149 : decode prog_105_method_3_code 149 = .ok (.getfield 29, 3) := by decide +kernel
theorem d9_152 : decode prog_105_method_3_code 152 = .ok (.aload_n 0, 1) := by decide +kernel
theorem d9_153 : decode prog_105_method_3_code 153 = .ok (.getfield 49, 3) := by decide +kernel
theorem d9_156 : decode prog_105_method_3_code 156 = .ok (.iload 5, 2) := by decide +kernel
theorem d9_158 : decode prog_105_method_3_code 158 = .ok (.iastore, 1) := by decide +kernel
theorem d9_159 : decode prog_105_method_3_code 159 = .ok (.aload_n 0, 1) := by decide +kernel
theorem d9_160 : decode prog_105_method_3_code 160 = .ok (.getfield 32, 3) := by decide +kernel
theorem d9_163 : decode prog_105_method_3_code 163 = .ok (.aload_n 0, 1) := by decide +kernel
theorem d9_164 : decode prog_105_method_3_code 164 = .ok (.getfield 49, 3) := by decide +kernel
theorem d9_167 : decode prog_105_method_3_code 167 = .ok (.aconst_null, 1) := by decide +kernel
theorem d9_168 : decode prog_105_method_3_code 168 = .ok (.aastore, 1) := by decide +kernel
theorem d9_169 : decode prog_105_method_3_code 169 = .ok (.aload_n 0, 1) := by decide +kernel
theorem d9_170 : decode prog_105_method_3_code 170 = .ok (.dup, 1) := by decide +kernel
theorem d9_171 : decode prog_105_method_3_code 171 = .ok (.getfield 49, 3) := by decide +kernel
theorem d9_174 : decode prog_105_method_3_code 174 = .ok (.iconst 1, 1) := by decide +kernel
theorem d9_175 : decode prog_105_method_3_code 175 = .ok (.iadd, 1) := by decide +kernel
theorem d9_176 : decode prog_105_method_3_code 176 = .ok (.putfield 49, 3) := by decide +kernel
theorem d9_179 : decode prog_105_method_3_code 179 = .ok (.return_, 1) := by decide +kernel
theorem pn_9 : plainName "com/example/scheherazade/scheherazade/reader/TagParts" = true := by first | (simp [plainName, overriddenIn]; done) | decide +kernel
theorem ef_9 (m : MethodId) (x0 : Addr) (x1 : Addr) (x2 : Int32) (x3 : Addr) (x4 : Int32) (x5 : Int32) : entryFrame m #[(.ref x0), (.ref x1), (.int x2), (.ref x3), (.int x4), (.int x5)] 7 = mkF m 0 #[.val (.ref x0), .val (.ref x1), .val (.int x2), .val (.ref x3), .val (.int x4), .val (.int x5), .unset] [] := by first | (simp [entryFrame, mkF, argsToLocals, Value.category]; done) | rfl
def Q9 (Z : State) (a1 : Addr) (a2 : Addr) (p3 : Int32) (a4 : Addr) (p5 : Int32) (p6 : Int32) (u1 : Value) (u2 : Value) (u3 : Value) (u4 : Value) (m1 : Addr) (m2 : Addr) (m3 : Addr) (m4 : Addr) (m5 : Addr) (m6 : Addr) (kq1 : ClassId) (kq2 : ClassId) (kq3 : ClassId) (kq4 : ClassId) (kq5 : ClassId) (kq6 : ClassId) (ev1 : Value) (ev2 : Int32) (ev3 : Value) (ev4 : Int32) (ev5 : Int32) (ev6 : Value) (h0 : Heap) (n0 : Nat) (v : Option Value) (h : Heap) (L : List Loc) : Prop := v = none ∧ Fr n0 L ∧ Keep h0 h [a1, m1, m2, m3, m4, m5, m6] ∧ Exa Z h a1 "com/example/scheherazade/scheherazade/reader/TagParts" ∧ Fld Z h a1 "com/example/scheherazade/scheherazade/reader/TagParts" "name" "Ljava/lang/String;" u1 ∧ Fld Z h a1 "com/example/scheherazade/scheherazade/reader/TagParts" "prefixed" "Z" u2 ∧ Fld Z h a1 "com/example/scheherazade/scheherazade/reader/TagParts" "nameSpelling" "[C" u3 ∧ Fld Z h a1 "com/example/scheherazade/scheherazade/reader/TagParts" "source" "[C" u4 ∧ Fld Z h a1 "com/example/scheherazade/scheherazade/reader/TagParts" "attributeCount" "I" (.int ((0 : Int32) + (1 : Int32))) ∧ Fld Z h a1 "com/example/scheherazade/scheherazade/reader/TagParts" "attributeNames" "[Ljava/lang/String;" (.ref m1) ∧ Fld Z h a1 "com/example/scheherazade/scheherazade/reader/TagParts" "attributePrefixes" "[Z" (.ref m2) ∧ Fld Z h a1 "com/example/scheherazade/scheherazade/reader/TagParts" "attributeSpellings" "[[C" (.ref m3) ∧ Fld Z h a1 "com/example/scheherazade/scheherazade/reader/TagParts" "valueStarts" "[I" (.ref m4) ∧ Fld Z h a1 "com/example/scheherazade/scheherazade/reader/TagParts" "valueLengths" "[I" (.ref m5) ∧ Fld Z h a1 "com/example/scheherazade/scheherazade/reader/TagParts" "attributeValues" "[Ljava/lang/String;" (.ref m6) ∧ Arv Z h m1 kq1 (.object "java/lang/String") (4 : Int32) [(.ref a2), .null, .null, .null] .null ∧ Arv Z h m2 kq2 .boolean (4 : Int32) [(.int (nar .boolean p3)), (.int (0 : Int32)), (.int (0 : Int32)), (.int (0 : Int32))] (.int (0 : Int32)) ∧ Arv Z h m3 kq3 (.array .char) (4 : Int32) [(.ref a4), .null, .null, .null] .null ∧ Arv Z h m4 kq4 .int (4 : Int32) [(.int p5), (.int (0 : Int32)), (.int (0 : Int32)), (.int (0 : Int32))] (.int (0 : Int32)) ∧ Arv Z h m5 kq5 .int (4 : Int32) [(.int p6), (.int (0 : Int32)), (.int (0 : Int32)), (.int (0 : Int32))] (.int (0 : Int32)) ∧ Arv Z h m6 kq6 (.object "java/lang/String") (4 : Int32) [.null, .null, .null, .null] .null
set_option maxRecDepth 65536 in
set_option maxHeartbeats 40000000 in
theorem rm9 (l : Launch) (Z : State) (a0 : Array Value) (hw : ∀ d ∈ tables_1, d.before a0 Z = true) (wds : List Jvm.Cond) (a1 : Addr) (a2 : Addr) (p3 : Int32) (a4 : Addr) (p5 : Int32) (p6 : Int32) (u1 : Value) (u2 : Value) (u3 : Value) (u4 : Value) (m1 : Addr) (m2 : Addr) (m3 : Addr) (m4 : Addr) (m5 : Addr) (m6 : Addr) (kq1 : ClassId) (kq2 : ClassId) (kq3 : ClassId) (kq4 : ClassId) (kq5 : ClassId) (kq6 : ClassId) (ev1 : Value) (ev2 : Int32) (ev3 : Value) (ev4 : Int32) (ev5 : Int32) (ev6 : Value) (h0 : Heap) (n0 : Nat) (Z0 : n0 ≤ h0.size) (P0 : Exa Z h0 a1 "com/example/scheherazade/scheherazade/reader/TagParts") (P1 : Exa Z h0 a2 "java/lang/String") (P2 : Exa Z h0 a4 "[C") (P3 : Fld Z h0 a1 "com/example/scheherazade/scheherazade/reader/TagParts" "name" "Ljava/lang/String;" u1) (P4 : Fld Z h0 a1 "com/example/scheherazade/scheherazade/reader/TagParts" "prefixed" "Z" u2) (P5 : Fld Z h0 a1 "com/example/scheherazade/scheherazade/reader/TagParts" "nameSpelling" "[C" u3) (P6 : Fld Z h0 a1 "com/example/scheherazade/scheherazade/reader/TagParts" "source" "[C" u4) (P7 : Fld Z h0 a1 "com/example/scheherazade/scheherazade/reader/TagParts" "attributeCount" "I" (.int (0 : Int32))) (P8 : Fld Z h0 a1 "com/example/scheherazade/scheherazade/reader/TagParts" "attributeNames" "[Ljava/lang/String;" (.ref m1)) (P9 : Fld Z h0 a1 "com/example/scheherazade/scheherazade/reader/TagParts" "attributePrefixes" "[Z" (.ref m2)) (P10 : Fld Z h0 a1 "com/example/scheherazade/scheherazade/reader/TagParts" "attributeSpellings" "[[C" (.ref m3)) (P11 : Fld Z h0 a1 "com/example/scheherazade/scheherazade/reader/TagParts" "valueStarts" "[I" (.ref m4)) (P12 : Fld Z h0 a1 "com/example/scheherazade/scheherazade/reader/TagParts" "valueLengths" "[I" (.ref m5)) (P13 : Fld Z h0 a1 "com/example/scheherazade/scheherazade/reader/TagParts" "attributeValues" "[Ljava/lang/String;" (.ref m6)) (P14 : Arv Z h0 m1 kq1 (.object "java/lang/String") (4 : Int32) [ev1, .null, .null, .null] .null) (P15 : Arv Z h0 m2 kq2 .boolean (4 : Int32) [(.int ev2), (.int (0 : Int32)), (.int (0 : Int32)), (.int (0 : Int32))] (.int (0 : Int32))) (P16 : Arv Z h0 m3 kq3 (.array .char) (4 : Int32) [ev3, .null, .null, .null] .null) (P17 : Arv Z h0 m4 kq4 .int (4 : Int32) [(.int ev4), (.int (0 : Int32)), (.int (0 : Int32)), (.int (0 : Int32))] (.int (0 : Int32))) (P18 : Arv Z h0 m5 kq5 .int (4 : Int32) [(.int ev5), (.int (0 : Int32)), (.int (0 : Int32)), (.int (0 : Int32))] (.int (0 : Int32))) (P19 : Arv Z h0 m6 kq6 (.object "java/lang/String") (4 : Int32) [ev6, .null, .null, .null] .null) (g_a1 : n0 ≤ a1) (g_m1 : n0 ≤ m1) (g_m2 : n0 ≤ m2) (g_m3 : n0 ≤ m3) (g_m4 : n0 ≤ m4) (g_m5 : n0 ≤ m5) (g_m6 : n0 ≤ m6) (ne_a1_m1 : a1 ≠ m1) (ne_a1_m2 : a1 ≠ m2) (ne_a1_m3 : a1 ≠ m3) (ne_a1_m4 : a1 ≠ m4) (ne_a1_m5 : a1 ≠ m5) (ne_a1_m6 : a1 ≠ m6) (ne_m1_m2 : m1 ≠ m2) (ne_m1_m3 : m1 ≠ m3) (ne_m1_m4 : m1 ≠ m4) (ne_m1_m5 : m1 ≠ m5) (ne_m1_m6 : m1 ≠ m6) (ne_m2_m3 : m2 ≠ m3) (ne_m2_m4 : m2 ≠ m4) (ne_m2_m5 : m2 ≠ m5) (ne_m2_m6 : m2 ≠ m6) (ne_m3_m4 : m3 ≠ m4) (ne_m3_m5 : m3 ≠ m5) (ne_m3_m6 : m3 ≠ m6) (ne_m4_m5 : m4 ≠ m5) (ne_m4_m6 : m4 ≠ m6) (ne_m5_m6 : m5 ≠ m6) (ov1 : Ovr Z kq1 "java/lang/String") (ov3 : OvrA Z kq3 .char "[C") (ov6 : Ovr Z kq6 "java/lang/String") :
    MetFree l (⟨"com/example/scheherazade/scheherazade/reader/TagParts", "addAttribute", "(Ljava/lang/String;Z[CII)V"⟩ : MethodName) (head1 (Jvm.Cond.code (⟨"com/example/scheherazade/scheherazade/reader/TagParts", "addAttribute", "(Ljava/lang/String;Z[CII)V"⟩ : MethodName) prog_105_method_3_code 7 none :: wds) ({ frames := 0, cells := 0, slots := 0, locals := 0 } : Room)) (fun a U => a = #[(.ref a1), (.ref a2), (.int p3), (.ref a4), (.int p5), (.int p6)] ∧ Z.Warmed39 U.vm ∧ U.heap = h0) (fun _ _ _ _ _ => True) (fun _ U o U' => ∃ v L, o = .returned v ∧ Q9 Z a1 a2 p3 a4 p5 p6 u1 u2 u3 u4 m1 m2 m3 m4 m5 m6 kq1 kq2 kq3 kq4 kq5 kq6 ev1 ev2 ev3 ev4 ev5 ev6 h0 n0 v U'.heap L ∧ FrameEnd U o U' L ({ frames := 0, cells := 0, slots := 0, locals := 0 } : Room).cells ({ frames := 0, cells := 0, slots := 0, locals := 0 } : Room).slots) := by
  refine MetFree.of_bodySF (plainFor_of_name pn_9) hisR ?_
  intro p e s m args below meth c s₁ Bd hml0 hP hK
  obtain ⟨rfl, hZ, hh⟩ := hP
  have hx := Bd.exec
  have hby := Bd.bytes
  have hml : c.maxLocals = 7 := hml0
  have hown : s.vm.findClass "com/example/scheherazade/scheherazade/reader/TagParts" = some m.cls := findClass_of_methodNamed Bd.named
  have hnm := (name_of_methodNamed Bd.named Bd.method).1
  have X0 : Stand p l e ({ frames := 0, cells := 0, slots := 0, locals := 0 } : Room) s m #[(.ref a1), (.ref a2), (.int p3), (.ref a4), (.int p5), (.int p6)] below meth c s₁ [] 0 0 := Stand.of_body Bd
  have e0 : s₁.heap = h0 := by rw [← hh, Bd.state]; rfl
  have N0 := Fr.nil n0
  refine own_start (Q := Q9 Z a1 a2 p3 a4 p5 p6 u1 u2 u3 u4 m1 m2 m3 m4 m5 m6 kq1 kq2 kq3 kq4 kq5 kq6 ev1 ev2 ev3 ev4 ev5 ev6 h0 n0) (C := ({ frames := 0, cells := 0, slots := 0, locals := 0 } : Room).cells) (S := ({ frames := 0, cells := 0, slots := 0, locals := 0 } : Room).slots) ?_
  rw [ef_9 m a1 a2 p3 a4 p5 p6]
  have K0 : Keep h0 h0 [a1, m1, m2, m3, m4, m5, m6] := Keep.refl h0 [a1, m1, m2, m3, m4, m5, m6]
  refine Gen.on (b := s₁.setTop (mkF m 1 #[.val (.ref a1), .val (.ref a2), .val (.int p3), .val (.ref a4), .val (.int p5), .val (.int p6), .unset] [(.ref a1)])) ?_ (fun t k => XS.aloadN X0.here hx rfl (hb hby d9_0) rfl rfl k)
  obtain ⟨T1, X1, e1, st1⟩ := getF X0 hx hZ hown (host := "") (Or.inl (hw _ (List.mem_of_getElem? (i := 68) rfl))) Via.refl e0 P7 (g := (mkF m 1 #[.val (.ref a1), .val (.ref a2), .val (.int p3), .val (.ref a4), .val (.int p5), .val (.int p6), .unset] [(.ref a1)])) rfl rfl (hb hby d9_1)
  refine Gen.on (b := T1.setTop (mkF m 4 #[.val (.ref a1), .val (.ref a2), .val (.int p3), .val (.ref a4), .val (.int p5), .val (.int p6), .unset] [(.int (0 : Int32))])) ?_ (fun t k => st1 t k)
  refine Gen.on (b := T1.setTop (mkF m 5 #[.val (.ref a1), .val (.ref a2), .val (.int p3), .val (.ref a4), .val (.int p5), .val (.int p6), .unset] [(.ref a1), (.int (0 : Int32))])) ?_ (fun t k => XS.aloadN X1.here hx rfl (hb hby d9_4) rfl rfl k)
  obtain ⟨T2, X2, e2, st2⟩ := getF X1 hx hZ hown (host := "") (Or.inl (hw _ (List.mem_of_getElem? (i := 39) rfl))) Via.refl e1 P8 (g := (mkF m 5 #[.val (.ref a1), .val (.ref a2), .val (.int p3), .val (.ref a4), .val (.int p5), .val (.int p6), .unset] [(.ref a1), (.int (0 : Int32))])) rfl rfl (hb hby d9_5)
  refine Gen.on (b := T2.setTop (mkF m 8 #[.val (.ref a1), .val (.ref a2), .val (.int p3), .val (.ref a4), .val (.int p5), .val (.int p6), .unset] [(.ref m1), (.int (0 : Int32))])) ?_ (fun t k => st2 t k)
  obtain ⟨cl3, Ar3, qA3, SA3, NA3, HA3, GA3⟩ := id P14
  refine Gen.on (b := T2.setTop (mkF m 9 #[.val (.ref a1), .val (.ref a2), .val (.int p3), .val (.ref a4), .val (.int p5), .val (.int p6), .unset] [(.int (4 : Int32)), (.int (0 : Int32))])) ?_ (fun t k => X2.arraylength hx (by rw [e2]; exact Ar3.1) (State.isArrayOf_alike hZ.alike Ar3.2.1) (g := (mkF m 8 #[.val (.ref a1), .val (.ref a2), .val (.int p3), .val (.ref a4), .val (.int p5), .val (.int p6), .unset] [(.ref m1), (.int (0 : Int32))])) rfl rfl (hb hby d9_8) t (by rw [len_of SA3 NA3]; exact k))
  refine Gen.on (b := T2.setTop (mkF m 107 #[.val (.ref a1), .val (.ref a2), .val (.int p3), .val (.ref a4), .val (.int p5), .val (.int p6), .unset] [])) ?_ (fun t k => XS.icmpYes X2.here hx rfl (pc0 := 9) (pc' := 107) rfl (hb hby d9_9) rfl (feq (by decide : ¬ ((0 : Int32) = (4 : Int32)))).2 (by decide) (by decide) k)
  refine Gen.on (b := T2.setTop (mkF m 108 #[.val (.ref a1), .val (.ref a2), .val (.int p3), .val (.ref a4), .val (.int p5), .val (.int p6), .unset] [(.ref a1)])) ?_ (fun t k => XS.aloadN X2.here hx rfl (hb hby d9_107) rfl rfl k)
  obtain ⟨T4, X4, e4, st4⟩ := getF X2 hx hZ hown (host := "") (Or.inl (hw _ (List.mem_of_getElem? (i := 39) rfl))) Via.refl e2 P8 (g := (mkF m 108 #[.val (.ref a1), .val (.ref a2), .val (.int p3), .val (.ref a4), .val (.int p5), .val (.int p6), .unset] [(.ref a1)])) rfl rfl (hb hby d9_108)
  refine Gen.on (b := T4.setTop (mkF m 111 #[.val (.ref a1), .val (.ref a2), .val (.int p3), .val (.ref a4), .val (.int p5), .val (.int p6), .unset] [(.ref m1)])) ?_ (fun t k => st4 t k)
  refine Gen.on (b := T4.setTop (mkF m 112 #[.val (.ref a1), .val (.ref a2), .val (.int p3), .val (.ref a4), .val (.int p5), .val (.int p6), .unset] [(.ref a1), (.ref m1)])) ?_ (fun t k => XS.aloadN X4.here hx rfl (hb hby d9_111) rfl rfl k)
  obtain ⟨T5, X5, e5, st5⟩ := getF X4 hx hZ hown (host := "") (Or.inl (hw _ (List.mem_of_getElem? (i := 68) rfl))) Via.refl e4 P7 (g := (mkF m 112 #[.val (.ref a1), .val (.ref a2), .val (.int p3), .val (.ref a4), .val (.int p5), .val (.int p6), .unset] [(.ref a1), (.ref m1)])) rfl rfl (hb hby d9_112)
  refine Gen.on (b := T5.setTop (mkF m 115 #[.val (.ref a1), .val (.ref a2), .val (.int p3), .val (.ref a4), .val (.int p5), .val (.int p6), .unset] [(.int (0 : Int32)), (.ref m1)])) ?_ (fun t k => st5 t k)
  refine Gen.on (b := T5.setTop (mkF m 116 #[.val (.ref a1), .val (.ref a2), .val (.int p3), .val (.ref a4), .val (.int p5), .val (.int p6), .unset] [(.ref a2), (.int (0 : Int32)), (.ref m1)])) ?_ (fun t k => XS.aloadN X5.here hx rfl (hb hby d9_115) rfl rfl k)
  obtain ⟨cl6, Ar6, qA6, SA6, NA6, HA6, GA6⟩ := id P14
  have hin6 : ¬ ((0 : Int32) < 0 ∨ cl6.slots.size ≤ ((0 : Int32)).toNatClampNeg) := inb_of SA6 ⟨by decide, by decide⟩
  obtain ⟨T6, h6, X6, e6, W6, st6⟩ := stR X5 hx hZ e5 Ar6 (j := (0 : Int32)) hin6 rfl (Sto.ofV Ar6 qA6 ov1 (Ins.self P1)) (g := (mkF m 116 #[.val (.ref a1), .val (.ref a2), .val (.int p3), .val (.ref a4), .val (.int p5), .val (.int p6), .unset] [(.ref a2), (.int (0 : Int32)), (.ref m1)])) rfl rfl (hb hby d9_116)
  have V6 := Arv.set Ar6 qA6 SA6 NA6 HA6 GA6 rfl W6 0 rfl (Nat.le_of_ble_eq_true rfl)
  have Z6 : n0 ≤ h6.size := Nat.le_trans Z0 (Keep.of_wr W6).1
  have K6 : Keep h0 h6 [a1, m1, m2, m3, m4, m5, m6] := K0.wr W6 (Or.inl (List.mem_of_getElem? (i := 1) rfl))
  have N6 := Fr.snoc X6 N0 g_m1
  have V6t : Arv Z h6 m1 kq1 (.object "java/lang/String") (4 : Int32) [(.ref a2), .null, .null, .null] .null := V6
  refine Gen.on (b := T6.setTop (mkF m 117 #[.val (.ref a1), .val (.ref a2), .val (.int p3), .val (.ref a4), .val (.int p5), .val (.int p6), .unset] [])) ?_ (fun t k => st6 t k)
  refine Gen.on (b := T6.setTop (mkF m 118 #[.val (.ref a1), .val (.ref a2), .val (.int p3), .val (.ref a4), .val (.int p5), .val (.int p6), .unset] [(.ref a1)])) ?_ (fun t k => XS.aloadN X6.here hx rfl (hb hby d9_117) rfl rfl k)
  have fa7 := (P9.other W6 (Or.inl ne_a1_m1))
  obtain ⟨T8, X8, e8, st8⟩ := getF X6 hx hZ hown (host := "") (Or.inl (hw _ (List.mem_of_getElem? (i := 42) rfl))) Via.refl e6 fa7 (g := (mkF m 118 #[.val (.ref a1), .val (.ref a2), .val (.int p3), .val (.ref a4), .val (.int p5), .val (.int p6), .unset] [(.ref a1)])) rfl rfl (hb hby d9_118)
  refine Gen.on (b := T8.setTop (mkF m 121 #[.val (.ref a1), .val (.ref a2), .val (.int p3), .val (.ref a4), .val (.int p5), .val (.int p6), .unset] [(.ref m2)])) ?_ (fun t k => st8 t k)
  refine Gen.on (b := T8.setTop (mkF m 122 #[.val (.ref a1), .val (.ref a2), .val (.int p3), .val (.ref a4), .val (.int p5), .val (.int p6), .unset] [(.ref a1), (.ref m2)])) ?_ (fun t k => XS.aloadN X8.here hx rfl (hb hby d9_121) rfl rfl k)
  have fa9 := (P7.other W6 (Or.inl ne_a1_m1))
  obtain ⟨T10, X10, e10, st10⟩ := getF X8 hx hZ hown (host := "") (Or.inl (hw _ (List.mem_of_getElem? (i := 68) rfl))) Via.refl e8 fa9 (g := (mkF m 122 #[.val (.ref a1), .val (.ref a2), .val (.int p3), .val (.ref a4), .val (.int p5), .val (.int p6), .unset] [(.ref a1), (.ref m2)])) rfl rfl (hb hby d9_122)
  refine Gen.on (b := T10.setTop (mkF m 125 #[.val (.ref a1), .val (.ref a2), .val (.int p3), .val (.ref a4), .val (.int p5), .val (.int p6), .unset] [(.int (0 : Int32)), (.ref m2)])) ?_ (fun t k => st10 t k)
  refine Gen.on (b := T10.setTop (mkF m 126 #[.val (.ref a1), .val (.ref a2), .val (.int p3), .val (.ref a4), .val (.int p5), .val (.int p6), .unset] [(.int p3), (.int (0 : Int32)), (.ref m2)])) ?_ (fun t k => XS.iloadN X10.here hx rfl (hb hby d9_125) rfl k)
  have fa11 := (P15.other W6 (Ne.symm ne_m1_m2))
  obtain ⟨cl12, Ar12, qA12, SA12, NA12, HA12, GA12⟩ := id fa11
  have hin12 : ¬ ((0 : Int32) < 0 ∨ cl12.slots.size ≤ ((0 : Int32)).toNatClampNeg) := inb_of SA12 ⟨by decide, by decide⟩
  obtain ⟨T12, h12, X12, e12, W12, st12⟩ := stZ X10 hx hZ e10 Ar12 (j := (0 : Int32)) hin12 (g := (mkF m 126 #[.val (.ref a1), .val (.ref a2), .val (.int p3), .val (.ref a4), .val (.int p5), .val (.int p6), .unset] [(.int p3), (.int (0 : Int32)), (.ref m2)])) rfl rfl (hb hby d9_126)
  have V12 := Arv.set Ar12 qA12 SA12 NA12 HA12 GA12 (fits_nar_bool _) W12 0 rfl (Nat.le_of_ble_eq_true rfl)
  have Z12 : n0 ≤ h12.size := Nat.le_trans Z6 (Keep.of_wr W12).1
  have K12 : Keep h0 h12 [a1, m1, m2, m3, m4, m5, m6] := K6.wr W12 (Or.inl (List.mem_of_getElem? (i := 2) rfl))
  have N12 := Fr.snoc X12 N6 g_m2
  have V12t : Arv Z h12 m2 kq2 .boolean (4 : Int32) [(.int (nar .boolean p3)), (.int (0 : Int32)), (.int (0 : Int32)), (.int (0 : Int32))] (.int (0 : Int32)) := V12
  refine Gen.on (b := T12.setTop (mkF m 127 #[.val (.ref a1), .val (.ref a2), .val (.int p3), .val (.ref a4), .val (.int p5), .val (.int p6), .unset] [])) ?_ (fun t k => st12 t k)
  refine Gen.on (b := T12.setTop (mkF m 128 #[.val (.ref a1), .val (.ref a2), .val (.int p3), .val (.ref a4), .val (.int p5), .val (.int p6), .unset] [(.ref a1)])) ?_ (fun t k => XS.aloadN X12.here hx rfl (hb hby d9_127) rfl rfl k)
  have fa13 := ((P10.other W6 (Or.inl ne_a1_m1)).other W12 (Or.inl ne_a1_m2))
  obtain ⟨T14, X14, e14, st14⟩ := getF X12 hx hZ hown (host := "") (Or.inl (hw _ (List.mem_of_getElem? (i := 46) rfl))) Via.refl e12 fa13 (g := (mkF m 128 #[.val (.ref a1), .val (.ref a2), .val (.int p3), .val (.ref a4), .val (.int p5), .val (.int p6), .unset] [(.ref a1)])) rfl rfl (hb hby d9_128)
  refine Gen.on (b := T14.setTop (mkF m 131 #[.val (.ref a1), .val (.ref a2), .val (.int p3), .val (.ref a4), .val (.int p5), .val (.int p6), .unset] [(.ref m3)])) ?_ (fun t k => st14 t k)
  refine Gen.on (b := T14.setTop (mkF m 132 #[.val (.ref a1), .val (.ref a2), .val (.int p3), .val (.ref a4), .val (.int p5), .val (.int p6), .unset] [(.ref a1), (.ref m3)])) ?_ (fun t k => XS.aloadN X14.here hx rfl (hb hby d9_131) rfl rfl k)
  have fa15 := (fa9.other W12 (Or.inl ne_a1_m2))
  obtain ⟨T16, X16, e16, st16⟩ := getF X14 hx hZ hown (host := "") (Or.inl (hw _ (List.mem_of_getElem? (i := 68) rfl))) Via.refl e14 fa15 (g := (mkF m 132 #[.val (.ref a1), .val (.ref a2), .val (.int p3), .val (.ref a4), .val (.int p5), .val (.int p6), .unset] [(.ref a1), (.ref m3)])) rfl rfl (hb hby d9_132)
  refine Gen.on (b := T16.setTop (mkF m 135 #[.val (.ref a1), .val (.ref a2), .val (.int p3), .val (.ref a4), .val (.int p5), .val (.int p6), .unset] [(.int (0 : Int32)), (.ref m3)])) ?_ (fun t k => st16 t k)
  refine Gen.on (b := T16.setTop (mkF m 136 #[.val (.ref a1), .val (.ref a2), .val (.int p3), .val (.ref a4), .val (.int p5), .val (.int p6), .unset] [(.ref a4), (.int (0 : Int32)), (.ref m3)])) ?_ (fun t k => XS.aloadN X16.here hx rfl (hb hby d9_135) rfl rfl k)
  have fa17 := ((P16.other W6 (Ne.symm ne_m1_m3)).other W12 (Ne.symm ne_m2_m3))
  have fa19 := ((P2.wr W6).wr W12)
  obtain ⟨cl18, Ar18, qA18, SA18, NA18, HA18, GA18⟩ := id fa17
  have hin18 : ¬ ((0 : Int32) < 0 ∨ cl18.slots.size ≤ ((0 : Int32)).toNatClampNeg) := inb_of SA18 ⟨by decide, by decide⟩
  obtain ⟨T18, h18, X18, e18, W18, st18⟩ := stR X16 hx hZ e16 Ar18 (j := (0 : Int32)) hin18 rfl (Sto.ofVA Ar18 qA18 ov3 (Ins.self fa19)) (g := (mkF m 136 #[.val (.ref a1), .val (.ref a2), .val (.int p3), .val (.ref a4), .val (.int p5), .val (.int p6), .unset] [(.ref a4), (.int (0 : Int32)), (.ref m3)])) rfl rfl (hb hby d9_136)
  have V18 := Arv.set Ar18 qA18 SA18 NA18 HA18 GA18 rfl W18 0 rfl (Nat.le_of_ble_eq_true rfl)
  have Z18 : n0 ≤ h18.size := Nat.le_trans Z12 (Keep.of_wr W18).1
  have K18 : Keep h0 h18 [a1, m1, m2, m3, m4, m5, m6] := K12.wr W18 (Or.inl (List.mem_of_getElem? (i := 3) rfl))
  have N18 := Fr.snoc X18 N12 g_m3
  have V18t : Arv Z h18 m3 kq3 (.array .char) (4 : Int32) [(.ref a4), .null, .null, .null] .null := V18
  refine Gen.on (b := T18.setTop (mkF m 137 #[.val (.ref a1), .val (.ref a2), .val (.int p3), .val (.ref a4), .val (.int p5), .val (.int p6), .unset] [])) ?_ (fun t k => st18 t k)
  refine Gen.on (b := T18.setTop (mkF m 138 #[.val (.ref a1), .val (.ref a2), .val (.int p3), .val (.ref a4), .val (.int p5), .val (.int p6), .unset] [(.ref a1)])) ?_ (fun t k => XS.aloadN X18.here hx rfl (hb hby d9_137) rfl rfl k)
  have fa20 := (((P11.other W6 (Or.inl ne_a1_m1)).other W12 (Or.inl ne_a1_m2)).other W18 (Or.inl ne_a1_m3))
  obtain ⟨T21, X21, e21, st21⟩ := getF X18 hx hZ hown (host := "") (Or.inl (hw _ (List.mem_of_getElem? (i := 49) rfl))) Via.refl e18 fa20 (g := (mkF m 138 #[.val (.ref a1), .val (.ref a2), .val (.int p3), .val (.ref a4), .val (.int p5), .val (.int p6), .unset] [(.ref a1)])) rfl rfl (hb hby d9_138)
  refine Gen.on (b := T21.setTop (mkF m 141 #[.val (.ref a1), .val (.ref a2), .val (.int p3), .val (.ref a4), .val (.int p5), .val (.int p6), .unset] [(.ref m4)])) ?_ (fun t k => st21 t k)
  refine Gen.on (b := T21.setTop (mkF m 142 #[.val (.ref a1), .val (.ref a2), .val (.int p3), .val (.ref a4), .val (.int p5), .val (.int p6), .unset] [(.ref a1), (.ref m4)])) ?_ (fun t k => XS.aloadN X21.here hx rfl (hb hby d9_141) rfl rfl k)
  have fa22 := (fa15.other W18 (Or.inl ne_a1_m3))
  obtain ⟨T23, X23, e23, st23⟩ := getF X21 hx hZ hown (host := "") (Or.inl (hw _ (List.mem_of_getElem? (i := 68) rfl))) Via.refl e21 fa22 (g := (mkF m 142 #[.val (.ref a1), .val (.ref a2), .val (.int p3), .val (.ref a4), .val (.int p5), .val (.int p6), .unset] [(.ref a1), (.ref m4)])) rfl rfl (hb hby d9_142)
  refine Gen.on (b := T23.setTop (mkF m 145 #[.val (.ref a1), .val (.ref a2), .val (.int p3), .val (.ref a4), .val (.int p5), .val (.int p6), .unset] [(.int (0 : Int32)), (.ref m4)])) ?_ (fun t k => st23 t k)
  refine Gen.on (b := T23.setTop (mkF m 147 #[.val (.ref a1), .val (.ref a2), .val (.int p3), .val (.ref a4), .val (.int p5), .val (.int p6), .unset] [(.int p5), (.int (0 : Int32)), (.ref m4)])) ?_ (fun t k => XS.iload X23.here hx rfl (hb hby d9_145) rfl k)
  have fa24 := (((P17.other W6 (Ne.symm ne_m1_m4)).other W12 (Ne.symm ne_m2_m4)).other W18 (Ne.symm ne_m3_m4))
  obtain ⟨cl25, Ar25, qA25, SA25, NA25, HA25, GA25⟩ := id fa24
  have hin25 : ¬ ((0 : Int32) < 0 ∨ cl25.slots.size ≤ ((0 : Int32)).toNatClampNeg) := inb_of SA25 ⟨by decide, by decide⟩
  obtain ⟨T25, h25, X25, e25, W25, st25⟩ := stI X23 hx hZ e23 Ar25 (j := (0 : Int32)) hin25 (g := (mkF m 147 #[.val (.ref a1), .val (.ref a2), .val (.int p3), .val (.ref a4), .val (.int p5), .val (.int p6), .unset] [(.int p5), (.int (0 : Int32)), (.ref m4)])) rfl rfl (hb hby d9_147)
  have V25 := Arv.set Ar25 qA25 SA25 NA25 HA25 GA25 rfl W25 0 rfl (Nat.le_of_ble_eq_true rfl)
  have Z25 : n0 ≤ h25.size := Nat.le_trans Z18 (Keep.of_wr W25).1
  have K25 : Keep h0 h25 [a1, m1, m2, m3, m4, m5, m6] := K18.wr W25 (Or.inl (List.mem_of_getElem? (i := 4) rfl))
  have N25 := Fr.snoc X25 N18 g_m4
  have V25t : Arv Z h25 m4 kq4 .int (4 : Int32) [(.int p5), (.int (0 : Int32)), (.int (0 : Int32)), (.int (0 : Int32))] (.int (0 : Int32)) := V25
  refine Gen.on (b := T25.setTop (mkF m 148 #[.val (.ref a1), .val (.ref a2), .val (.int p3), .val (.ref a4), .val (.int p5), .val (.int p6), .unset] [])) ?_ (fun t k => st25 t k)
  refine Gen.on (b := T25.setTop (mkF m 149 #[.val (.ref a1), .val (.ref a2), .val (.int p3), .val (.ref a4), .val (.int p5), .val (.int p6), .unset] [(.ref a1)])) ?_ (fun t k => XS.aloadN X25.here hx rfl (hb hby d9_148) rfl rfl k)
  have fa26 := ((((P12.other W6 (Or.inl ne_a1_m1)).other W12 (Or.inl ne_a1_m2)).other W18 (Or.inl ne_a1_m3)).other W25 (Or.inl ne_a1_m4))
  obtain ⟨T27, X27, e27, st27⟩ := getF X25 hx hZ hown (host := "") (Or.inl (hw _ (List.mem_of_getElem? (i := 51) rfl))) Via.refl e25 fa26 (g := (mkF m 149 #[.val (.ref a1), .val (.ref a2), .val (.int p3), .val (.ref a4), .val (.int p5), .val (.int p6), .unset] [(.ref a1)])) rfl rfl (hb hby d9_149)
  refine Gen.on (b := T27.setTop (mkF m 152 #[.val (.ref a1), .val (.ref a2), .val (.int p3), .val (.ref a4), .val (.int p5), .val (.int p6), .unset] [(.ref m5)])) ?_ (fun t k => st27 t k)
  refine Gen.on (b := T27.setTop (mkF m 153 #[.val (.ref a1), .val (.ref a2), .val (.int p3), .val (.ref a4), .val (.int p5), .val (.int p6), .unset] [(.ref a1), (.ref m5)])) ?_ (fun t k => XS.aloadN X27.here hx rfl (hb hby d9_152) rfl rfl k)
  have fa28 := (fa22.other W25 (Or.inl ne_a1_m4))
  obtain ⟨T29, X29, e29, st29⟩ := getF X27 hx hZ hown (host := "") (Or.inl (hw _ (List.mem_of_getElem? (i := 68) rfl))) Via.refl e27 fa28 (g := (mkF m 153 #[.val (.ref a1), .val (.ref a2), .val (.int p3), .val (.ref a4), .val (.int p5), .val (.int p6), .unset] [(.ref a1), (.ref m5)])) rfl rfl (hb hby d9_153)
  refine Gen.on (b := T29.setTop (mkF m 156 #[.val (.ref a1), .val (.ref a2), .val (.int p3), .val (.ref a4), .val (.int p5), .val (.int p6), .unset] [(.int (0 : Int32)), (.ref m5)])) ?_ (fun t k => st29 t k)
  refine Gen.on (b := T29.setTop (mkF m 158 #[.val (.ref a1), .val (.ref a2), .val (.int p3), .val (.ref a4), .val (.int p5), .val (.int p6), .unset] [(.int p6), (.int (0 : Int32)), (.ref m5)])) ?_ (fun t k => XS.iload X29.here hx rfl (hb hby d9_156) rfl k)
  have fa30 := ((((P18.other W6 (Ne.symm ne_m1_m5)).other W12 (Ne.symm ne_m2_m5)).other W18 (Ne.symm ne_m3_m5)).other W25 (Ne.symm ne_m4_m5))
  obtain ⟨cl31, Ar31, qA31, SA31, NA31, HA31, GA31⟩ := id fa30
  have hin31 : ¬ ((0 : Int32) < 0 ∨ cl31.slots.size ≤ ((0 : Int32)).toNatClampNeg) := inb_of SA31 ⟨by decide, by decide⟩
  obtain ⟨T31, h31, X31, e31, W31, st31⟩ := stI X29 hx hZ e29 Ar31 (j := (0 : Int32)) hin31 (g := (mkF m 158 #[.val (.ref a1), .val (.ref a2), .val (.int p3), .val (.ref a4), .val (.int p5), .val (.int p6), .unset] [(.int p6), (.int (0 : Int32)), (.ref m5)])) rfl rfl (hb hby d9_158)
  have V31 := Arv.set Ar31 qA31 SA31 NA31 HA31 GA31 rfl W31 0 rfl (Nat.le_of_ble_eq_true rfl)
  have Z31 : n0 ≤ h31.size := Nat.le_trans Z25 (Keep.of_wr W31).1
  have K31 : Keep h0 h31 [a1, m1, m2, m3, m4, m5, m6] := K25.wr W31 (Or.inl (List.mem_of_getElem? (i := 5) rfl))
  have N31 := Fr.snoc X31 N25 g_m5
  have V31t : Arv Z h31 m5 kq5 .int (4 : Int32) [(.int p6), (.int (0 : Int32)), (.int (0 : Int32)), (.int (0 : Int32))] (.int (0 : Int32)) := V31
  refine Gen.on (b := T31.setTop (mkF m 159 #[.val (.ref a1), .val (.ref a2), .val (.int p3), .val (.ref a4), .val (.int p5), .val (.int p6), .unset] [])) ?_ (fun t k => st31 t k)
  refine Gen.on (b := T31.setTop (mkF m 160 #[.val (.ref a1), .val (.ref a2), .val (.int p3), .val (.ref a4), .val (.int p5), .val (.int p6), .unset] [(.ref a1)])) ?_ (fun t k => XS.aloadN X31.here hx rfl (hb hby d9_159) rfl rfl k)
  have fa32 := (((((P13.other W6 (Or.inl ne_a1_m1)).other W12 (Or.inl ne_a1_m2)).other W18 (Or.inl ne_a1_m3)).other W25 (Or.inl ne_a1_m4)).other W31 (Or.inl ne_a1_m5))
  obtain ⟨T33, X33, e33, st33⟩ := getF X31 hx hZ hown (host := "") (Or.inl (hw _ (List.mem_of_getElem? (i := 53) rfl))) Via.refl e31 fa32 (g := (mkF m 160 #[.val (.ref a1), .val (.ref a2), .val (.int p3), .val (.ref a4), .val (.int p5), .val (.int p6), .unset] [(.ref a1)])) rfl rfl (hb hby d9_160)
  refine Gen.on (b := T33.setTop (mkF m 163 #[.val (.ref a1), .val (.ref a2), .val (.int p3), .val (.ref a4), .val (.int p5), .val (.int p6), .unset] [(.ref m6)])) ?_ (fun t k => st33 t k)
  refine Gen.on (b := T33.setTop (mkF m 164 #[.val (.ref a1), .val (.ref a2), .val (.int p3), .val (.ref a4), .val (.int p5), .val (.int p6), .unset] [(.ref a1), (.ref m6)])) ?_ (fun t k => XS.aloadN X33.here hx rfl (hb hby d9_163) rfl rfl k)
  have fa34 := (fa28.other W31 (Or.inl ne_a1_m5))
  obtain ⟨T35, X35, e35, st35⟩ := getF X33 hx hZ hown (host := "") (Or.inl (hw _ (List.mem_of_getElem? (i := 68) rfl))) Via.refl e33 fa34 (g := (mkF m 164 #[.val (.ref a1), .val (.ref a2), .val (.int p3), .val (.ref a4), .val (.int p5), .val (.int p6), .unset] [(.ref a1), (.ref m6)])) rfl rfl (hb hby d9_164)
  refine Gen.on (b := T35.setTop (mkF m 167 #[.val (.ref a1), .val (.ref a2), .val (.int p3), .val (.ref a4), .val (.int p5), .val (.int p6), .unset] [(.int (0 : Int32)), (.ref m6)])) ?_ (fun t k => st35 t k)
  refine Gen.on (b := T35.setTop (mkF m 168 #[.val (.ref a1), .val (.ref a2), .val (.int p3), .val (.ref a4), .val (.int p5), .val (.int p6), .unset] [.null, (.int (0 : Int32)), (.ref m6)])) ?_ (fun t k => XS.aconstNull X35.here hx rfl (hb hby d9_167) k)
  have fa36 := (((((P19.other W6 (Ne.symm ne_m1_m6)).other W12 (Ne.symm ne_m2_m6)).other W18 (Ne.symm ne_m3_m6)).other W25 (Ne.symm ne_m4_m6)).other W31 (Ne.symm ne_m5_m6))
  obtain ⟨cl37, Ar37, qA37, SA37, NA37, HA37, GA37⟩ := id fa36
  have hin37 : ¬ ((0 : Int32) < 0 ∨ cl37.slots.size ≤ ((0 : Int32)).toNatClampNeg) := inb_of SA37 ⟨by decide, by decide⟩
  obtain ⟨T37, h37, X37, e37, W37, st37⟩ := stR X35 hx hZ e35 Ar37 (j := (0 : Int32)) hin37 rfl (Or.inl rfl) (g := (mkF m 168 #[.val (.ref a1), .val (.ref a2), .val (.int p3), .val (.ref a4), .val (.int p5), .val (.int p6), .unset] [.null, (.int (0 : Int32)), (.ref m6)])) rfl rfl (hb hby d9_168)
  have V37 := Arv.set Ar37 qA37 SA37 NA37 HA37 GA37 rfl W37 0 rfl (Nat.le_of_ble_eq_true rfl)
  have Z37 : n0 ≤ h37.size := Nat.le_trans Z31 (Keep.of_wr W37).1
  have K37 : Keep h0 h37 [a1, m1, m2, m3, m4, m5, m6] := K31.wr W37 (Or.inl (List.mem_of_getElem? (i := 6) rfl))
  have N37 := Fr.snoc X37 N31 g_m6
  have V37t : Arv Z h37 m6 kq6 (.object "java/lang/String") (4 : Int32) [.null, .null, .null, .null] .null := V37
  refine Gen.on (b := T37.setTop (mkF m 169 #[.val (.ref a1), .val (.ref a2), .val (.int p3), .val (.ref a4), .val (.int p5), .val (.int p6), .unset] [])) ?_ (fun t k => st37 t k)
  refine Gen.on (b := T37.setTop (mkF m 170 #[.val (.ref a1), .val (.ref a2), .val (.int p3), .val (.ref a4), .val (.int p5), .val (.int p6), .unset] [(.ref a1)])) ?_ (fun t k => XS.aloadN X37.here hx rfl (hb hby d9_169) rfl rfl k)
  refine Gen.on (b := T37.setTop (mkF m 171 #[.val (.ref a1), .val (.ref a2), .val (.int p3), .val (.ref a4), .val (.int p5), .val (.int p6), .unset] [(.ref a1), (.ref a1)])) ?_ (fun t k => XS.dup X37.here hx rfl (hb hby d9_170) rfl rfl k)
  have fa38 := (fa34.other W37 (Or.inl ne_a1_m6))
  obtain ⟨T39, X39, e39, st39⟩ := getF X37 hx hZ hown (host := "") (Or.inl (hw _ (List.mem_of_getElem? (i := 68) rfl))) Via.refl e37 fa38 (g := (mkF m 171 #[.val (.ref a1), .val (.ref a2), .val (.int p3), .val (.ref a4), .val (.int p5), .val (.int p6), .unset] [(.ref a1), (.ref a1)])) rfl rfl (hb hby d9_171)
  refine Gen.on (b := T39.setTop (mkF m 174 #[.val (.ref a1), .val (.ref a2), .val (.int p3), .val (.ref a4), .val (.int p5), .val (.int p6), .unset] [(.int (0 : Int32)), (.ref a1)])) ?_ (fun t k => st39 t k)
  refine Gen.on (b := T39.setTop (mkF m 175 #[.val (.ref a1), .val (.ref a2), .val (.int p3), .val (.ref a4), .val (.int p5), .val (.int p6), .unset] [(.int (1 : Int32)), (.int (0 : Int32)), (.ref a1)])) ?_ (fun t k => XS.iconst X39.here hx rfl (hb hby d9_174) k)
  refine Gen.on (b := T39.setTop (mkF m 176 #[.val (.ref a1), .val (.ref a2), .val (.int p3), .val (.ref a4), .val (.int p5), .val (.int p6), .unset] [(.int ((0 : Int32) + (1 : Int32))), (.ref a1)])) ?_ (fun t k => XS.iadd X39.here hx rfl (hb hby d9_175) rfl k)
  have fa40 := ((((((P0.wr W6).wr W12).wr W18).wr W25).wr W31).wr W37)
  obtain ⟨T41, h41, X41, e41, W41, st41⟩ := putF X39 hx hZ hown (host := "") (Or.inl (hw _ (List.mem_of_getElem? (i := 68) rfl))) Via.refl e39 fa38 fa40 (Or.inl (hw _ (List.mem_of_getElem? (i := 69) rfl))) (hw _ (List.mem_of_getElem? (i := 31) rfl)) (ty := .int) (by decide) rfl rfl (g := (mkF m 176 #[.val (.ref a1), .val (.ref a2), .val (.int p3), .val (.ref a4), .val (.int p5), .val (.int p6), .unset] [(.int ((0 : Int32) + (1 : Int32))), (.ref a1)])) rfl rfl (hb hby d9_176)
  have Fw41 := fa38.same W41
  have Z41 : n0 ≤ h41.size := Nat.le_trans Z37 (Keep.of_wr W41).1
  have K41 : Keep h0 h41 [a1, m1, m2, m3, m4, m5, m6] := K37.wr W41 (Or.inl (List.mem_of_getElem? (i := 0) rfl))
  have N41 := Fr.snoc X41 N37 g_a1
  refine Gen.on (b := T41.setTop (mkF m 179 #[.val (.ref a1), .val (.ref a2), .val (.int p3), .val (.ref a4), .val (.int p5), .val (.int p6), .unset] [])) ?_ (fun t k => st41 t k)
  refine own_ret0 X41 hx Bd.returns (hb hby d9_179) (by decide) (by decide) ?_
  have fa42 := (fa40.wr W41)
  have fa43 := (((((((P3.other W6 (Or.inl ne_a1_m1)).other W12 (Or.inl ne_a1_m2)).other W18 (Or.inl ne_a1_m3)).other W25 (Or.inl ne_a1_m4)).other W31 (Or.inl ne_a1_m5)).other W37 (Or.inl ne_a1_m6)).other W41 (Or.inr (slot_ne (Or.inl (hw _ (List.mem_of_getElem? (i := 61) rfl))) (Or.inl (hw _ (List.mem_of_getElem? (i := 69) rfl))) (by decide) (t := (.object "java/lang/String")) (t' := .int) (by decide) (by decide))))
  have fa44 := (((((((P4.other W6 (Or.inl ne_a1_m1)).other W12 (Or.inl ne_a1_m2)).other W18 (Or.inl ne_a1_m3)).other W25 (Or.inl ne_a1_m4)).other W31 (Or.inl ne_a1_m5)).other W37 (Or.inl ne_a1_m6)).other W41 (Or.inr (slot_ne (Or.inl (hw _ (List.mem_of_getElem? (i := 63) rfl))) (Or.inl (hw _ (List.mem_of_getElem? (i := 69) rfl))) (by decide) (t := .boolean) (t' := .int) (by decide) (by decide))))
  have fa45 := (((((((P5.other W6 (Or.inl ne_a1_m1)).other W12 (Or.inl ne_a1_m2)).other W18 (Or.inl ne_a1_m3)).other W25 (Or.inl ne_a1_m4)).other W31 (Or.inl ne_a1_m5)).other W37 (Or.inl ne_a1_m6)).other W41 (Or.inr (slot_ne (Or.inl (hw _ (List.mem_of_getElem? (i := 65) rfl))) (Or.inl (hw _ (List.mem_of_getElem? (i := 69) rfl))) (by decide) (t := (.array .char)) (t' := .int) (by decide) (by decide))))
  have fa46 := (((((((P6.other W6 (Or.inl ne_a1_m1)).other W12 (Or.inl ne_a1_m2)).other W18 (Or.inl ne_a1_m3)).other W25 (Or.inl ne_a1_m4)).other W31 (Or.inl ne_a1_m5)).other W37 (Or.inl ne_a1_m6)).other W41 (Or.inr (slot_ne (Or.inl (hw _ (List.mem_of_getElem? (i := 67) rfl))) (Or.inl (hw _ (List.mem_of_getElem? (i := 69) rfl))) (by decide) (t := (.array .char)) (t' := .int) (by decide) (by decide))))
  have fa47 := (((((((P8.other W6 (Or.inl ne_a1_m1)).other W12 (Or.inl ne_a1_m2)).other W18 (Or.inl ne_a1_m3)).other W25 (Or.inl ne_a1_m4)).other W31 (Or.inl ne_a1_m5)).other W37 (Or.inl ne_a1_m6)).other W41 (Or.inr (slot_ne (Or.inl (hw _ (List.mem_of_getElem? (i := 40) rfl))) (Or.inl (hw _ (List.mem_of_getElem? (i := 69) rfl))) (by decide) (t := (.array (.object "java/lang/String"))) (t' := .int) (by decide) (by decide))))
  have fa48 := ((((((fa7.other W12 (Or.inl ne_a1_m2)).other W18 (Or.inl ne_a1_m3)).other W25 (Or.inl ne_a1_m4)).other W31 (Or.inl ne_a1_m5)).other W37 (Or.inl ne_a1_m6)).other W41 (Or.inr (slot_ne (Or.inl (hw _ (List.mem_of_getElem? (i := 43) rfl))) (Or.inl (hw _ (List.mem_of_getElem? (i := 69) rfl))) (by decide) (t := (.array .boolean)) (t' := .int) (by decide) (by decide))))
  have fa49 := (((((fa13.other W18 (Or.inl ne_a1_m3)).other W25 (Or.inl ne_a1_m4)).other W31 (Or.inl ne_a1_m5)).other W37 (Or.inl ne_a1_m6)).other W41 (Or.inr (slot_ne (Or.inl (hw _ (List.mem_of_getElem? (i := 47) rfl))) (Or.inl (hw _ (List.mem_of_getElem? (i := 69) rfl))) (by decide) (t := (.array (.array .char))) (t' := .int) (by decide) (by decide))))
  have fa50 := ((((fa20.other W25 (Or.inl ne_a1_m4)).other W31 (Or.inl ne_a1_m5)).other W37 (Or.inl ne_a1_m6)).other W41 (Or.inr (slot_ne (Or.inl (hw _ (List.mem_of_getElem? (i := 50) rfl))) (Or.inl (hw _ (List.mem_of_getElem? (i := 69) rfl))) (by decide) (t := (.array .int)) (t' := .int) (by decide) (by decide))))
  have fa51 := (((fa26.other W31 (Or.inl ne_a1_m5)).other W37 (Or.inl ne_a1_m6)).other W41 (Or.inr (slot_ne (Or.inl (hw _ (List.mem_of_getElem? (i := 52) rfl))) (Or.inl (hw _ (List.mem_of_getElem? (i := 69) rfl))) (by decide) (t := (.array .int)) (t' := .int) (by decide) (by decide))))
  have fa52 := ((fa32.other W37 (Or.inl ne_a1_m6)).other W41 (Or.inr (slot_ne (Or.inl (hw _ (List.mem_of_getElem? (i := 54) rfl))) (Or.inl (hw _ (List.mem_of_getElem? (i := 69) rfl))) (by decide) (t := (.array (.object "java/lang/String"))) (t' := .int) (by decide) (by decide))))
  have fa53 := ((((((V6t.other W12 ne_m1_m2).other W18 ne_m1_m3).other W25 ne_m1_m4).other W31 ne_m1_m5).other W37 ne_m1_m6).other W41 (Ne.symm ne_a1_m1))
  have fa54 := (((((V12t.other W18 ne_m2_m3).other W25 ne_m2_m4).other W31 ne_m2_m5).other W37 ne_m2_m6).other W41 (Ne.symm ne_a1_m2))
  have fa55 := ((((V18t.other W25 ne_m3_m4).other W31 ne_m3_m5).other W37 ne_m3_m6).other W41 (Ne.symm ne_a1_m3))
  have fa56 := (((V25t.other W31 ne_m4_m5).other W37 ne_m4_m6).other W41 (Ne.symm ne_a1_m4))
  have fa57 := ((V31t.other W37 ne_m5_m6).other W41 (Ne.symm ne_a1_m5))
  have fa58 := (V37t.other W41 (Ne.symm ne_a1_m6))
  show Q9 Z a1 a2 p3 a4 p5 p6 u1 u2 u3 u4 m1 m2 m3 m4 m5 m6 kq1 kq2 kq3 kq4 kq5 kq6 ev1 ev2 ev3 ev4 ev5 ev6 h0 n0 _ T41.heap _
  rw [e41]
  exact ⟨rfl, N41, K41, fa42, fa43, fa44, fa45, fa46, Fw41, fa47, fa48, fa49, fa50, fa51, fa52, fa53, fa54, fa55, fa56, fa57, fa58⟩

theorem d9n_0 : decode prog_105_method_3_code 0 = .ok (.aload_n 0, 1) := by decide +kernel
theorem d9n_1 : decode prog_105_method_3_code 1 = .ok (.getfield 49, 3) := by decide +kernel
theorem d9n_4 : decode prog_105_method_3_code 4 = .ok (.aload_n 0, 1) := by decide +kernel
theorem d9n_5 : decode prog_105_method_3_code 5 = .ok (.getfield 11, 3) := by decide +kernel
theorem d9n_8 : decode prog_105_method_3_code 8 = .ok (.arraylength, 1) := by decide +kernel
theorem d9n_9 : decode prog_105_method_3_code 9 = .ok (.if_icmp .ne 98, 3) := by decide +kernel
theorem d9n_107 : decode prog_105_method_3_code 107 = .ok (.aload_n 0, 1) := by decide +kernel
theorem d9n_108 : decode prog_105_method_3_code 108 = .ok (.getfield 11, 3) := by decide +kernel
theorem d9n_111 : decode prog_105_method_3_code 111 = .ok (.aload_n 0, 1) := by decide +kernel
theorem d9n_112 : decode prog_105_method_3_code 112 = .ok (.getfield 49, 3) := by decide +kernel
theorem d9n_115 : decode prog_105_method_3_code 115 = .ok (.aload_n 1, 1) := by decide +kernel
theorem d9n_116 : decode prog_105_method_3_code 116 = .ok (.aastore, 1) := by decide +kernel
theorem d9n_117 : decode prog_105_method_3_code 117 = .ok (.aload_n 0, 1) := by decide +kernel
theorem d9n_118 : decode prog_105_method_3_code 118 = .ok (.getfield 15, 3) := by decide +kernel
theorem d9n_121 : decode prog_105_method_3_code 121 = .ok (.aload_n 0, 1) := by decide +kernel
theorem d9n_122 : decode prog_105_method_3_code 122 = .ok (.getfield 49, 3) := by decide +kernel
theorem d9n_125 : decode prog_105_method_3_code 125 = .ok (.iload_n 2, 1) := by decide +kernel
theorem d9n_126 : decode prog_105_method_3_code 126 = .ok (.bastore, 1) := by decide +kernel
theorem d9n_127 : decode prog_105_method_3_code 127 = .ok (.aload_n 0, 1) := by decide +kernel
theorem d9n_128 : decode prog_105_method_3_code 128 = .ok (.getfield 21, 3) := by decide +kernel
theorem d9n_131 : decode prog_105_method_3_code 131 = .ok (.aload_n 0, 1) := by decide +kernel
theorem d9n_132 : decode prog_105_method_3_code 132 = .ok (.getfield 49, 3) := by decide +kernel
theorem d9n_135 : decode prog_105_method_3_code 135 = .ok (.aload_n 3, 1) := by decide +kernel
theorem d9n_136 : decode prog_105_method_3_code 136 = .ok (.aastore, 1) := by decide +kernel
theorem d9n_137 : decode prog_105_method_3_code 137 = .ok (.aload_n 0, 1) := by decide +kernel
theorem d9n_138 : decode prog_105_method_3_code 138 = .ok (.getfield 25, 3) := by decide +kernel
theorem d9n_141 : decode prog_105_method_3_code 141 = .ok (.aload_n 0, 1) := by decide +kernel
theorem d9n_142 : decode prog_105_method_3_code 142 = .ok (.getfield 49, 3) := by decide +kernel
theorem d9n_145 : decode prog_105_method_3_code 145 = .ok (.iload 4, 2) := by decide +kernel
theorem d9n_147 : decode prog_105_method_3_code 147 = .ok (.iastore, 1) := by decide +kernel
theorem d9n_148 : decode prog_105_method_3_code 148 = .ok (.aload_n 0, 1) := by decide +kernel
theorem d9n_149 : decode prog_105_method_3_code 149 = .ok (.getfield 29, 3) := by decide +kernel
theorem d9n_152 : decode prog_105_method_3_code 152 = .ok (.aload_n 0, 1) := by decide +kernel
theorem d9n_153 : decode prog_105_method_3_code 153 = .ok (.getfield 49, 3) := by decide +kernel
theorem d9n_156 : decode prog_105_method_3_code 156 = .ok (.iload 5, 2) := by decide +kernel
theorem d9n_158 : decode prog_105_method_3_code 158 = .ok (.iastore, 1) := by decide +kernel
theorem d9n_159 : decode prog_105_method_3_code 159 = .ok (.aload_n 0, 1) := by decide +kernel
theorem d9n_160 : decode prog_105_method_3_code 160 = .ok (.getfield 32, 3) := by decide +kernel
theorem d9n_163 : decode prog_105_method_3_code 163 = .ok (.aload_n 0, 1) := by decide +kernel
theorem d9n_164 : decode prog_105_method_3_code 164 = .ok (.getfield 49, 3) := by decide +kernel
theorem d9n_167 : decode prog_105_method_3_code 167 = .ok (.aconst_null, 1) := by decide +kernel
theorem d9n_168 : decode prog_105_method_3_code 168 = .ok (.aastore, 1) := by decide +kernel
theorem d9n_169 : decode prog_105_method_3_code 169 = .ok (.aload_n 0, 1) := by decide +kernel
theorem d9n_170 : decode prog_105_method_3_code 170 = .ok (.dup, 1) := by decide +kernel
theorem d9n_171 : decode prog_105_method_3_code 171 = .ok (.getfield 49, 3) := by decide +kernel
theorem d9n_174 : decode prog_105_method_3_code 174 = .ok (.iconst 1, 1) := by decide +kernel
theorem d9n_175 : decode prog_105_method_3_code 175 = .ok (.iadd, 1) := by decide +kernel
theorem d9n_176 : decode prog_105_method_3_code 176 = .ok (.putfield 49, 3) := by decide +kernel
theorem d9n_179 : decode prog_105_method_3_code 179 = .ok (.return_, 1) := by decide +kernel
theorem pn_9n : plainName "com/example/scheherazade/scheherazade/reader/TagParts" = true := by first | (simp [plainName, overriddenIn]; done) | decide +kernel
theorem ef_9n (m : MethodId) (x0 : Addr) (x1 : Addr) (x2 : Int32) (x4 : Int32) (x5 : Int32) : entryFrame m #[(.ref x0), (.ref x1), (.int x2), .null, (.int x4), (.int x5)] 7 = mkF m 0 #[.val (.ref x0), .val (.ref x1), .val (.int x2), .val .null, .val (.int x4), .val (.int x5), .unset] [] := by first | (simp [entryFrame, mkF, argsToLocals, Value.category]; done) | rfl
def Q9n (Z : State) (a1 : Addr) (a2 : Addr) (p3 : Int32) (p5 : Int32) (p6 : Int32) (u1 : Value) (u2 : Value) (u3 : Value) (u4 : Value) (m1 : Addr) (m2 : Addr) (m3 : Addr) (m4 : Addr) (m5 : Addr) (m6 : Addr) (kq1 : ClassId) (kq2 : ClassId) (kq3 : ClassId) (kq4 : ClassId) (kq5 : ClassId) (kq6 : ClassId) (ev1 : Value) (ev2 : Int32) (ev3 : Value) (ev4 : Int32) (ev5 : Int32) (ev6 : Value) (h0 : Heap) (n0 : Nat) (v : Option Value) (h : Heap) (L : List Loc) : Prop := v = none ∧ Fr n0 L ∧ Keep h0 h [a1, m1, m2, m3, m4, m5, m6] ∧ Exa Z h a1 "com/example/scheherazade/scheherazade/reader/TagParts" ∧ Fld Z h a1 "com/example/scheherazade/scheherazade/reader/TagParts" "name" "Ljava/lang/String;" u1 ∧ Fld Z h a1 "com/example/scheherazade/scheherazade/reader/TagParts" "prefixed" "Z" u2 ∧ Fld Z h a1 "com/example/scheherazade/scheherazade/reader/TagParts" "nameSpelling" "[C" u3 ∧ Fld Z h a1 "com/example/scheherazade/scheherazade/reader/TagParts" "source" "[C" u4 ∧ Fld Z h a1 "com/example/scheherazade/scheherazade/reader/TagParts" "attributeCount" "I" (.int ((0 : Int32) + (1 : Int32))) ∧ Fld Z h a1 "com/example/scheherazade/scheherazade/reader/TagParts" "attributeNames" "[Ljava/lang/String;" (.ref m1) ∧ Fld Z h a1 "com/example/scheherazade/scheherazade/reader/TagParts" "attributePrefixes" "[Z" (.ref m2) ∧ Fld Z h a1 "com/example/scheherazade/scheherazade/reader/TagParts" "attributeSpellings" "[[C" (.ref m3) ∧ Fld Z h a1 "com/example/scheherazade/scheherazade/reader/TagParts" "valueStarts" "[I" (.ref m4) ∧ Fld Z h a1 "com/example/scheherazade/scheherazade/reader/TagParts" "valueLengths" "[I" (.ref m5) ∧ Fld Z h a1 "com/example/scheherazade/scheherazade/reader/TagParts" "attributeValues" "[Ljava/lang/String;" (.ref m6) ∧ Arv Z h m1 kq1 (.object "java/lang/String") (4 : Int32) [(.ref a2), .null, .null, .null] .null ∧ Arv Z h m2 kq2 .boolean (4 : Int32) [(.int (nar .boolean p3)), (.int (0 : Int32)), (.int (0 : Int32)), (.int (0 : Int32))] (.int (0 : Int32)) ∧ Arv Z h m3 kq3 (.array .char) (4 : Int32) [.null, .null, .null, .null] .null ∧ Arv Z h m4 kq4 .int (4 : Int32) [(.int p5), (.int (0 : Int32)), (.int (0 : Int32)), (.int (0 : Int32))] (.int (0 : Int32)) ∧ Arv Z h m5 kq5 .int (4 : Int32) [(.int p6), (.int (0 : Int32)), (.int (0 : Int32)), (.int (0 : Int32))] (.int (0 : Int32)) ∧ Arv Z h m6 kq6 (.object "java/lang/String") (4 : Int32) [.null, .null, .null, .null] .null
set_option maxRecDepth 65536 in
set_option maxHeartbeats 40000000 in
theorem rm9n (l : Launch) (Z : State) (a0 : Array Value) (hw : ∀ d ∈ tables_1, d.before a0 Z = true) (wds : List Jvm.Cond) (a1 : Addr) (a2 : Addr) (p3 : Int32) (p5 : Int32) (p6 : Int32) (u1 : Value) (u2 : Value) (u3 : Value) (u4 : Value) (m1 : Addr) (m2 : Addr) (m3 : Addr) (m4 : Addr) (m5 : Addr) (m6 : Addr) (kq1 : ClassId) (kq2 : ClassId) (kq3 : ClassId) (kq4 : ClassId) (kq5 : ClassId) (kq6 : ClassId) (ev1 : Value) (ev2 : Int32) (ev3 : Value) (ev4 : Int32) (ev5 : Int32) (ev6 : Value) (h0 : Heap) (n0 : Nat) (Z0 : n0 ≤ h0.size) (P0 : Exa Z h0 a1 "com/example/scheherazade/scheherazade/reader/TagParts") (P1 : Exa Z h0 a2 "java/lang/String") (P2 : Fld Z h0 a1 "com/example/scheherazade/scheherazade/reader/TagParts" "name" "Ljava/lang/String;" u1) (P3 : Fld Z h0 a1 "com/example/scheherazade/scheherazade/reader/TagParts" "prefixed" "Z" u2) (P4 : Fld Z h0 a1 "com/example/scheherazade/scheherazade/reader/TagParts" "nameSpelling" "[C" u3) (P5 : Fld Z h0 a1 "com/example/scheherazade/scheherazade/reader/TagParts" "source" "[C" u4) (P6 : Fld Z h0 a1 "com/example/scheherazade/scheherazade/reader/TagParts" "attributeCount" "I" (.int (0 : Int32))) (P7 : Fld Z h0 a1 "com/example/scheherazade/scheherazade/reader/TagParts" "attributeNames" "[Ljava/lang/String;" (.ref m1)) (P8 : Fld Z h0 a1 "com/example/scheherazade/scheherazade/reader/TagParts" "attributePrefixes" "[Z" (.ref m2)) (P9 : Fld Z h0 a1 "com/example/scheherazade/scheherazade/reader/TagParts" "attributeSpellings" "[[C" (.ref m3)) (P10 : Fld Z h0 a1 "com/example/scheherazade/scheherazade/reader/TagParts" "valueStarts" "[I" (.ref m4)) (P11 : Fld Z h0 a1 "com/example/scheherazade/scheherazade/reader/TagParts" "valueLengths" "[I" (.ref m5)) (P12 : Fld Z h0 a1 "com/example/scheherazade/scheherazade/reader/TagParts" "attributeValues" "[Ljava/lang/String;" (.ref m6)) (P13 : Arv Z h0 m1 kq1 (.object "java/lang/String") (4 : Int32) [ev1, .null, .null, .null] .null) (P14 : Arv Z h0 m2 kq2 .boolean (4 : Int32) [(.int ev2), (.int (0 : Int32)), (.int (0 : Int32)), (.int (0 : Int32))] (.int (0 : Int32))) (P15 : Arv Z h0 m3 kq3 (.array .char) (4 : Int32) [ev3, .null, .null, .null] .null) (P16 : Arv Z h0 m4 kq4 .int (4 : Int32) [(.int ev4), (.int (0 : Int32)), (.int (0 : Int32)), (.int (0 : Int32))] (.int (0 : Int32))) (P17 : Arv Z h0 m5 kq5 .int (4 : Int32) [(.int ev5), (.int (0 : Int32)), (.int (0 : Int32)), (.int (0 : Int32))] (.int (0 : Int32))) (P18 : Arv Z h0 m6 kq6 (.object "java/lang/String") (4 : Int32) [ev6, .null, .null, .null] .null) (g_a1 : n0 ≤ a1) (g_m1 : n0 ≤ m1) (g_m2 : n0 ≤ m2) (g_m3 : n0 ≤ m3) (g_m4 : n0 ≤ m4) (g_m5 : n0 ≤ m5) (g_m6 : n0 ≤ m6) (ne_a1_m1 : a1 ≠ m1) (ne_a1_m2 : a1 ≠ m2) (ne_a1_m3 : a1 ≠ m3) (ne_a1_m4 : a1 ≠ m4) (ne_a1_m5 : a1 ≠ m5) (ne_a1_m6 : a1 ≠ m6) (ne_m1_m2 : m1 ≠ m2) (ne_m1_m3 : m1 ≠ m3) (ne_m1_m4 : m1 ≠ m4) (ne_m1_m5 : m1 ≠ m5) (ne_m1_m6 : m1 ≠ m6) (ne_m2_m3 : m2 ≠ m3) (ne_m2_m4 : m2 ≠ m4) (ne_m2_m5 : m2 ≠ m5) (ne_m2_m6 : m2 ≠ m6) (ne_m3_m4 : m3 ≠ m4) (ne_m3_m5 : m3 ≠ m5) (ne_m3_m6 : m3 ≠ m6) (ne_m4_m5 : m4 ≠ m5) (ne_m4_m6 : m4 ≠ m6) (ne_m5_m6 : m5 ≠ m6) (ov1 : Ovr Z kq1 "java/lang/String") (ov3 : OvrA Z kq3 .char "[C") (ov6 : Ovr Z kq6 "java/lang/String") :
    MetFree l (⟨"com/example/scheherazade/scheherazade/reader/TagParts", "addAttribute", "(Ljava/lang/String;Z[CII)V"⟩ : MethodName) (head1 (Jvm.Cond.code (⟨"com/example/scheherazade/scheherazade/reader/TagParts", "addAttribute", "(Ljava/lang/String;Z[CII)V"⟩ : MethodName) prog_105_method_3_code 7 none :: wds) ({ frames := 0, cells := 0, slots := 0, locals := 0 } : Room)) (fun a U => a = #[(.ref a1), (.ref a2), (.int p3), .null, (.int p5), (.int p6)] ∧ Z.Warmed39 U.vm ∧ U.heap = h0) (fun _ _ _ _ _ => True) (fun _ U o U' => ∃ v L, o = .returned v ∧ Q9n Z a1 a2 p3 p5 p6 u1 u2 u3 u4 m1 m2 m3 m4 m5 m6 kq1 kq2 kq3 kq4 kq5 kq6 ev1 ev2 ev3 ev4 ev5 ev6 h0 n0 v U'.heap L ∧ FrameEnd U o U' L ({ frames := 0, cells := 0, slots := 0, locals := 0 } : Room).cells ({ frames := 0, cells := 0, slots := 0, locals := 0 } : Room).slots) := by
  refine MetFree.of_bodySF (plainFor_of_name pn_9n) hisR ?_
  intro p e s m args below meth c s₁ Bd hml0 hP hK
  obtain ⟨rfl, hZ, hh⟩ := hP
  have hx := Bd.exec
  have hby := Bd.bytes
  have hml : c.maxLocals = 7 := hml0
  have hown : s.vm.findClass "com/example/scheherazade/scheherazade/reader/TagParts" = some m.cls := findClass_of_methodNamed Bd.named
  have hnm := (name_of_methodNamed Bd.named Bd.method).1
  have X0 : Stand p l e ({ frames := 0, cells := 0, slots := 0, locals := 0 } : Room) s m #[(.ref a1), (.ref a2), (.int p3), .null, (.int p5), (.int p6)] below meth c s₁ [] 0 0 := Stand.of_body Bd
  have e0 : s₁.heap = h0 := by rw [← hh, Bd.state]; rfl
  have N0 := Fr.nil n0
  refine own_start (Q := Q9n Z a1 a2 p3 p5 p6 u1 u2 u3 u4 m1 m2 m3 m4 m5 m6 kq1 kq2 kq3 kq4 kq5 kq6 ev1 ev2 ev3 ev4 ev5 ev6 h0 n0) (C := ({ frames := 0, cells := 0, slots := 0, locals := 0 } : Room).cells) (S := ({ frames := 0, cells := 0, slots := 0, locals := 0 } : Room).slots) ?_
  rw [ef_9n m a1 a2 p3 p5 p6]
  have K0 : Keep h0 h0 [a1, m1, m2, m3, m4, m5, m6] := Keep.refl h0 [a1, m1, m2, m3, m4, m5, m6]
  refine Gen.on (b := s₁.setTop (mkF m 1 #[.val (.ref a1), .val (.ref a2), .val (.int p3), .val .null, .val (.int p5), .val (.int p6), .unset] [(.ref a1)])) ?_ (fun t k => XS.aloadN X0.here hx rfl (hb hby d9n_0) rfl rfl k)
  obtain ⟨T1, X1, e1, st1⟩ := getF X0 hx hZ hown (host := "") (Or.inl (hw _ (List.mem_of_getElem? (i := 68) rfl))) Via.refl e0 P6 (g := (mkF m 1 #[.val (.ref a1), .val (.ref a2), .val (.int p3), .val .null, .val (.int p5), .val (.int p6), .unset] [(.ref a1)])) rfl rfl (hb hby d9n_1)
  refine Gen.on (b := T1.setTop (mkF m 4 #[.val (.ref a1), .val (.ref a2), .val (.int p3), .val .null, .val (.int p5), .val (.int p6), .unset] [(.int (0 : Int32))])) ?_ (fun t k => st1 t k)
  refine Gen.on (b := T1.setTop (mkF m 5 #[.val (.ref a1), .val (.ref a2), .val (.int p3), .val .null, .val (.int p5), .val (.int p6), .unset] [(.ref a1), (.int (0 : Int32))])) ?_ (fun t k => XS.aloadN X1.here hx rfl (hb hby d9n_4) rfl rfl k)
  obtain ⟨T2, X2, e2, st2⟩ := getF X1 hx hZ hown (host := "") (Or.inl (hw _ (List.mem_of_getElem? (i := 39) rfl))) Via.refl e1 P7 (g := (mkF m 5 #[.val (.ref a1), .val (.ref a2), .val (.int p3), .val .null, .val (.int p5), .val (.int p6), .unset] [(.ref a1), (.int (0 : Int32))])) rfl rfl (hb hby d9n_5)
  refine Gen.on (b := T2.setTop (mkF m 8 #[.val (.ref a1), .val (.ref a2), .val (.int p3), .val .null, .val (.int p5), .val (.int p6), .unset] [(.ref m1), (.int (0 : Int32))])) ?_ (fun t k => st2 t k)
  obtain ⟨cl3, Ar3, qA3, SA3, NA3, HA3, GA3⟩ := id P13
  refine Gen.on (b := T2.setTop (mkF m 9 #[.val (.ref a1), .val (.ref a2), .val (.int p3), .val .null, .val (.int p5), .val (.int p6), .unset] [(.int (4 : Int32)), (.int (0 : Int32))])) ?_ (fun t k => X2.arraylength hx (by rw [e2]; exact Ar3.1) (State.isArrayOf_alike hZ.alike Ar3.2.1) (g := (mkF m 8 #[.val (.ref a1), .val (.ref a2), .val (.int p3), .val .null, .val (.int p5), .val (.int p6), .unset] [(.ref m1), (.int (0 : Int32))])) rfl rfl (hb hby d9n_8) t (by rw [len_of SA3 NA3]; exact k))
  refine Gen.on (b := T2.setTop (mkF m 107 #[.val (.ref a1), .val (.ref a2), .val (.int p3), .val .null, .val (.int p5), .val (.int p6), .unset] [])) ?_ (fun t k => XS.icmpYes X2.here hx rfl (pc0 := 9) (pc' := 107) rfl (hb hby d9n_9) rfl (feq (by decide : ¬ ((0 : Int32) = (4 : Int32)))).2 (by decide) (by decide) k)
  refine Gen.on (b := T2.setTop (mkF m 108 #[.val (.ref a1), .val (.ref a2), .val (.int p3), .val .null, .val (.int p5), .val (.int p6), .unset] [(.ref a1)])) ?_ (fun t k => XS.aloadN X2.here hx rfl (hb hby d9n_107) rfl rfl k)
  obtain ⟨T4, X4, e4, st4⟩ := getF X2 hx hZ hown (host := "") (Or.inl (hw _ (List.mem_of_getElem? (i := 39) rfl))) Via.refl e2 P7 (g := (mkF m 108 #[.val (.ref a1), .val (.ref a2), .val (.int p3), .val .null, .val (.int p5), .val (.int p6), .unset] [(.ref a1)])) rfl rfl (hb hby d9n_108)
  refine Gen.on (b := T4.setTop (mkF m 111 #[.val (.ref a1), .val (.ref a2), .val (.int p3), .val .null, .val (.int p5), .val (.int p6), .unset] [(.ref m1)])) ?_ (fun t k => st4 t k)
  refine Gen.on (b := T4.setTop (mkF m 112 #[.val (.ref a1), .val (.ref a2), .val (.int p3), .val .null, .val (.int p5), .val (.int p6), .unset] [(.ref a1), (.ref m1)])) ?_ (fun t k => XS.aloadN X4.here hx rfl (hb hby d9n_111) rfl rfl k)
  obtain ⟨T5, X5, e5, st5⟩ := getF X4 hx hZ hown (host := "") (Or.inl (hw _ (List.mem_of_getElem? (i := 68) rfl))) Via.refl e4 P6 (g := (mkF m 112 #[.val (.ref a1), .val (.ref a2), .val (.int p3), .val .null, .val (.int p5), .val (.int p6), .unset] [(.ref a1), (.ref m1)])) rfl rfl (hb hby d9n_112)
  refine Gen.on (b := T5.setTop (mkF m 115 #[.val (.ref a1), .val (.ref a2), .val (.int p3), .val .null, .val (.int p5), .val (.int p6), .unset] [(.int (0 : Int32)), (.ref m1)])) ?_ (fun t k => st5 t k)
  refine Gen.on (b := T5.setTop (mkF m 116 #[.val (.ref a1), .val (.ref a2), .val (.int p3), .val .null, .val (.int p5), .val (.int p6), .unset] [(.ref a2), (.int (0 : Int32)), (.ref m1)])) ?_ (fun t k => XS.aloadN X5.here hx rfl (hb hby d9n_115) rfl rfl k)
  obtain ⟨cl6, Ar6, qA6, SA6, NA6, HA6, GA6⟩ := id P13
  have hin6 : ¬ ((0 : Int32) < 0 ∨ cl6.slots.size ≤ ((0 : Int32)).toNatClampNeg) := inb_of SA6 ⟨by decide, by decide⟩
  obtain ⟨T6, h6, X6, e6, W6, st6⟩ := stR X5 hx hZ e5 Ar6 (j := (0 : Int32)) hin6 rfl (Sto.ofV Ar6 qA6 ov1 (Ins.self P1)) (g := (mkF m 116 #[.val (.ref a1), .val (.ref a2), .val (.int p3), .val .null, .val (.int p5), .val (.int p6), .unset] [(.ref a2), (.int (0 : Int32)), (.ref m1)])) rfl rfl (hb hby d9n_116)
  have V6 := Arv.set Ar6 qA6 SA6 NA6 HA6 GA6 rfl W6 0 rfl (Nat.le_of_ble_eq_true rfl)
  have Z6 : n0 ≤ h6.size := Nat.le_trans Z0 (Keep.of_wr W6).1
  have K6 : Keep h0 h6 [a1, m1, m2, m3, m4, m5, m6] := K0.wr W6 (Or.inl (List.mem_of_getElem? (i := 1) rfl))
  have N6 := Fr.snoc X6 N0 g_m1
  have V6t : Arv Z h6 m1 kq1 (.object "java/lang/String") (4 : Int32) [(.ref a2), .null, .null, .null] .null := V6
  refine Gen.on (b := T6.setTop (mkF m 117 #[.val (.ref a1), .val (.ref a2), .val (.int p3), .val .null, .val (.int p5), .val (.int p6), .unset] [])) ?_ (fun t k => st6 t k)
  refine Gen.on (b := T6.setTop (mkF m 118 #[.val (.ref a1), .val (.ref a2), .val (.int p3), .val .null, .val (.int p5), .val (.int p6), .unset] [(.ref a1)])) ?_ (fun t k => XS.aloadN X6.here hx rfl (hb hby d9n_117) rfl rfl k)
  have fa7 := (P8.other W6 (Or.inl ne_a1_m1))
  obtain ⟨T8, X8, e8, st8⟩ := getF X6 hx hZ hown (host := "") (Or.inl (hw _ (List.mem_of_getElem? (i := 42) rfl))) Via.refl e6 fa7 (g := (mkF m 118 #[.val (.ref a1), .val (.ref a2), .val (.int p3), .val .null, .val (.int p5), .val (.int p6), .unset] [(.ref a1)])) rfl rfl (hb hby d9n_118)
  refine Gen.on (b := T8.setTop (mkF m 121 #[.val (.ref a1), .val (.ref a2), .val (.int p3), .val .null, .val (.int p5), .val (.int p6), .unset] [(.ref m2)])) ?_ (fun t k => st8 t k)
  refine Gen.on (b := T8.setTop (mkF m 122 #[.val (.ref a1), .val (.ref a2), .val (.int p3), .val .null, .val (.int p5), .val (.int p6), .unset] [(.ref a1), (.ref m2)])) ?_ (fun t k => XS.aloadN X8.here hx rfl (hb hby d9n_121) rfl rfl k)
  have fa9 := (P6.other W6 (Or.inl ne_a1_m1))
  obtain ⟨T10, X10, e10, st10⟩ := getF X8 hx hZ hown (host := "") (Or.inl (hw _ (List.mem_of_getElem? (i := 68) rfl))) Via.refl e8 fa9 (g := (mkF m 122 #[.val (.ref a1), .val (.ref a2), .val (.int p3), .val .null, .val (.int p5), .val (.int p6), .unset] [(.ref a1), (.ref m2)])) rfl rfl (hb hby d9n_122)
  refine Gen.on (b := T10.setTop (mkF m 125 #[.val (.ref a1), .val (.ref a2), .val (.int p3), .val .null, .val (.int p5), .val (.int p6), .unset] [(.int (0 : Int32)), (.ref m2)])) ?_ (fun t k => st10 t k)
  refine Gen.on (b := T10.setTop (mkF m 126 #[.val (.ref a1), .val (.ref a2), .val (.int p3), .val .null, .val (.int p5), .val (.int p6), .unset] [(.int p3), (.int (0 : Int32)), (.ref m2)])) ?_ (fun t k => XS.iloadN X10.here hx rfl (hb hby d9n_125) rfl k)
  have fa11 := (P14.other W6 (Ne.symm ne_m1_m2))
  obtain ⟨cl12, Ar12, qA12, SA12, NA12, HA12, GA12⟩ := id fa11
  have hin12 : ¬ ((0 : Int32) < 0 ∨ cl12.slots.size ≤ ((0 : Int32)).toNatClampNeg) := inb_of SA12 ⟨by decide, by decide⟩
  obtain ⟨T12, h12, X12, e12, W12, st12⟩ := stZ X10 hx hZ e10 Ar12 (j := (0 : Int32)) hin12 (g := (mkF m 126 #[.val (.ref a1), .val (.ref a2), .val (.int p3), .val .null, .val (.int p5), .val (.int p6), .unset] [(.int p3), (.int (0 : Int32)), (.ref m2)])) rfl rfl (hb hby d9n_126)
  have V12 := Arv.set Ar12 qA12 SA12 NA12 HA12 GA12 (fits_nar_bool _) W12 0 rfl (Nat.le_of_ble_eq_true rfl)
  have Z12 : n0 ≤ h12.size := Nat.le_trans Z6 (Keep.of_wr W12).1
  have K12 : Keep h0 h12 [a1, m1, m2, m3, m4, m5, m6] := K6.wr W12 (Or.inl (List.mem_of_getElem? (i := 2) rfl))
  have N12 := Fr.snoc X12 N6 g_m2
  have V12t : Arv Z h12 m2 kq2 .boolean (4 : Int32) [(.int (nar .boolean p3)), (.int (0 : Int32)), (.int (0 : Int32)), (.int (0 : Int32))] (.int (0 : Int32)) := V12
  refine Gen.on (b := T12.setTop (mkF m 127 #[.val (.ref a1), .val (.ref a2), .val (.int p3), .val .null, .val (.int p5), .val (.int p6), .unset] [])) ?_ (fun t k => st12 t k)
  refine Gen.on (b := T12.setTop (mkF m 128 #[.val (.ref a1), .val (.ref a2), .val (.int p3), .val .null, .val (.int p5), .val (.int p6), .unset] [(.ref a1)])) ?_ (fun t k => XS.aloadN X12.here hx rfl (hb hby d9n_127) rfl rfl k)
  have fa13 := ((P9.other W6 (Or.inl ne_a1_m1)).other W12 (Or.inl ne_a1_m2))
  obtain ⟨T14, X14, e14, st14⟩ := getF X12 hx hZ hown (host := "") (Or.inl (hw _ (List.mem_of_getElem? (i := 46) rfl))) Via.refl e12 fa13 (g := (mkF m 128 #[.val (.ref a1), .val (.ref a2), .val (.int p3), .val .null, .val (.int p5), .val (.int p6), .unset] [(.ref a1)])) rfl rfl (hb hby d9n_128)
  refine Gen.on (b := T14.setTop (mkF m 131 #[.val (.ref a1), .val (.ref a2), .val (.int p3), .val .null, .val (.int p5), .val (.int p6), .unset] [(.ref m3)])) ?_ (fun t k => st14 t k)
  refine Gen.on (b := T14.setTop (mkF m 132 #[.val (.ref a1), .val (.ref a2), .val (.int p3), .val .null, .val (.int p5), .val (.int p6), .unset] [(.ref a1), (.ref m3)])) ?_ (fun t k => XS.aloadN X14.here hx rfl (hb hby d9n_131) rfl rfl k)
  have fa15 := (fa9.other W12 (Or.inl ne_a1_m2))
  obtain ⟨T16, X16, e16, st16⟩ := getF X14 hx hZ hown (host := "") (Or.inl (hw _ (List.mem_of_getElem? (i := 68) rfl))) Via.refl e14 fa15 (g := (mkF m 132 #[.val (.ref a1), .val (.ref a2), .val (.int p3), .val .null, .val (.int p5), .val (.int p6), .unset] [(.ref a1), (.ref m3)])) rfl rfl (hb hby d9n_132)
  refine Gen.on (b := T16.setTop (mkF m 135 #[.val (.ref a1), .val (.ref a2), .val (.int p3), .val .null, .val (.int p5), .val (.int p6), .unset] [(.int (0 : Int32)), (.ref m3)])) ?_ (fun t k => st16 t k)
  refine Gen.on (b := T16.setTop (mkF m 136 #[.val (.ref a1), .val (.ref a2), .val (.int p3), .val .null, .val (.int p5), .val (.int p6), .unset] [.null, (.int (0 : Int32)), (.ref m3)])) ?_ (fun t k => XS.aloadN X16.here hx rfl (hb hby d9n_135) rfl rfl k)
  have fa17 := ((P15.other W6 (Ne.symm ne_m1_m3)).other W12 (Ne.symm ne_m2_m3))
  obtain ⟨cl18, Ar18, qA18, SA18, NA18, HA18, GA18⟩ := id fa17
  have hin18 : ¬ ((0 : Int32) < 0 ∨ cl18.slots.size ≤ ((0 : Int32)).toNatClampNeg) := inb_of SA18 ⟨by decide, by decide⟩
  obtain ⟨T18, h18, X18, e18, W18, st18⟩ := stR X16 hx hZ e16 Ar18 (j := (0 : Int32)) hin18 rfl (Or.inl rfl) (g := (mkF m 136 #[.val (.ref a1), .val (.ref a2), .val (.int p3), .val .null, .val (.int p5), .val (.int p6), .unset] [.null, (.int (0 : Int32)), (.ref m3)])) rfl rfl (hb hby d9n_136)
  have V18 := Arv.set Ar18 qA18 SA18 NA18 HA18 GA18 rfl W18 0 rfl (Nat.le_of_ble_eq_true rfl)
  have Z18 : n0 ≤ h18.size := Nat.le_trans Z12 (Keep.of_wr W18).1
  have K18 : Keep h0 h18 [a1, m1, m2, m3, m4, m5, m6] := K12.wr W18 (Or.inl (List.mem_of_getElem? (i := 3) rfl))
  have N18 := Fr.snoc X18 N12 g_m3
  have V18t : Arv Z h18 m3 kq3 (.array .char) (4 : Int32) [.null, .null, .null, .null] .null := V18
  refine Gen.on (b := T18.setTop (mkF m 137 #[.val (.ref a1), .val (.ref a2), .val (.int p3), .val .null, .val (.int p5), .val (.int p6), .unset] [])) ?_ (fun t k => st18 t k)
  refine Gen.on (b := T18.setTop (mkF m 138 #[.val (.ref a1), .val (.ref a2), .val (.int p3), .val .null, .val (.int p5), .val (.int p6), .unset] [(.ref a1)])) ?_ (fun t k => XS.aloadN X18.here hx rfl (hb hby d9n_137) rfl rfl k)
  have fa19 := (((P10.other W6 (Or.inl ne_a1_m1)).other W12 (Or.inl ne_a1_m2)).other W18 (Or.inl ne_a1_m3))
  obtain ⟨T20, X20, e20, st20⟩ := getF X18 hx hZ hown (host := "") (Or.inl (hw _ (List.mem_of_getElem? (i := 49) rfl))) Via.refl e18 fa19 (g := (mkF m 138 #[.val (.ref a1), .val (.ref a2), .val (.int p3), .val .null, .val (.int p5), .val (.int p6), .unset] [(.ref a1)])) rfl rfl (hb hby d9n_138)
  refine Gen.on (b := T20.setTop (mkF m 141 #[.val (.ref a1), .val (.ref a2), .val (.int p3), .val .null, .val (.int p5), .val (.int p6), .unset] [(.ref m4)])) ?_ (fun t k => st20 t k)
  refine Gen.on (b := T20.setTop (mkF m 142 #[.val (.ref a1), .val (.ref a2), .val (.int p3), .val .null, .val (.int p5), .val (.int p6), .unset] [(.ref a1), (.ref m4)])) ?_ (fun t k => XS.aloadN X20.here hx rfl (hb hby d9n_141) rfl rfl k)
  have fa21 := (fa15.other W18 (Or.inl ne_a1_m3))
  obtain ⟨T22, X22, e22, st22⟩ := getF X20 hx hZ hown (host := "") (Or.inl (hw _ (List.mem_of_getElem? (i := 68) rfl))) Via.refl e20 fa21 (g := (mkF m 142 #[.val (.ref a1), .val (.ref a2), .val (.int p3), .val .null, .val (.int p5), .val (.int p6), .unset] [(.ref a1), (.ref m4)])) rfl rfl (hb hby d9n_142)
  refine Gen.on (b := T22.setTop (mkF m 145 #[.val (.ref a1), .val (.ref a2), .val (.int p3), .val .null, .val (.int p5), .val (.int p6), .unset] [(.int (0 : Int32)), (.ref m4)])) ?_ (fun t k => st22 t k)
  refine Gen.on (b := T22.setTop (mkF m 147 #[.val (.ref a1), .val (.ref a2), .val (.int p3), .val .null, .val (.int p5), .val (.int p6), .unset] [(.int p5), (.int (0 : Int32)), (.ref m4)])) ?_ (fun t k => XS.iload X22.here hx rfl (hb hby d9n_145) rfl k)
  have fa23 := (((P16.other W6 (Ne.symm ne_m1_m4)).other W12 (Ne.symm ne_m2_m4)).other W18 (Ne.symm ne_m3_m4))
  obtain ⟨cl24, Ar24, qA24, SA24, NA24, HA24, GA24⟩ := id fa23
  have hin24 : ¬ ((0 : Int32) < 0 ∨ cl24.slots.size ≤ ((0 : Int32)).toNatClampNeg) := inb_of SA24 ⟨by decide, by decide⟩
  obtain ⟨T24, h24, X24, e24, W24, st24⟩ := stI X22 hx hZ e22 Ar24 (j := (0 : Int32)) hin24 (g := (mkF m 147 #[.val (.ref a1), .val (.ref a2), .val (.int p3), .val .null, .val (.int p5), .val (.int p6), .unset] [(.int p5), (.int (0 : Int32)), (.ref m4)])) rfl rfl (hb hby d9n_147)
  have V24 := Arv.set Ar24 qA24 SA24 NA24 HA24 GA24 rfl W24 0 rfl (Nat.le_of_ble_eq_true rfl)
  have Z24 : n0 ≤ h24.size := Nat.le_trans Z18 (Keep.of_wr W24).1
  have K24 : Keep h0 h24 [a1, m1, m2, m3, m4, m5, m6] := K18.wr W24 (Or.inl (List.mem_of_getElem? (i := 4) rfl))
  have N24 := Fr.snoc X24 N18 g_m4
  have V24t : Arv Z h24 m4 kq4 .int (4 : Int32) [(.int p5), (.int (0 : Int32)), (.int (0 : Int32)), (.int (0 : Int32))] (.int (0 : Int32)) := V24
  refine Gen.on (b := T24.setTop (mkF m 148 #[.val (.ref a1), .val (.ref a2), .val (.int p3), .val .null, .val (.int p5), .val (.int p6), .unset] [])) ?_ (fun t k => st24 t k)
  refine Gen.on (b := T24.setTop (mkF m 149 #[.val (.ref a1), .val (.ref a2), .val (.int p3), .val .null, .val (.int p5), .val (.int p6), .unset] [(.ref a1)])) ?_ (fun t k => XS.aloadN X24.here hx rfl (hb hby d9n_148) rfl rfl k)
  have fa25 := ((((P11.other W6 (Or.inl ne_a1_m1)).other W12 (Or.inl ne_a1_m2)).other W18 (Or.inl ne_a1_m3)).other W24 (Or.inl ne_a1_m4))
  obtain ⟨T26, X26, e26, st26⟩ := getF X24 hx hZ hown (host := "") (Or.inl (hw _ (List.mem_of_getElem? (i := 51) rfl))) Via.refl e24 fa25 (g := (mkF m 149 #[.val (.ref a1), .val (.ref a2), .val (.int p3), .val .null, .val (.int p5), .val (.int p6), .unset] [(.ref a1)])) rfl rfl (hb hby d9n_149)
  refine Gen.on (b := T26.setTop (mkF m 152 #[.val (.ref a1), .val (.ref a2), .val (.int p3), .val .null, .val (.int p5), .val (.int p6), .unset] [(.ref m5)])) ?_ (fun t k => st26 t k)
  refine Gen.on (b := T26.setTop (mkF m 153 #[.val (.ref a1), .val (.ref a2), .val (.int p3), .val .null, .val (.int p5), .val (.int p6), .unset] [(.ref a1), (.ref m5)])) ?_ (fun t k => XS.aloadN X26.here hx rfl (hb hby d9n_152) rfl rfl k)
  have fa27 := (fa21.other W24 (Or.inl ne_a1_m4))
  obtain ⟨T28, X28, e28, st28⟩ := getF X26 hx hZ hown (host := "") (Or.inl (hw _ (List.mem_of_getElem? (i := 68) rfl))) Via.refl e26 fa27 (g := (mkF m 153 #[.val (.ref a1), .val (.ref a2), .val (.int p3), .val .null, .val (.int p5), .val (.int p6), .unset] [(.ref a1), (.ref m5)])) rfl rfl (hb hby d9n_153)
  refine Gen.on (b := T28.setTop (mkF m 156 #[.val (.ref a1), .val (.ref a2), .val (.int p3), .val .null, .val (.int p5), .val (.int p6), .unset] [(.int (0 : Int32)), (.ref m5)])) ?_ (fun t k => st28 t k)
  refine Gen.on (b := T28.setTop (mkF m 158 #[.val (.ref a1), .val (.ref a2), .val (.int p3), .val .null, .val (.int p5), .val (.int p6), .unset] [(.int p6), (.int (0 : Int32)), (.ref m5)])) ?_ (fun t k => XS.iload X28.here hx rfl (hb hby d9n_156) rfl k)
  have fa29 := ((((P17.other W6 (Ne.symm ne_m1_m5)).other W12 (Ne.symm ne_m2_m5)).other W18 (Ne.symm ne_m3_m5)).other W24 (Ne.symm ne_m4_m5))
  obtain ⟨cl30, Ar30, qA30, SA30, NA30, HA30, GA30⟩ := id fa29
  have hin30 : ¬ ((0 : Int32) < 0 ∨ cl30.slots.size ≤ ((0 : Int32)).toNatClampNeg) := inb_of SA30 ⟨by decide, by decide⟩
  obtain ⟨T30, h30, X30, e30, W30, st30⟩ := stI X28 hx hZ e28 Ar30 (j := (0 : Int32)) hin30 (g := (mkF m 158 #[.val (.ref a1), .val (.ref a2), .val (.int p3), .val .null, .val (.int p5), .val (.int p6), .unset] [(.int p6), (.int (0 : Int32)), (.ref m5)])) rfl rfl (hb hby d9n_158)
  have V30 := Arv.set Ar30 qA30 SA30 NA30 HA30 GA30 rfl W30 0 rfl (Nat.le_of_ble_eq_true rfl)
  have Z30 : n0 ≤ h30.size := Nat.le_trans Z24 (Keep.of_wr W30).1
  have K30 : Keep h0 h30 [a1, m1, m2, m3, m4, m5, m6] := K24.wr W30 (Or.inl (List.mem_of_getElem? (i := 5) rfl))
  have N30 := Fr.snoc X30 N24 g_m5
  have V30t : Arv Z h30 m5 kq5 .int (4 : Int32) [(.int p6), (.int (0 : Int32)), (.int (0 : Int32)), (.int (0 : Int32))] (.int (0 : Int32)) := V30
  refine Gen.on (b := T30.setTop (mkF m 159 #[.val (.ref a1), .val (.ref a2), .val (.int p3), .val .null, .val (.int p5), .val (.int p6), .unset] [])) ?_ (fun t k => st30 t k)
  refine Gen.on (b := T30.setTop (mkF m 160 #[.val (.ref a1), .val (.ref a2), .val (.int p3), .val .null, .val (.int p5), .val (.int p6), .unset] [(.ref a1)])) ?_ (fun t k => XS.aloadN X30.here hx rfl (hb hby d9n_159) rfl rfl k)
  have fa31 := (((((P12.other W6 (Or.inl ne_a1_m1)).other W12 (Or.inl ne_a1_m2)).other W18 (Or.inl ne_a1_m3)).other W24 (Or.inl ne_a1_m4)).other W30 (Or.inl ne_a1_m5))
  obtain ⟨T32, X32, e32, st32⟩ := getF X30 hx hZ hown (host := "") (Or.inl (hw _ (List.mem_of_getElem? (i := 53) rfl))) Via.refl e30 fa31 (g := (mkF m 160 #[.val (.ref a1), .val (.ref a2), .val (.int p3), .val .null, .val (.int p5), .val (.int p6), .unset] [(.ref a1)])) rfl rfl (hb hby d9n_160)
  refine Gen.on (b := T32.setTop (mkF m 163 #[.val (.ref a1), .val (.ref a2), .val (.int p3), .val .null, .val (.int p5), .val (.int p6), .unset] [(.ref m6)])) ?_ (fun t k => st32 t k)
  refine Gen.on (b := T32.setTop (mkF m 164 #[.val (.ref a1), .val (.ref a2), .val (.int p3), .val .null, .val (.int p5), .val (.int p6), .unset] [(.ref a1), (.ref m6)])) ?_ (fun t k => XS.aloadN X32.here hx rfl (hb hby d9n_163) rfl rfl k)
  have fa33 := (fa27.other W30 (Or.inl ne_a1_m5))
  obtain ⟨T34, X34, e34, st34⟩ := getF X32 hx hZ hown (host := "") (Or.inl (hw _ (List.mem_of_getElem? (i := 68) rfl))) Via.refl e32 fa33 (g := (mkF m 164 #[.val (.ref a1), .val (.ref a2), .val (.int p3), .val .null, .val (.int p5), .val (.int p6), .unset] [(.ref a1), (.ref m6)])) rfl rfl (hb hby d9n_164)
  refine Gen.on (b := T34.setTop (mkF m 167 #[.val (.ref a1), .val (.ref a2), .val (.int p3), .val .null, .val (.int p5), .val (.int p6), .unset] [(.int (0 : Int32)), (.ref m6)])) ?_ (fun t k => st34 t k)
  refine Gen.on (b := T34.setTop (mkF m 168 #[.val (.ref a1), .val (.ref a2), .val (.int p3), .val .null, .val (.int p5), .val (.int p6), .unset] [.null, (.int (0 : Int32)), (.ref m6)])) ?_ (fun t k => XS.aconstNull X34.here hx rfl (hb hby d9n_167) k)
  have fa35 := (((((P18.other W6 (Ne.symm ne_m1_m6)).other W12 (Ne.symm ne_m2_m6)).other W18 (Ne.symm ne_m3_m6)).other W24 (Ne.symm ne_m4_m6)).other W30 (Ne.symm ne_m5_m6))
  obtain ⟨cl36, Ar36, qA36, SA36, NA36, HA36, GA36⟩ := id fa35
  have hin36 : ¬ ((0 : Int32) < 0 ∨ cl36.slots.size ≤ ((0 : Int32)).toNatClampNeg) := inb_of SA36 ⟨by decide, by decide⟩
  obtain ⟨T36, h36, X36, e36, W36, st36⟩ := stR X34 hx hZ e34 Ar36 (j := (0 : Int32)) hin36 rfl (Or.inl rfl) (g := (mkF m 168 #[.val (.ref a1), .val (.ref a2), .val (.int p3), .val .null, .val (.int p5), .val (.int p6), .unset] [.null, (.int (0 : Int32)), (.ref m6)])) rfl rfl (hb hby d9n_168)
  have V36 := Arv.set Ar36 qA36 SA36 NA36 HA36 GA36 rfl W36 0 rfl (Nat.le_of_ble_eq_true rfl)
  have Z36 : n0 ≤ h36.size := Nat.le_trans Z30 (Keep.of_wr W36).1
  have K36 : Keep h0 h36 [a1, m1, m2, m3, m4, m5, m6] := K30.wr W36 (Or.inl (List.mem_of_getElem? (i := 6) rfl))
  have N36 := Fr.snoc X36 N30 g_m6
  have V36t : Arv Z h36 m6 kq6 (.object "java/lang/String") (4 : Int32) [.null, .null, .null, .null] .null := V36
  refine Gen.on (b := T36.setTop (mkF m 169 #[.val (.ref a1), .val (.ref a2), .val (.int p3), .val .null, .val (.int p5), .val (.int p6), .unset] [])) ?_ (fun t k => st36 t k)
  refine Gen.on (b := T36.setTop (mkF m 170 #[.val (.ref a1), .val (.ref a2), .val (.int p3), .val .null, .val (.int p5), .val (.int p6), .unset] [(.ref a1)])) ?_ (fun t k => XS.aloadN X36.here hx rfl (hb hby d9n_169) rfl rfl k)
  refine Gen.on (b := T36.setTop (mkF m 171 #[.val (.ref a1), .val (.ref a2), .val (.int p3), .val .null, .val (.int p5), .val (.int p6), .unset] [(.ref a1), (.ref a1)])) ?_ (fun t k => XS.dup X36.here hx rfl (hb hby d9n_170) rfl rfl k)
  have fa37 := (fa33.other W36 (Or.inl ne_a1_m6))
  obtain ⟨T38, X38, e38, st38⟩ := getF X36 hx hZ hown (host := "") (Or.inl (hw _ (List.mem_of_getElem? (i := 68) rfl))) Via.refl e36 fa37 (g := (mkF m 171 #[.val (.ref a1), .val (.ref a2), .val (.int p3), .val .null, .val (.int p5), .val (.int p6), .unset] [(.ref a1), (.ref a1)])) rfl rfl (hb hby d9n_171)
  refine Gen.on (b := T38.setTop (mkF m 174 #[.val (.ref a1), .val (.ref a2), .val (.int p3), .val .null, .val (.int p5), .val (.int p6), .unset] [(.int (0 : Int32)), (.ref a1)])) ?_ (fun t k => st38 t k)
  refine Gen.on (b := T38.setTop (mkF m 175 #[.val (.ref a1), .val (.ref a2), .val (.int p3), .val .null, .val (.int p5), .val (.int p6), .unset] [(.int (1 : Int32)), (.int (0 : Int32)), (.ref a1)])) ?_ (fun t k => XS.iconst X38.here hx rfl (hb hby d9n_174) k)
  refine Gen.on (b := T38.setTop (mkF m 176 #[.val (.ref a1), .val (.ref a2), .val (.int p3), .val .null, .val (.int p5), .val (.int p6), .unset] [(.int ((0 : Int32) + (1 : Int32))), (.ref a1)])) ?_ (fun t k => XS.iadd X38.here hx rfl (hb hby d9n_175) rfl k)
  have fa39 := ((((((P0.wr W6).wr W12).wr W18).wr W24).wr W30).wr W36)
  obtain ⟨T40, h40, X40, e40, W40, st40⟩ := putF X38 hx hZ hown (host := "") (Or.inl (hw _ (List.mem_of_getElem? (i := 68) rfl))) Via.refl e38 fa37 fa39 (Or.inl (hw _ (List.mem_of_getElem? (i := 69) rfl))) (hw _ (List.mem_of_getElem? (i := 31) rfl)) (ty := .int) (by decide) rfl rfl (g := (mkF m 176 #[.val (.ref a1), .val (.ref a2), .val (.int p3), .val .null, .val (.int p5), .val (.int p6), .unset] [(.int ((0 : Int32) + (1 : Int32))), (.ref a1)])) rfl rfl (hb hby d9n_176)
  have Fw40 := fa37.same W40
  have Z40 : n0 ≤ h40.size := Nat.le_trans Z36 (Keep.of_wr W40).1
  have K40 : Keep h0 h40 [a1, m1, m2, m3, m4, m5, m6] := K36.wr W40 (Or.inl (List.mem_of_getElem? (i := 0) rfl))
  have N40 := Fr.snoc X40 N36 g_a1
  refine Gen.on (b := T40.setTop (mkF m 179 #[.val (.ref a1), .val (.ref a2), .val (.int p3), .val .null, .val (.int p5), .val (.int p6), .unset] [])) ?_ (fun t k => st40 t k)
  refine own_ret0 X40 hx Bd.returns (hb hby d9n_179) (by decide) (by decide) ?_
  have fa41 := (fa39.wr W40)
  have fa42 := (((((((P2.other W6 (Or.inl ne_a1_m1)).other W12 (Or.inl ne_a1_m2)).other W18 (Or.inl ne_a1_m3)).other W24 (Or.inl ne_a1_m4)).other W30 (Or.inl ne_a1_m5)).other W36 (Or.inl ne_a1_m6)).other W40 (Or.inr (slot_ne (Or.inl (hw _ (List.mem_of_getElem? (i := 61) rfl))) (Or.inl (hw _ (List.mem_of_getElem? (i := 69) rfl))) (by decide) (t := (.object "java/lang/String")) (t' := .int) (by decide) (by decide))))
  have fa43 := (((((((P3.other W6 (Or.inl ne_a1_m1)).other W12 (Or.inl ne_a1_m2)).other W18 (Or.inl ne_a1_m3)).other W24 (Or.inl ne_a1_m4)).other W30 (Or.inl ne_a1_m5)).other W36 (Or.inl ne_a1_m6)).other W40 (Or.inr (slot_ne (Or.inl (hw _ (List.mem_of_getElem? (i := 63) rfl))) (Or.inl (hw _ (List.mem_of_getElem? (i := 69) rfl))) (by decide) (t := .boolean) (t' := .int) (by decide) (by decide))))
  have fa44 := (((((((P4.other W6 (Or.inl ne_a1_m1)).other W12 (Or.inl ne_a1_m2)).other W18 (Or.inl ne_a1_m3)).other W24 (Or.inl ne_a1_m4)).other W30 (Or.inl ne_a1_m5)).other W36 (Or.inl ne_a1_m6)).other W40 (Or.inr (slot_ne (Or.inl (hw _ (List.mem_of_getElem? (i := 65) rfl))) (Or.inl (hw _ (List.mem_of_getElem? (i := 69) rfl))) (by decide) (t := (.array .char)) (t' := .int) (by decide) (by decide))))
  have fa45 := (((((((P5.other W6 (Or.inl ne_a1_m1)).other W12 (Or.inl ne_a1_m2)).other W18 (Or.inl ne_a1_m3)).other W24 (Or.inl ne_a1_m4)).other W30 (Or.inl ne_a1_m5)).other W36 (Or.inl ne_a1_m6)).other W40 (Or.inr (slot_ne (Or.inl (hw _ (List.mem_of_getElem? (i := 67) rfl))) (Or.inl (hw _ (List.mem_of_getElem? (i := 69) rfl))) (by decide) (t := (.array .char)) (t' := .int) (by decide) (by decide))))
  have fa46 := (((((((P7.other W6 (Or.inl ne_a1_m1)).other W12 (Or.inl ne_a1_m2)).other W18 (Or.inl ne_a1_m3)).other W24 (Or.inl ne_a1_m4)).other W30 (Or.inl ne_a1_m5)).other W36 (Or.inl ne_a1_m6)).other W40 (Or.inr (slot_ne (Or.inl (hw _ (List.mem_of_getElem? (i := 40) rfl))) (Or.inl (hw _ (List.mem_of_getElem? (i := 69) rfl))) (by decide) (t := (.array (.object "java/lang/String"))) (t' := .int) (by decide) (by decide))))
  have fa47 := ((((((fa7.other W12 (Or.inl ne_a1_m2)).other W18 (Or.inl ne_a1_m3)).other W24 (Or.inl ne_a1_m4)).other W30 (Or.inl ne_a1_m5)).other W36 (Or.inl ne_a1_m6)).other W40 (Or.inr (slot_ne (Or.inl (hw _ (List.mem_of_getElem? (i := 43) rfl))) (Or.inl (hw _ (List.mem_of_getElem? (i := 69) rfl))) (by decide) (t := (.array .boolean)) (t' := .int) (by decide) (by decide))))
  have fa48 := (((((fa13.other W18 (Or.inl ne_a1_m3)).other W24 (Or.inl ne_a1_m4)).other W30 (Or.inl ne_a1_m5)).other W36 (Or.inl ne_a1_m6)).other W40 (Or.inr (slot_ne (Or.inl (hw _ (List.mem_of_getElem? (i := 47) rfl))) (Or.inl (hw _ (List.mem_of_getElem? (i := 69) rfl))) (by decide) (t := (.array (.array .char))) (t' := .int) (by decide) (by decide))))
  have fa49 := ((((fa19.other W24 (Or.inl ne_a1_m4)).other W30 (Or.inl ne_a1_m5)).other W36 (Or.inl ne_a1_m6)).other W40 (Or.inr (slot_ne (Or.inl (hw _ (List.mem_of_getElem? (i := 50) rfl))) (Or.inl (hw _ (List.mem_of_getElem? (i := 69) rfl))) (by decide) (t := (.array .int)) (t' := .int) (by decide) (by decide))))
  have fa50 := (((fa25.other W30 (Or.inl ne_a1_m5)).other W36 (Or.inl ne_a1_m6)).other W40 (Or.inr (slot_ne (Or.inl (hw _ (List.mem_of_getElem? (i := 52) rfl))) (Or.inl (hw _ (List.mem_of_getElem? (i := 69) rfl))) (by decide) (t := (.array .int)) (t' := .int) (by decide) (by decide))))
  have fa51 := ((fa31.other W36 (Or.inl ne_a1_m6)).other W40 (Or.inr (slot_ne (Or.inl (hw _ (List.mem_of_getElem? (i := 54) rfl))) (Or.inl (hw _ (List.mem_of_getElem? (i := 69) rfl))) (by decide) (t := (.array (.object "java/lang/String"))) (t' := .int) (by decide) (by decide))))
  have fa52 := ((((((V6t.other W12 ne_m1_m2).other W18 ne_m1_m3).other W24 ne_m1_m4).other W30 ne_m1_m5).other W36 ne_m1_m6).other W40 (Ne.symm ne_a1_m1))
  have fa53 := (((((V12t.other W18 ne_m2_m3).other W24 ne_m2_m4).other W30 ne_m2_m5).other W36 ne_m2_m6).other W40 (Ne.symm ne_a1_m2))
  have fa54 := ((((V18t.other W24 ne_m3_m4).other W30 ne_m3_m5).other W36 ne_m3_m6).other W40 (Ne.symm ne_a1_m3))
  have fa55 := (((V24t.other W30 ne_m4_m5).other W36 ne_m4_m6).other W40 (Ne.symm ne_a1_m4))
  have fa56 := ((V30t.other W36 ne_m5_m6).other W40 (Ne.symm ne_a1_m5))
  have fa57 := (V36t.other W40 (Ne.symm ne_a1_m6))
  show Q9n Z a1 a2 p3 p5 p6 u1 u2 u3 u4 m1 m2 m3 m4 m5 m6 kq1 kq2 kq3 kq4 kq5 kq6 ev1 ev2 ev3 ev4 ev5 ev6 h0 n0 _ T40.heap _
  rw [e40]
  exact ⟨rfl, N40, K40, fa41, fa42, fa43, fa44, fa45, Fw40, fa46, fa47, fa48, fa49, fa50, fa51, fa52, fa53, fa54, fa55, fa56, fa57⟩

theorem d7_0 : decode prog_105_method_1_code 0 = .ok (.aload_n 0, 1) := by decide +kernel
theorem d7_1 : decode prog_105_method_1_code 1 = .ok (.invokespecial 1, 3) := by decide +kernel
theorem d7_4 : decode prog_105_method_1_code 4 = .ok (.aload_n 0, 1) := by decide +kernel
theorem d7_5 : decode prog_105_method_1_code 5 = .ok (.iconst 4, 1) := by decide +kernel
theorem d7_6 : decode prog_105_method_1_code 6 = .ok (.anewarray 9, 3) := by decide +kernel
theorem d7_9 : decode prog_105_method_1_code 9 = .ok (.putfield 11, 3) := by decide +kernel
theorem d7_12 : decode prog_105_method_1_code 12 = .ok (.aload_n 0, 1) := by decide +kernel
theorem d7_13 : decode prog_105_method_1_code 13 = .ok (.iconst 4, 1) := by decide +kernel
theorem d7_14 : decode prog_105_method_1_code 14 = .ok (.newarray .boolean, 2) := by decide +kernel
theorem d7_16 : decode prog_105_method_1_code 16 = .ok (.putfield 15, 3) := by decide +kernel
theorem d7_19 : decode prog_105_method_1_code 19 = .ok (.aload_n 0, 1) := by decide +kernel
theorem d7_20 : decode prog_105_method_1_code 20 = .ok (.iconst 4, 1) := by decide +kernel
theorem d7_21 : decode prog_105_method_1_code 21 = .ok (.anewarray 19, 3) := by decide +kernel
theorem d7_24 : decode prog_105_method_1_code 24 = .ok (.putfield 21, 3) := by decide +kernel
theorem d7_27 : decode prog_105_method_1_code 27 = .ok (.aload_n 0, 1) := by decide +kernel
theorem d7_28 : decode prog_105_method_1_code 28 = .ok (.iconst 4, 1) := by decide +kernel
theorem d7_29 : decode prog_105_method_1_code 29 = .ok (.newarray .int, 2) := by decide +kernel
theorem d7_31 : decode prog_105_method_1_code 31 = .ok (.putfield 25, 3) := by decide +kernel
theorem d7_34 : decode prog_105_method_1_code 34 = .ok (.aload_n 0, 1) := by decide +kernel
theorem d7_35 : decode prog_105_method_1_code 35 = .ok (.iconst 4, 1) := by decide +kernel
theorem d7_36 : decode prog_105_method_1_code 36 = .ok (.newarray .int, 2) := by decide +kernel
theorem d7_38 : decode prog_105_method_1_code 38 = .ok (.putfield 29, 3) := by decide +kernel
theorem d7_41 : decode prog_105_method_1_code 41 = .ok (.aload_n 0, 1) := by decide +kernel
theorem d7_42 : decode prog_105_method_1_code 42 = .ok (.iconst 4, 1) := by decide +kernel
theorem d7_43 : decode prog_105_method_1_code 43 = .ok (.anewarray 9, 3) := by decide +kernel
theorem d7_46 : decode prog_105_method_1_code 46 = .ok (.putfield 32, 3) := by decide +kernel
theorem d7_49 : decode prog_105_method_1_code 49 = .ok (.return_, 1) := by decide +kernel
theorem pn_7 : plainName "com/example/scheherazade/scheherazade/reader/TagParts" = true := by first | (simp [plainName, overriddenIn]; done) | decide +kernel
theorem ef_7 (m : MethodId) (x0 : Addr) : entryFrame m #[(.ref x0)] 1 = mkF m 0 #[.val (.ref x0)] [] := by first | (simp [entryFrame, mkF, argsToLocals, Value.category]; done) | rfl
def Q7 (Z : State) (a1 : Addr) (h0 : Heap) (n0 : Nat) (v : Option Value) (h : Heap) (L : List Loc) : Prop := v = none ∧ Fr n0 L ∧ Keep h0 h [a1] ∧ ∃ (m1 m2 m3 m4 m5 m6 : Addr) (kq1 kq2 kq3 kq4 kq5 kq6 : ClassId), Exa Z h a1 "com/example/scheherazade/scheherazade/reader/TagParts" ∧ Fld Z h a1 "com/example/scheherazade/scheherazade/reader/TagParts" "name" "Ljava/lang/String;" .null ∧ Fld Z h a1 "com/example/scheherazade/scheherazade/reader/TagParts" "prefixed" "Z" (.int (0 : Int32)) ∧ Fld Z h a1 "com/example/scheherazade/scheherazade/reader/TagParts" "nameSpelling" "[C" .null ∧ Fld Z h a1 "com/example/scheherazade/scheherazade/reader/TagParts" "source" "[C" .null ∧ Fld Z h a1 "com/example/scheherazade/scheherazade/reader/TagParts" "attributeCount" "I" (.int (0 : Int32)) ∧ Fld Z h a1 "com/example/scheherazade/scheherazade/reader/TagParts" "attributeNames" "[Ljava/lang/String;" (.ref m1) ∧ Fld Z h a1 "com/example/scheherazade/scheherazade/reader/TagParts" "attributePrefixes" "[Z" (.ref m2) ∧ Fld Z h a1 "com/example/scheherazade/scheherazade/reader/TagParts" "attributeSpellings" "[[C" (.ref m3) ∧ Fld Z h a1 "com/example/scheherazade/scheherazade/reader/TagParts" "valueStarts" "[I" (.ref m4) ∧ Fld Z h a1 "com/example/scheherazade/scheherazade/reader/TagParts" "valueLengths" "[I" (.ref m5) ∧ Fld Z h a1 "com/example/scheherazade/scheherazade/reader/TagParts" "attributeValues" "[Ljava/lang/String;" (.ref m6) ∧ Arv Z h m1 kq1 (.object "java/lang/String") (4 : Int32) [.null, .null, .null, .null] .null ∧ Arv Z h m2 kq2 .boolean (4 : Int32) [(.int (0 : Int32)), (.int (0 : Int32)), (.int (0 : Int32)), (.int (0 : Int32))] (.int (0 : Int32)) ∧ Arv Z h m3 kq3 (.array .char) (4 : Int32) [.null, .null, .null, .null] .null ∧ Arv Z h m4 kq4 .int (4 : Int32) [(.int (0 : Int32)), (.int (0 : Int32)), (.int (0 : Int32)), (.int (0 : Int32))] (.int (0 : Int32)) ∧ Arv Z h m5 kq5 .int (4 : Int32) [(.int (0 : Int32)), (.int (0 : Int32)), (.int (0 : Int32)), (.int (0 : Int32))] (.int (0 : Int32)) ∧ Arv Z h m6 kq6 (.object "java/lang/String") (4 : Int32) [.null, .null, .null, .null] .null ∧ Ovr Z kq1 "java/lang/String" ∧ OvrA Z kq3 .char "[C" ∧ Ovr Z kq6 "java/lang/String" ∧ m1 ≠ m2 ∧ m1 ≠ m3 ∧ m1 ≠ m4 ∧ m1 ≠ m5 ∧ m1 ≠ m6 ∧ m2 ≠ m3 ∧ m2 ≠ m4 ∧ m2 ≠ m5 ∧ m2 ≠ m6 ∧ m3 ≠ m4 ∧ m3 ≠ m5 ∧ m3 ≠ m6 ∧ m4 ≠ m5 ∧ m4 ≠ m6 ∧ m5 ≠ m6 ∧ h0.size ≤ m1 ∧ h0.size ≤ m2 ∧ h0.size ≤ m3 ∧ h0.size ≤ m4 ∧ h0.size ≤ m5 ∧ h0.size ≤ m6
set_option maxRecDepth 65536 in
set_option maxHeartbeats 40000000 in
theorem rm7 (l : Launch) (Z : State) (a0 : Array Value) (hw : ∀ d ∈ tables_1, d.before a0 Z = true) (wds : List Jvm.Cond) (a1 : Addr)  (h0 : Heap) (n0 : Nat) (Z0 : n0 ≤ h0.size) (P0 : Exa Z h0 a1 "com/example/scheherazade/scheherazade/reader/TagParts") (P1 : Fld Z h0 a1 "com/example/scheherazade/scheherazade/reader/TagParts" "name" "Ljava/lang/String;" .null) (P2 : Fld Z h0 a1 "com/example/scheherazade/scheherazade/reader/TagParts" "prefixed" "Z" (.int (0 : Int32))) (P3 : Fld Z h0 a1 "com/example/scheherazade/scheherazade/reader/TagParts" "nameSpelling" "[C" .null) (P4 : Fld Z h0 a1 "com/example/scheherazade/scheherazade/reader/TagParts" "source" "[C" .null) (P5 : Fld Z h0 a1 "com/example/scheherazade/scheherazade/reader/TagParts" "attributeCount" "I" (.int (0 : Int32))) (P6 : Fld Z h0 a1 "com/example/scheherazade/scheherazade/reader/TagParts" "attributeNames" "[Ljava/lang/String;" .null) (P7 : Fld Z h0 a1 "com/example/scheherazade/scheherazade/reader/TagParts" "attributePrefixes" "[Z" .null) (P8 : Fld Z h0 a1 "com/example/scheherazade/scheherazade/reader/TagParts" "attributeSpellings" "[[C" .null) (P9 : Fld Z h0 a1 "com/example/scheherazade/scheherazade/reader/TagParts" "valueStarts" "[I" .null) (P10 : Fld Z h0 a1 "com/example/scheherazade/scheherazade/reader/TagParts" "valueLengths" "[I" .null) (P11 : Fld Z h0 a1 "com/example/scheherazade/scheherazade/reader/TagParts" "attributeValues" "[Ljava/lang/String;" .null) (g_a1 : n0 ≤ a1) :
    MetFree l (⟨"com/example/scheherazade/scheherazade/reader/TagParts", "<init>", "()V"⟩ : MethodName) (head1 (Jvm.Cond.code (⟨"com/example/scheherazade/scheherazade/reader/TagParts", "<init>", "()V"⟩ : MethodName) prog_105_method_1_code 1 none :: wds) ({ frames := 1, cells := 6, slots := 24, locals := 20 } : Room)) (fun a U => a = #[(.ref a1)] ∧ Z.Warmed39 U.vm ∧ U.heap = h0) (fun _ _ _ _ _ => True) (fun _ U o U' => ∃ v L, o = .returned v ∧ Q7 Z a1 h0 n0 v U'.heap L ∧ FrameEnd U o U' L ({ frames := 1, cells := 6, slots := 24, locals := 20 } : Room).cells ({ frames := 1, cells := 6, slots := 24, locals := 20 } : Room).slots) := by
  refine MetFree.of_bodySF (plainFor_of_name pn_7) hisR ?_
  intro p e s m args below meth c s₁ Bd hml0 hP hK
  obtain ⟨rfl, hZ, hh⟩ := hP
  have hx := Bd.exec
  have hby := Bd.bytes
  have hml : c.maxLocals = 1 := hml0
  have hown : s.vm.findClass "com/example/scheherazade/scheherazade/reader/TagParts" = some m.cls := findClass_of_methodNamed Bd.named
  have hnm := (name_of_methodNamed Bd.named Bd.method).1
  have X0 : Stand p l e ({ frames := 1, cells := 6, slots := 24, locals := 20 } : Room) s m #[(.ref a1)] below meth c s₁ [] 0 0 := Stand.of_body Bd
  have e0 : s₁.heap = h0 := by rw [← hh, Bd.state]; rfl
  have N0 := Fr.nil n0
  refine own_start (Q := Q7 Z a1 h0 n0) (C := ({ frames := 1, cells := 6, slots := 24, locals := 20 } : Room).cells) (S := ({ frames := 1, cells := 6, slots := 24, locals := 20 } : Room).slots) ?_
  rw [ef_7 m a1]
  have K0 : Keep h0 h0 [a1] := Keep.refl h0 [a1]
  refine Gen.on (b := s₁.setTop (mkF m 1 #[.val (.ref a1)] [(.ref a1)])) ?_ (fun t k => XS.aloadN X0.here hx rfl (hb hby d7_0) rfl rfl k)
  obtain ⟨T1, X1, e1, st1⟩ := initO X0 hx hZ hown (hw _ (List.mem_of_getElem? (i := 36) rfl)) (hw _ (List.mem_of_getElem? (i := 12) rfl)) (hw _ (List.mem_of_getElem? (i := 13) rfl)) e0 (g := (mkF m 1 #[.val (.ref a1)] [(.ref a1)])) rfl (by rw [hml]; rfl) rfl (hb hby d7_1) (by decide) (W := 0) (by show 2 * 0 + _ ≤ _; exact Nat.le_of_eq rfl) (by decide)
  refine Gen.on (b := T1.setTop (mkF m 4 #[.val (.ref a1)] [])) ?_ (fun t k => st1 t k)
  refine Gen.on (b := T1.setTop (mkF m 5 #[.val (.ref a1)] [(.ref a1)])) ?_ (fun t k => XS.aloadN X1.here hx rfl (hb hby d7_4) rfl rfl k)
  refine Gen.on (b := T1.setTop (mkF m 6 #[.val (.ref a1)] [(.int (4 : Int32)), (.ref a1)])) ?_ (fun t k => XS.iconst X1.here hx rfl (hb hby d7_5) k)
  obtain ⟨b2, g2⟩ : ∃ z, z = h0.size := ⟨_, rfl⟩
  have ne_a1_b2 : a1 ≠ b2 := Nat.ne_of_lt (Nat.lt_of_lt_of_le P0.lt (Nat.le_of_eq g2.symm))
  have g_b2 : n0 ≤ b2 := Nat.le_trans Z0 (Nat.le_of_eq g2.symm)
  have sz_b2 : h0.size ≤ b2 := Nat.le_trans K0.1 (Nat.le_of_eq g2.symm)
  obtain ⟨T2, h2, k2, X2, e2, E2, A2, EX2, ov2, st2⟩ := newRE X1 hx hZ hown (hw _ (List.mem_of_getElem? (i := 37) rfl)) (hw _ (List.mem_of_getElem? (i := 38) rfl)) e1 (g := (mkF m 6 #[.val (.ref a1)] [(.int (4 : Int32)), (.ref a1)])) rfl (hb hby d7_6) rfl (by decide) (cap := 4) (by decide) (by decide) (by decide) (by decide) (ad := "[Ljava/lang/String;") (by decide)
  rw [← g2] at A2 EX2 st2
  have Z2 : n0 ≤ h2.size := Nat.le_trans Z0 E2.1
  have K2 : Keep h0 h2 [a1] := K0.ext E2
  have V2 : Arv Z h2 b2 k2 (.object "java/lang/String") (4 : Int32) [.null, .null, .null, .null] .null := (Arv.new A2 (by decide)).pad (pad_rep [] .null 4)
  refine Gen.on (b := T2.setTop (mkF m 9 #[.val (.ref a1)] [(.ref b2), (.ref a1)])) ?_ (fun t k => st2 t k)
  have fa3 := (P6.ext E2)
  have fa4 := (P0.ext E2)
  obtain ⟨T5, h5, X5, e5, W5, st5⟩ := putF X2 hx hZ hown (host := "") (Or.inl (hw _ (List.mem_of_getElem? (i := 39) rfl))) Via.refl e2 fa3 fa4 (Or.inl (hw _ (List.mem_of_getElem? (i := 40) rfl))) (hw _ (List.mem_of_getElem? (i := 31) rfl)) (ty := (.array (.object "java/lang/String"))) (by decide) rfl rfl (g := (mkF m 9 #[.val (.ref a1)] [(.ref b2), (.ref a1)])) rfl rfl (hb hby d7_9)
  have Fw5 := fa3.same W5
  have Z5 : n0 ≤ h5.size := Nat.le_trans Z2 (Keep.of_wr W5).1
  have K5 : Keep h0 h5 [a1] := K2.wr W5 (Or.inl (List.mem_of_getElem? (i := 0) rfl))
  have N5 := Fr.snoc X5 N0 g_a1
  refine Gen.on (b := T5.setTop (mkF m 12 #[.val (.ref a1)] [])) ?_ (fun t k => st5 t k)
  refine Gen.on (b := T5.setTop (mkF m 13 #[.val (.ref a1)] [(.ref a1)])) ?_ (fun t k => XS.aloadN X5.here hx rfl (hb hby d7_12) rfl rfl k)
  refine Gen.on (b := T5.setTop (mkF m 14 #[.val (.ref a1)] [(.int (4 : Int32)), (.ref a1)])) ?_ (fun t k => XS.iconst X5.here hx rfl (hb hby d7_13) k)
  have fa7 := (fa4.wr W5)
  have fa8 := (V2.other W5 (Ne.symm ne_a1_b2))
  obtain ⟨b6, g6⟩ : ∃ z, z = h5.size := ⟨_, rfl⟩
  have ne_a1_b6 : a1 ≠ b6 := Nat.ne_of_lt (Nat.lt_of_lt_of_le fa7.lt (Nat.le_of_eq g6.symm))
  have ne_b2_b6 : b2 ≠ b6 := Nat.ne_of_lt (Nat.lt_of_lt_of_le fa8.lt (Nat.le_of_eq g6.symm))
  have g_b6 : n0 ≤ b6 := Nat.le_trans Z5 (Nat.le_of_eq g6.symm)
  have sz_b6 : h0.size ≤ b6 := Nat.le_trans K5.1 (Nat.le_of_eq g6.symm)
  obtain ⟨T6, h6, k6, X6, e6, E6, A6, st6⟩ := newP X5 hx hZ (hw _ (List.mem_of_getElem? (i := 41) rfl)) e5 (g := (mkF m 14 #[.val (.ref a1)] [(.int (4 : Int32)), (.ref a1)])) rfl (hb hby d7_14) rfl (by decide) (cap := 4) (by decide) (by decide) (by decide) (by decide)
  rw [← g6] at A6 st6
  have Z6 : n0 ≤ h6.size := Nat.le_trans Z5 E6.1
  have K6 : Keep h0 h6 [a1] := K5.ext E6
  have V6 : Arv Z h6 b6 k6 .boolean (4 : Int32) [(.int (0 : Int32)), (.int (0 : Int32)), (.int (0 : Int32)), (.int (0 : Int32))] (.int (0 : Int32)) := (Arv.new A6 (by decide)).pad (pad_rep [] (.int (0 : Int32)) 4)
  refine Gen.on (b := T6.setTop (mkF m 16 #[.val (.ref a1)] [(.ref b6), (.ref a1)])) ?_ (fun t k => st6 t k)
  have fa9 := (((P7.ext E2).other W5 (Or.inr (slot_ne (Or.inl (hw _ (List.mem_of_getElem? (i := 43) rfl))) (Or.inl (hw _ (List.mem_of_getElem? (i := 40) rfl))) (by decide) (t := (.array .boolean)) (t' := (.array (.object "java/lang/String"))) (by decide) (by decide)))).ext E6)
  have fa10 := (fa7.ext E6)
  obtain ⟨T11, h11, X11, e11, W11, st11⟩ := putF X6 hx hZ hown (host := "") (Or.inl (hw _ (List.mem_of_getElem? (i := 42) rfl))) Via.refl e6 fa9 fa10 (Or.inl (hw _ (List.mem_of_getElem? (i := 43) rfl))) (hw _ (List.mem_of_getElem? (i := 31) rfl)) (ty := (.array .boolean)) (by decide) rfl rfl (g := (mkF m 16 #[.val (.ref a1)] [(.ref b6), (.ref a1)])) rfl rfl (hb hby d7_16)
  have Fw11 := fa9.same W11
  have Z11 : n0 ≤ h11.size := Nat.le_trans Z6 (Keep.of_wr W11).1
  have K11 : Keep h0 h11 [a1] := K6.wr W11 (Or.inl (List.mem_of_getElem? (i := 0) rfl))
  have N11 := Fr.snoc X11 N5 g_a1
  refine Gen.on (b := T11.setTop (mkF m 19 #[.val (.ref a1)] [])) ?_ (fun t k => st11 t k)
  refine Gen.on (b := T11.setTop (mkF m 20 #[.val (.ref a1)] [(.ref a1)])) ?_ (fun t k => XS.aloadN X11.here hx rfl (hb hby d7_19) rfl rfl k)
  refine Gen.on (b := T11.setTop (mkF m 21 #[.val (.ref a1)] [(.int (4 : Int32)), (.ref a1)])) ?_ (fun t k => XS.iconst X11.here hx rfl (hb hby d7_20) k)
  have fa13 := (fa10.wr W11)
  have fa14 := ((fa8.ext E6).other W11 (Ne.symm ne_a1_b2))
  have fa15 := (V6.other W11 (Ne.symm ne_a1_b6))
  obtain ⟨b12, g12⟩ : ∃ z, z = h11.size := ⟨_, rfl⟩
  have ne_a1_b12 : a1 ≠ b12 := Nat.ne_of_lt (Nat.lt_of_lt_of_le fa13.lt (Nat.le_of_eq g12.symm))
  have ne_b2_b12 : b2 ≠ b12 := Nat.ne_of_lt (Nat.lt_of_lt_of_le fa14.lt (Nat.le_of_eq g12.symm))
  have ne_b6_b12 : b6 ≠ b12 := Nat.ne_of_lt (Nat.lt_of_lt_of_le fa15.lt (Nat.le_of_eq g12.symm))
  have g_b12 : n0 ≤ b12 := Nat.le_trans Z11 (Nat.le_of_eq g12.symm)
  have sz_b12 : h0.size ≤ b12 := Nat.le_trans K11.1 (Nat.le_of_eq g12.symm)
  obtain ⟨T12, h12, k12, X12, e12, E12, A12, EX12, ov12, st12⟩ := newRA (ty := .char) X11 hx hZ hown rfl (hw _ (List.mem_of_getElem? (i := 44) rfl)) (hw _ (List.mem_of_getElem? (i := 45) rfl)) e11 (g := (mkF m 21 #[.val (.ref a1)] [(.int (4 : Int32)), (.ref a1)])) rfl (hb hby d7_21) rfl (by decide) (cap := 4) (by decide) (by decide) (by decide) (by decide) (ad := "[[C") (by decide)
  rw [← g12] at A12 EX12 st12
  have Z12 : n0 ≤ h12.size := Nat.le_trans Z11 E12.1
  have K12 : Keep h0 h12 [a1] := K11.ext E12
  have V12 : Arv Z h12 b12 k12 (.array .char) (4 : Int32) [.null, .null, .null, .null] .null := (Arv.new A12 (by decide)).pad (pad_rep [] .null 4)
  refine Gen.on (b := T12.setTop (mkF m 24 #[.val (.ref a1)] [(.ref b12), (.ref a1)])) ?_ (fun t k => st12 t k)
  have fa16 := (((((P8.ext E2).other W5 (Or.inr (slot_ne (Or.inl (hw _ (List.mem_of_getElem? (i := 47) rfl))) (Or.inl (hw _ (List.mem_of_getElem? (i := 40) rfl))) (by decide) (t := (.array (.array .char))) (t' := (.array (.object "java/lang/String"))) (by decide) (by decide)))).ext E6).other W11 (Or.inr (slot_ne (Or.inl (hw _ (List.mem_of_getElem? (i := 47) rfl))) (Or.inl (hw _ (List.mem_of_getElem? (i := 43) rfl))) (by decide) (t := (.array (.array .char))) (t' := (.array .boolean)) (by decide) (by decide)))).ext E12)
  have fa17 := (fa13.ext E12)
  obtain ⟨T18, h18, X18, e18, W18, st18⟩ := putF X12 hx hZ hown (host := "") (Or.inl (hw _ (List.mem_of_getElem? (i := 46) rfl))) Via.refl e12 fa16 fa17 (Or.inl (hw _ (List.mem_of_getElem? (i := 47) rfl))) (hw _ (List.mem_of_getElem? (i := 31) rfl)) (ty := (.array (.array .char))) (by decide) rfl rfl (g := (mkF m 24 #[.val (.ref a1)] [(.ref b12), (.ref a1)])) rfl rfl (hb hby d7_24)
  have Fw18 := fa16.same W18
  have Z18 : n0 ≤ h18.size := Nat.le_trans Z12 (Keep.of_wr W18).1
  have K18 : Keep h0 h18 [a1] := K12.wr W18 (Or.inl (List.mem_of_getElem? (i := 0) rfl))
  have N18 := Fr.snoc X18 N11 g_a1
  refine Gen.on (b := T18.setTop (mkF m 27 #[.val (.ref a1)] [])) ?_ (fun t k => st18 t k)
  refine Gen.on (b := T18.setTop (mkF m 28 #[.val (.ref a1)] [(.ref a1)])) ?_ (fun t k => XS.aloadN X18.here hx rfl (hb hby d7_27) rfl rfl k)
  refine Gen.on (b := T18.setTop (mkF m 29 #[.val (.ref a1)] [(.int (4 : Int32)), (.ref a1)])) ?_ (fun t k => XS.iconst X18.here hx rfl (hb hby d7_28) k)
  have fa20 := (fa17.wr W18)
  have fa21 := ((fa14.ext E12).other W18 (Ne.symm ne_a1_b2))
  have fa22 := ((fa15.ext E12).other W18 (Ne.symm ne_a1_b6))
  have fa23 := (V12.other W18 (Ne.symm ne_a1_b12))
  obtain ⟨b19, g19⟩ : ∃ z, z = h18.size := ⟨_, rfl⟩
  have ne_a1_b19 : a1 ≠ b19 := Nat.ne_of_lt (Nat.lt_of_lt_of_le fa20.lt (Nat.le_of_eq g19.symm))
  have ne_b2_b19 : b2 ≠ b19 := Nat.ne_of_lt (Nat.lt_of_lt_of_le fa21.lt (Nat.le_of_eq g19.symm))
  have ne_b6_b19 : b6 ≠ b19 := Nat.ne_of_lt (Nat.lt_of_lt_of_le fa22.lt (Nat.le_of_eq g19.symm))
  have ne_b12_b19 : b12 ≠ b19 := Nat.ne_of_lt (Nat.lt_of_lt_of_le fa23.lt (Nat.le_of_eq g19.symm))
  have g_b19 : n0 ≤ b19 := Nat.le_trans Z18 (Nat.le_of_eq g19.symm)
  have sz_b19 : h0.size ≤ b19 := Nat.le_trans K18.1 (Nat.le_of_eq g19.symm)
  obtain ⟨T19, h19, k19, X19, e19, E19, A19, st19⟩ := newP X18 hx hZ (hw _ (List.mem_of_getElem? (i := 48) rfl)) e18 (g := (mkF m 29 #[.val (.ref a1)] [(.int (4 : Int32)), (.ref a1)])) rfl (hb hby d7_29) rfl (by decide) (cap := 4) (by decide) (by decide) (by decide) (by decide)
  rw [← g19] at A19 st19
  have Z19 : n0 ≤ h19.size := Nat.le_trans Z18 E19.1
  have K19 : Keep h0 h19 [a1] := K18.ext E19
  have V19 : Arv Z h19 b19 k19 .int (4 : Int32) [(.int (0 : Int32)), (.int (0 : Int32)), (.int (0 : Int32)), (.int (0 : Int32))] (.int (0 : Int32)) := (Arv.new A19 (by decide)).pad (pad_rep [] (.int (0 : Int32)) 4)
  refine Gen.on (b := T19.setTop (mkF m 31 #[.val (.ref a1)] [(.ref b19), (.ref a1)])) ?_ (fun t k => st19 t k)
  have fa24 := (((((((P9.ext E2).other W5 (Or.inr (slot_ne (Or.inl (hw _ (List.mem_of_getElem? (i := 50) rfl))) (Or.inl (hw _ (List.mem_of_getElem? (i := 40) rfl))) (by decide) (t := (.array .int)) (t' := (.array (.object "java/lang/String"))) (by decide) (by decide)))).ext E6).other W11 (Or.inr (slot_ne (Or.inl (hw _ (List.mem_of_getElem? (i := 50) rfl))) (Or.inl (hw _ (List.mem_of_getElem? (i := 43) rfl))) (by decide) (t := (.array .int)) (t' := (.array .boolean)) (by decide) (by decide)))).ext E12).other W18 (Or.inr (slot_ne (Or.inl (hw _ (List.mem_of_getElem? (i := 50) rfl))) (Or.inl (hw _ (List.mem_of_getElem? (i := 47) rfl))) (by decide) (t := (.array .int)) (t' := (.array (.array .char))) (by decide) (by decide)))).ext E19)
  have fa25 := (fa20.ext E19)
  obtain ⟨T26, h26, X26, e26, W26, st26⟩ := putF X19 hx hZ hown (host := "") (Or.inl (hw _ (List.mem_of_getElem? (i := 49) rfl))) Via.refl e19 fa24 fa25 (Or.inl (hw _ (List.mem_of_getElem? (i := 50) rfl))) (hw _ (List.mem_of_getElem? (i := 31) rfl)) (ty := (.array .int)) (by decide) rfl rfl (g := (mkF m 31 #[.val (.ref a1)] [(.ref b19), (.ref a1)])) rfl rfl (hb hby d7_31)
  have Fw26 := fa24.same W26
  have Z26 : n0 ≤ h26.size := Nat.le_trans Z19 (Keep.of_wr W26).1
  have K26 : Keep h0 h26 [a1] := K19.wr W26 (Or.inl (List.mem_of_getElem? (i := 0) rfl))
  have N26 := Fr.snoc X26 N18 g_a1
  refine Gen.on (b := T26.setTop (mkF m 34 #[.val (.ref a1)] [])) ?_ (fun t k => st26 t k)
  refine Gen.on (b := T26.setTop (mkF m 35 #[.val (.ref a1)] [(.ref a1)])) ?_ (fun t k => XS.aloadN X26.here hx rfl (hb hby d7_34) rfl rfl k)
  refine Gen.on (b := T26.setTop (mkF m 36 #[.val (.ref a1)] [(.int (4 : Int32)), (.ref a1)])) ?_ (fun t k => XS.iconst X26.here hx rfl (hb hby d7_35) k)
  have fa28 := (fa25.wr W26)
  have fa29 := ((fa21.ext E19).other W26 (Ne.symm ne_a1_b2))
  have fa30 := ((fa22.ext E19).other W26 (Ne.symm ne_a1_b6))
  have fa31 := ((fa23.ext E19).other W26 (Ne.symm ne_a1_b12))
  have fa32 := (V19.other W26 (Ne.symm ne_a1_b19))
  obtain ⟨b27, g27⟩ : ∃ z, z = h26.size := ⟨_, rfl⟩
  have ne_a1_b27 : a1 ≠ b27 := Nat.ne_of_lt (Nat.lt_of_lt_of_le fa28.lt (Nat.le_of_eq g27.symm))
  have ne_b2_b27 : b2 ≠ b27 := Nat.ne_of_lt (Nat.lt_of_lt_of_le fa29.lt (Nat.le_of_eq g27.symm))
  have ne_b6_b27 : b6 ≠ b27 := Nat.ne_of_lt (Nat.lt_of_lt_of_le fa30.lt (Nat.le_of_eq g27.symm))
  have ne_b12_b27 : b12 ≠ b27 := Nat.ne_of_lt (Nat.lt_of_lt_of_le fa31.lt (Nat.le_of_eq g27.symm))
  have ne_b19_b27 : b19 ≠ b27 := Nat.ne_of_lt (Nat.lt_of_lt_of_le fa32.lt (Nat.le_of_eq g27.symm))
  have g_b27 : n0 ≤ b27 := Nat.le_trans Z26 (Nat.le_of_eq g27.symm)
  have sz_b27 : h0.size ≤ b27 := Nat.le_trans K26.1 (Nat.le_of_eq g27.symm)
  obtain ⟨T27, h27, k27, X27, e27, E27, A27, st27⟩ := newP X26 hx hZ (hw _ (List.mem_of_getElem? (i := 48) rfl)) e26 (g := (mkF m 36 #[.val (.ref a1)] [(.int (4 : Int32)), (.ref a1)])) rfl (hb hby d7_36) rfl (by decide) (cap := 4) (by decide) (by decide) (by decide) (by decide)
  rw [← g27] at A27 st27
  have Z27 : n0 ≤ h27.size := Nat.le_trans Z26 E27.1
  have K27 : Keep h0 h27 [a1] := K26.ext E27
  have V27 : Arv Z h27 b27 k27 .int (4 : Int32) [(.int (0 : Int32)), (.int (0 : Int32)), (.int (0 : Int32)), (.int (0 : Int32))] (.int (0 : Int32)) := (Arv.new A27 (by decide)).pad (pad_rep [] (.int (0 : Int32)) 4)
  refine Gen.on (b := T27.setTop (mkF m 38 #[.val (.ref a1)] [(.ref b27), (.ref a1)])) ?_ (fun t k => st27 t k)
  have fa33 := (((((((((P10.ext E2).other W5 (Or.inr (slot_ne (Or.inl (hw _ (List.mem_of_getElem? (i := 52) rfl))) (Or.inl (hw _ (List.mem_of_getElem? (i := 40) rfl))) (by decide) (t := (.array .int)) (t' := (.array (.object "java/lang/String"))) (by decide) (by decide)))).ext E6).other W11 (Or.inr (slot_ne (Or.inl (hw _ (List.mem_of_getElem? (i := 52) rfl))) (Or.inl (hw _ (List.mem_of_getElem? (i := 43) rfl))) (by decide) (t := (.array .int)) (t' := (.array .boolean)) (by decide) (by decide)))).ext E12).other W18 (Or.inr (slot_ne (Or.inl (hw _ (List.mem_of_getElem? (i := 52) rfl))) (Or.inl (hw _ (List.mem_of_getElem? (i := 47) rfl))) (by decide) (t := (.array .int)) (t' := (.array (.array .char))) (by decide) (by decide)))).ext E19).other W26 (Or.inr (slot_ne (Or.inl (hw _ (List.mem_of_getElem? (i := 52) rfl))) (Or.inl (hw _ (List.mem_of_getElem? (i := 50) rfl))) (by decide) (t := (.array .int)) (t' := (.array .int)) (by decide) (by decide)))).ext E27)
  have fa34 := (fa28.ext E27)
  obtain ⟨T35, h35, X35, e35, W35, st35⟩ := putF X27 hx hZ hown (host := "") (Or.inl (hw _ (List.mem_of_getElem? (i := 51) rfl))) Via.refl e27 fa33 fa34 (Or.inl (hw _ (List.mem_of_getElem? (i := 52) rfl))) (hw _ (List.mem_of_getElem? (i := 31) rfl)) (ty := (.array .int)) (by decide) rfl rfl (g := (mkF m 38 #[.val (.ref a1)] [(.ref b27), (.ref a1)])) rfl rfl (hb hby d7_38)
  have Fw35 := fa33.same W35
  have Z35 : n0 ≤ h35.size := Nat.le_trans Z27 (Keep.of_wr W35).1
  have K35 : Keep h0 h35 [a1] := K27.wr W35 (Or.inl (List.mem_of_getElem? (i := 0) rfl))
  have N35 := Fr.snoc X35 N26 g_a1
  refine Gen.on (b := T35.setTop (mkF m 41 #[.val (.ref a1)] [])) ?_ (fun t k => st35 t k)
  refine Gen.on (b := T35.setTop (mkF m 42 #[.val (.ref a1)] [(.ref a1)])) ?_ (fun t k => XS.aloadN X35.here hx rfl (hb hby d7_41) rfl rfl k)
  refine Gen.on (b := T35.setTop (mkF m 43 #[.val (.ref a1)] [(.int (4 : Int32)), (.ref a1)])) ?_ (fun t k => XS.iconst X35.here hx rfl (hb hby d7_42) k)
  have fa37 := (fa34.wr W35)
  have fa38 := ((fa29.ext E27).other W35 (Ne.symm ne_a1_b2))
  have fa39 := ((fa30.ext E27).other W35 (Ne.symm ne_a1_b6))
  have fa40 := ((fa31.ext E27).other W35 (Ne.symm ne_a1_b12))
  have fa41 := ((fa32.ext E27).other W35 (Ne.symm ne_a1_b19))
  have fa42 := (V27.other W35 (Ne.symm ne_a1_b27))
  obtain ⟨b36, g36⟩ : ∃ z, z = h35.size := ⟨_, rfl⟩
  have ne_a1_b36 : a1 ≠ b36 := Nat.ne_of_lt (Nat.lt_of_lt_of_le fa37.lt (Nat.le_of_eq g36.symm))
  have ne_b2_b36 : b2 ≠ b36 := Nat.ne_of_lt (Nat.lt_of_lt_of_le fa38.lt (Nat.le_of_eq g36.symm))
  have ne_b6_b36 : b6 ≠ b36 := Nat.ne_of_lt (Nat.lt_of_lt_of_le fa39.lt (Nat.le_of_eq g36.symm))
  have ne_b12_b36 : b12 ≠ b36 := Nat.ne_of_lt (Nat.lt_of_lt_of_le fa40.lt (Nat.le_of_eq g36.symm))
  have ne_b19_b36 : b19 ≠ b36 := Nat.ne_of_lt (Nat.lt_of_lt_of_le fa41.lt (Nat.le_of_eq g36.symm))
  have ne_b27_b36 : b27 ≠ b36 := Nat.ne_of_lt (Nat.lt_of_lt_of_le fa42.lt (Nat.le_of_eq g36.symm))
  have g_b36 : n0 ≤ b36 := Nat.le_trans Z35 (Nat.le_of_eq g36.symm)
  have sz_b36 : h0.size ≤ b36 := Nat.le_trans K35.1 (Nat.le_of_eq g36.symm)
  obtain ⟨T36, h36, k36, X36, e36, E36, A36, EX36, ov36, st36⟩ := newRE X35 hx hZ hown (hw _ (List.mem_of_getElem? (i := 37) rfl)) (hw _ (List.mem_of_getElem? (i := 38) rfl)) e35 (g := (mkF m 43 #[.val (.ref a1)] [(.int (4 : Int32)), (.ref a1)])) rfl (hb hby d7_43) rfl (by decide) (cap := 4) (by decide) (by decide) (by decide) (by decide) (ad := "[Ljava/lang/String;") (by decide)
  rw [← g36] at A36 EX36 st36
  have Z36 : n0 ≤ h36.size := Nat.le_trans Z35 E36.1
  have K36 : Keep h0 h36 [a1] := K35.ext E36
  have V36 : Arv Z h36 b36 k36 (.object "java/lang/String") (4 : Int32) [.null, .null, .null, .null] .null := (Arv.new A36 (by decide)).pad (pad_rep [] .null 4)
  refine Gen.on (b := T36.setTop (mkF m 46 #[.val (.ref a1)] [(.ref b36), (.ref a1)])) ?_ (fun t k => st36 t k)
  have fa43 := (((((((((((P11.ext E2).other W5 (Or.inr (slot_ne (Or.inl (hw _ (List.mem_of_getElem? (i := 54) rfl))) (Or.inl (hw _ (List.mem_of_getElem? (i := 40) rfl))) (by decide) (t := (.array (.object "java/lang/String"))) (t' := (.array (.object "java/lang/String"))) (by decide) (by decide)))).ext E6).other W11 (Or.inr (slot_ne (Or.inl (hw _ (List.mem_of_getElem? (i := 54) rfl))) (Or.inl (hw _ (List.mem_of_getElem? (i := 43) rfl))) (by decide) (t := (.array (.object "java/lang/String"))) (t' := (.array .boolean)) (by decide) (by decide)))).ext E12).other W18 (Or.inr (slot_ne (Or.inl (hw _ (List.mem_of_getElem? (i := 54) rfl))) (Or.inl (hw _ (List.mem_of_getElem? (i := 47) rfl))) (by decide) (t := (.array (.object "java/lang/String"))) (t' := (.array (.array .char))) (by decide) (by decide)))).ext E19).other W26 (Or.inr (slot_ne (Or.inl (hw _ (List.mem_of_getElem? (i := 54) rfl))) (Or.inl (hw _ (List.mem_of_getElem? (i := 50) rfl))) (by decide) (t := (.array (.object "java/lang/String"))) (t' := (.array .int)) (by decide) (by decide)))).ext E27).other W35 (Or.inr (slot_ne (Or.inl (hw _ (List.mem_of_getElem? (i := 54) rfl))) (Or.inl (hw _ (List.mem_of_getElem? (i := 52) rfl))) (by decide) (t := (.array (.object "java/lang/String"))) (t' := (.array .int)) (by decide) (by decide)))).ext E36)
  have fa44 := (fa37.ext E36)
  obtain ⟨T45, h45, X45, e45, W45, st45⟩ := putF X36 hx hZ hown (host := "") (Or.inl (hw _ (List.mem_of_getElem? (i := 53) rfl))) Via.refl e36 fa43 fa44 (Or.inl (hw _ (List.mem_of_getElem? (i := 54) rfl))) (hw _ (List.mem_of_getElem? (i := 31) rfl)) (ty := (.array (.object "java/lang/String"))) (by decide) rfl rfl (g := (mkF m 46 #[.val (.ref a1)] [(.ref b36), (.ref a1)])) rfl rfl (hb hby d7_46)
  have Fw45 := fa43.same W45
  have Z45 : n0 ≤ h45.size := Nat.le_trans Z36 (Keep.of_wr W45).1
  have K45 : Keep h0 h45 [a1] := K36.wr W45 (Or.inl (List.mem_of_getElem? (i := 0) rfl))
  have N45 := Fr.snoc X45 N35 g_a1
  refine Gen.on (b := T45.setTop (mkF m 49 #[.val (.ref a1)] [])) ?_ (fun t k => st45 t k)
  refine own_ret0 X45 hx Bd.returns (hb hby d7_49) (by decide) (by decide) ?_
  have fa46 := (fa44.wr W45)
  have fa47 := ((((((((((((P1.ext E2).other W5 (Or.inr (slot_ne (Or.inl (hw _ (List.mem_of_getElem? (i := 61) rfl))) (Or.inl (hw _ (List.mem_of_getElem? (i := 40) rfl))) (by decide) (t := (.object "java/lang/String")) (t' := (.array (.object "java/lang/String"))) (by decide) (by decide)))).ext E6).other W11 (Or.inr (slot_ne (Or.inl (hw _ (List.mem_of_getElem? (i := 61) rfl))) (Or.inl (hw _ (List.mem_of_getElem? (i := 43) rfl))) (by decide) (t := (.object "java/lang/String")) (t' := (.array .boolean)) (by decide) (by decide)))).ext E12).other W18 (Or.inr (slot_ne (Or.inl (hw _ (List.mem_of_getElem? (i := 61) rfl))) (Or.inl (hw _ (List.mem_of_getElem? (i := 47) rfl))) (by decide) (t := (.object "java/lang/String")) (t' := (.array (.array .char))) (by decide) (by decide)))).ext E19).other W26 (Or.inr (slot_ne (Or.inl (hw _ (List.mem_of_getElem? (i := 61) rfl))) (Or.inl (hw _ (List.mem_of_getElem? (i := 50) rfl))) (by decide) (t := (.object "java/lang/String")) (t' := (.array .int)) (by decide) (by decide)))).ext E27).other W35 (Or.inr (slot_ne (Or.inl (hw _ (List.mem_of_getElem? (i := 61) rfl))) (Or.inl (hw _ (List.mem_of_getElem? (i := 52) rfl))) (by decide) (t := (.object "java/lang/String")) (t' := (.array .int)) (by decide) (by decide)))).ext E36).other W45 (Or.inr (slot_ne (Or.inl (hw _ (List.mem_of_getElem? (i := 61) rfl))) (Or.inl (hw _ (List.mem_of_getElem? (i := 54) rfl))) (by decide) (t := (.object "java/lang/String")) (t' := (.array (.object "java/lang/String"))) (by decide) (by decide))))
  have fa48 := ((((((((((((P2.ext E2).other W5 (Or.inr (slot_ne (Or.inl (hw _ (List.mem_of_getElem? (i := 63) rfl))) (Or.inl (hw _ (List.mem_of_getElem? (i := 40) rfl))) (by decide) (t := .boolean) (t' := (.array (.object "java/lang/String"))) (by decide) (by decide)))).ext E6).other W11 (Or.inr (slot_ne (Or.inl (hw _ (List.mem_of_getElem? (i := 63) rfl))) (Or.inl (hw _ (List.mem_of_getElem? (i := 43) rfl))) (by decide) (t := .boolean) (t' := (.array .boolean)) (by decide) (by decide)))).ext E12).other W18 (Or.inr (slot_ne (Or.inl (hw _ (List.mem_of_getElem? (i := 63) rfl))) (Or.inl (hw _ (List.mem_of_getElem? (i := 47) rfl))) (by decide) (t := .boolean) (t' := (.array (.array .char))) (by decide) (by decide)))).ext E19).other W26 (Or.inr (slot_ne (Or.inl (hw _ (List.mem_of_getElem? (i := 63) rfl))) (Or.inl (hw _ (List.mem_of_getElem? (i := 50) rfl))) (by decide) (t := .boolean) (t' := (.array .int)) (by decide) (by decide)))).ext E27).other W35 (Or.inr (slot_ne (Or.inl (hw _ (List.mem_of_getElem? (i := 63) rfl))) (Or.inl (hw _ (List.mem_of_getElem? (i := 52) rfl))) (by decide) (t := .boolean) (t' := (.array .int)) (by decide) (by decide)))).ext E36).other W45 (Or.inr (slot_ne (Or.inl (hw _ (List.mem_of_getElem? (i := 63) rfl))) (Or.inl (hw _ (List.mem_of_getElem? (i := 54) rfl))) (by decide) (t := .boolean) (t' := (.array (.object "java/lang/String"))) (by decide) (by decide))))
  have fa49 := ((((((((((((P3.ext E2).other W5 (Or.inr (slot_ne (Or.inl (hw _ (List.mem_of_getElem? (i := 65) rfl))) (Or.inl (hw _ (List.mem_of_getElem? (i := 40) rfl))) (by decide) (t := (.array .char)) (t' := (.array (.object "java/lang/String"))) (by decide) (by decide)))).ext E6).other W11 (Or.inr (slot_ne (Or.inl (hw _ (List.mem_of_getElem? (i := 65) rfl))) (Or.inl (hw _ (List.mem_of_getElem? (i := 43) rfl))) (by decide) (t := (.array .char)) (t' := (.array .boolean)) (by decide) (by decide)))).ext E12).other W18 (Or.inr (slot_ne (Or.inl (hw _ (List.mem_of_getElem? (i := 65) rfl))) (Or.inl (hw _ (List.mem_of_getElem? (i := 47) rfl))) (by decide) (t := (.array .char)) (t' := (.array (.array .char))) (by decide) (by decide)))).ext E19).other W26 (Or.inr (slot_ne (Or.inl (hw _ (List.mem_of_getElem? (i := 65) rfl))) (Or.inl (hw _ (List.mem_of_getElem? (i := 50) rfl))) (by decide) (t := (.array .char)) (t' := (.array .int)) (by decide) (by decide)))).ext E27).other W35 (Or.inr (slot_ne (Or.inl (hw _ (List.mem_of_getElem? (i := 65) rfl))) (Or.inl (hw _ (List.mem_of_getElem? (i := 52) rfl))) (by decide) (t := (.array .char)) (t' := (.array .int)) (by decide) (by decide)))).ext E36).other W45 (Or.inr (slot_ne (Or.inl (hw _ (List.mem_of_getElem? (i := 65) rfl))) (Or.inl (hw _ (List.mem_of_getElem? (i := 54) rfl))) (by decide) (t := (.array .char)) (t' := (.array (.object "java/lang/String"))) (by decide) (by decide))))
  have fa50 := ((((((((((((P4.ext E2).other W5 (Or.inr (slot_ne (Or.inl (hw _ (List.mem_of_getElem? (i := 67) rfl))) (Or.inl (hw _ (List.mem_of_getElem? (i := 40) rfl))) (by decide) (t := (.array .char)) (t' := (.array (.object "java/lang/String"))) (by decide) (by decide)))).ext E6).other W11 (Or.inr (slot_ne (Or.inl (hw _ (List.mem_of_getElem? (i := 67) rfl))) (Or.inl (hw _ (List.mem_of_getElem? (i := 43) rfl))) (by decide) (t := (.array .char)) (t' := (.array .boolean)) (by decide) (by decide)))).ext E12).other W18 (Or.inr (slot_ne (Or.inl (hw _ (List.mem_of_getElem? (i := 67) rfl))) (Or.inl (hw _ (List.mem_of_getElem? (i := 47) rfl))) (by decide) (t := (.array .char)) (t' := (.array (.array .char))) (by decide) (by decide)))).ext E19).other W26 (Or.inr (slot_ne (Or.inl (hw _ (List.mem_of_getElem? (i := 67) rfl))) (Or.inl (hw _ (List.mem_of_getElem? (i := 50) rfl))) (by decide) (t := (.array .char)) (t' := (.array .int)) (by decide) (by decide)))).ext E27).other W35 (Or.inr (slot_ne (Or.inl (hw _ (List.mem_of_getElem? (i := 67) rfl))) (Or.inl (hw _ (List.mem_of_getElem? (i := 52) rfl))) (by decide) (t := (.array .char)) (t' := (.array .int)) (by decide) (by decide)))).ext E36).other W45 (Or.inr (slot_ne (Or.inl (hw _ (List.mem_of_getElem? (i := 67) rfl))) (Or.inl (hw _ (List.mem_of_getElem? (i := 54) rfl))) (by decide) (t := (.array .char)) (t' := (.array (.object "java/lang/String"))) (by decide) (by decide))))
  have fa51 := ((((((((((((P5.ext E2).other W5 (Or.inr (slot_ne (Or.inl (hw _ (List.mem_of_getElem? (i := 69) rfl))) (Or.inl (hw _ (List.mem_of_getElem? (i := 40) rfl))) (by decide) (t := .int) (t' := (.array (.object "java/lang/String"))) (by decide) (by decide)))).ext E6).other W11 (Or.inr (slot_ne (Or.inl (hw _ (List.mem_of_getElem? (i := 69) rfl))) (Or.inl (hw _ (List.mem_of_getElem? (i := 43) rfl))) (by decide) (t := .int) (t' := (.array .boolean)) (by decide) (by decide)))).ext E12).other W18 (Or.inr (slot_ne (Or.inl (hw _ (List.mem_of_getElem? (i := 69) rfl))) (Or.inl (hw _ (List.mem_of_getElem? (i := 47) rfl))) (by decide) (t := .int) (t' := (.array (.array .char))) (by decide) (by decide)))).ext E19).other W26 (Or.inr (slot_ne (Or.inl (hw _ (List.mem_of_getElem? (i := 69) rfl))) (Or.inl (hw _ (List.mem_of_getElem? (i := 50) rfl))) (by decide) (t := .int) (t' := (.array .int)) (by decide) (by decide)))).ext E27).other W35 (Or.inr (slot_ne (Or.inl (hw _ (List.mem_of_getElem? (i := 69) rfl))) (Or.inl (hw _ (List.mem_of_getElem? (i := 52) rfl))) (by decide) (t := .int) (t' := (.array .int)) (by decide) (by decide)))).ext E36).other W45 (Or.inr (slot_ne (Or.inl (hw _ (List.mem_of_getElem? (i := 69) rfl))) (Or.inl (hw _ (List.mem_of_getElem? (i := 54) rfl))) (by decide) (t := .int) (t' := (.array (.object "java/lang/String"))) (by decide) (by decide))))
  have fa52 := ((((((((((Fw5.ext E6).other W11 (Or.inr (slot_ne (Or.inl (hw _ (List.mem_of_getElem? (i := 40) rfl))) (Or.inl (hw _ (List.mem_of_getElem? (i := 43) rfl))) (by decide) (t := (.array (.object "java/lang/String"))) (t' := (.array .boolean)) (by decide) (by decide)))).ext E12).other W18 (Or.inr (slot_ne (Or.inl (hw _ (List.mem_of_getElem? (i := 40) rfl))) (Or.inl (hw _ (List.mem_of_getElem? (i := 47) rfl))) (by decide) (t := (.array (.object "java/lang/String"))) (t' := (.array (.array .char))) (by decide) (by decide)))).ext E19).other W26 (Or.inr (slot_ne (Or.inl (hw _ (List.mem_of_getElem? (i := 40) rfl))) (Or.inl (hw _ (List.mem_of_getElem? (i := 50) rfl))) (by decide) (t := (.array (.object "java/lang/String"))) (t' := (.array .int)) (by decide) (by decide)))).ext E27).other W35 (Or.inr (slot_ne (Or.inl (hw _ (List.mem_of_getElem? (i := 40) rfl))) (Or.inl (hw _ (List.mem_of_getElem? (i := 52) rfl))) (by decide) (t := (.array (.object "java/lang/String"))) (t' := (.array .int)) (by decide) (by decide)))).ext E36).other W45 (Or.inr (slot_ne (Or.inl (hw _ (List.mem_of_getElem? (i := 40) rfl))) (Or.inl (hw _ (List.mem_of_getElem? (i := 54) rfl))) (by decide) (t := (.array (.object "java/lang/String"))) (t' := (.array (.object "java/lang/String"))) (by decide) (by decide))))
  have fa53 := ((((((((Fw11.ext E12).other W18 (Or.inr (slot_ne (Or.inl (hw _ (List.mem_of_getElem? (i := 43) rfl))) (Or.inl (hw _ (List.mem_of_getElem? (i := 47) rfl))) (by decide) (t := (.array .boolean)) (t' := (.array (.array .char))) (by decide) (by decide)))).ext E19).other W26 (Or.inr (slot_ne (Or.inl (hw _ (List.mem_of_getElem? (i := 43) rfl))) (Or.inl (hw _ (List.mem_of_getElem? (i := 50) rfl))) (by decide) (t := (.array .boolean)) (t' := (.array .int)) (by decide) (by decide)))).ext E27).other W35 (Or.inr (slot_ne (Or.inl (hw _ (List.mem_of_getElem? (i := 43) rfl))) (Or.inl (hw _ (List.mem_of_getElem? (i := 52) rfl))) (by decide) (t := (.array .boolean)) (t' := (.array .int)) (by decide) (by decide)))).ext E36).other W45 (Or.inr (slot_ne (Or.inl (hw _ (List.mem_of_getElem? (i := 43) rfl))) (Or.inl (hw _ (List.mem_of_getElem? (i := 54) rfl))) (by decide) (t := (.array .boolean)) (t' := (.array (.object "java/lang/String"))) (by decide) (by decide))))
  have fa54 := ((((((Fw18.ext E19).other W26 (Or.inr (slot_ne (Or.inl (hw _ (List.mem_of_getElem? (i := 47) rfl))) (Or.inl (hw _ (List.mem_of_getElem? (i := 50) rfl))) (by decide) (t := (.array (.array .char))) (t' := (.array .int)) (by decide) (by decide)))).ext E27).other W35 (Or.inr (slot_ne (Or.inl (hw _ (List.mem_of_getElem? (i := 47) rfl))) (Or.inl (hw _ (List.mem_of_getElem? (i := 52) rfl))) (by decide) (t := (.array (.array .char))) (t' := (.array .int)) (by decide) (by decide)))).ext E36).other W45 (Or.inr (slot_ne (Or.inl (hw _ (List.mem_of_getElem? (i := 47) rfl))) (Or.inl (hw _ (List.mem_of_getElem? (i := 54) rfl))) (by decide) (t := (.array (.array .char))) (t' := (.array (.object "java/lang/String"))) (by decide) (by decide))))
  have fa55 := ((((Fw26.ext E27).other W35 (Or.inr (slot_ne (Or.inl (hw _ (List.mem_of_getElem? (i := 50) rfl))) (Or.inl (hw _ (List.mem_of_getElem? (i := 52) rfl))) (by decide) (t := (.array .int)) (t' := (.array .int)) (by decide) (by decide)))).ext E36).other W45 (Or.inr (slot_ne (Or.inl (hw _ (List.mem_of_getElem? (i := 50) rfl))) (Or.inl (hw _ (List.mem_of_getElem? (i := 54) rfl))) (by decide) (t := (.array .int)) (t' := (.array (.object "java/lang/String"))) (by decide) (by decide))))
  have fa56 := ((Fw35.ext E36).other W45 (Or.inr (slot_ne (Or.inl (hw _ (List.mem_of_getElem? (i := 52) rfl))) (Or.inl (hw _ (List.mem_of_getElem? (i := 54) rfl))) (by decide) (t := (.array .int)) (t' := (.array (.object "java/lang/String"))) (by decide) (by decide))))
  have fa57 := ((fa38.ext E36).other W45 (Ne.symm ne_a1_b2))
  have fa58 := ((fa39.ext E36).other W45 (Ne.symm ne_a1_b6))
  have fa59 := ((fa40.ext E36).other W45 (Ne.symm ne_a1_b12))
  have fa60 := ((fa41.ext E36).other W45 (Ne.symm ne_a1_b19))
  have fa61 := ((fa42.ext E36).other W45 (Ne.symm ne_a1_b27))
  have fa62 := (V36.other W45 (Ne.symm ne_a1_b36))
  show Q7 Z a1 h0 n0 _ T45.heap _
  rw [e45]
  exact ⟨rfl, N45, K45, b2, b6, b12, b19, b27, b36, k2, k6, k12, k19, k27, k36, fa46, fa47, fa48, fa49, fa50, fa51, fa52, fa53, fa54, fa55, fa56, Fw45, fa57, fa58, fa59, fa60, fa61, fa62, ov2, ov12, ov36, ne_b2_b6, ne_b2_b12, ne_b2_b19, ne_b2_b27, ne_b2_b36, ne_b6_b12, ne_b6_b19, ne_b6_b27, ne_b6_b36, ne_b12_b19, ne_b12_b27, ne_b12_b36, ne_b19_b27, ne_b19_b36, ne_b27_b36, sz_b2, sz_b6, sz_b12, sz_b19, sz_b27, sz_b36⟩

theorem d10_0 : decode prog_105_method_8_code 0 = .ok (.aload_n 0, 1) := by decide +kernel
theorem d10_1 : decode prog_105_method_8_code 1 = .ok (.getfield 35, 3) := by decide +kernel
theorem d10_4 : decode prog_105_method_8_code 4 = .ok (.areturn, 1) := by decide +kernel
theorem pn_10 : plainName "com/example/scheherazade/scheherazade/reader/TagParts" = true := by first | (simp [plainName, overriddenIn]; done) | decide +kernel
theorem ef_10 (m : MethodId) (x0 : Addr) : entryFrame m #[(.ref x0)] 1 = mkF m 0 #[.val (.ref x0)] [] := by first | (simp [entryFrame, mkF, argsToLocals, Value.category]; done) | rfl
def Q10 (Z : State) (a1 : Addr) (x1 : Addr) (h0 : Heap) (n0 : Nat) (v : Option Value) (h : Heap) (L : List Loc) : Prop := v = some (.ref x1) ∧ Fr n0 L ∧ h = h0
set_option maxRecDepth 65536 in
set_option maxHeartbeats 40000000 in
theorem rm10 (l : Launch) (Z : State) (a0 : Array Value) (hw : ∀ d ∈ tables_1, d.before a0 Z = true) (wds : List Jvm.Cond) (a1 : Addr) (x1 : Addr) (h0 : Heap) (n0 : Nat) (Z0 : n0 ≤ h0.size) (P0 : Exa Z h0 a1 "com/example/scheherazade/scheherazade/reader/TagParts") (P1 : Fld Z h0 a1 "com/example/scheherazade/scheherazade/reader/TagParts" "name" "Ljava/lang/String;" (.ref x1)) :
    MetFree l (⟨"com/example/scheherazade/scheherazade/reader/TagParts", "getName", "()Ljava/lang/String;"⟩ : MethodName) (head1 (Jvm.Cond.code (⟨"com/example/scheherazade/scheherazade/reader/TagParts", "getName", "()Ljava/lang/String;"⟩ : MethodName) prog_105_method_8_code 1 (some (.object "java/lang/String")) :: wds) ({ frames := 0, cells := 0, slots := 0, locals := 0 } : Room)) (fun a U => a = #[(.ref a1)] ∧ Z.Warmed39 U.vm ∧ U.heap = h0) (fun _ _ _ _ _ => True) (fun _ U o U' => ∃ v L, o = .returned v ∧ Q10 Z a1 x1 h0 n0 v U'.heap L ∧ FrameEnd U o U' L ({ frames := 0, cells := 0, slots := 0, locals := 0 } : Room).cells ({ frames := 0, cells := 0, slots := 0, locals := 0 } : Room).slots) := by
  refine MetFree.of_bodySF (plainFor_of_name pn_10) hisR ?_
  intro p e s m args below meth c s₁ Bd hml0 hP hK
  obtain ⟨rfl, hZ, hh⟩ := hP
  have hx := Bd.exec
  have hby := Bd.bytes
  have hml : c.maxLocals = 1 := hml0
  have hown : s.vm.findClass "com/example/scheherazade/scheherazade/reader/TagParts" = some m.cls := findClass_of_methodNamed Bd.named
  have hnm := (name_of_methodNamed Bd.named Bd.method).1
  have X0 : Stand p l e ({ frames := 0, cells := 0, slots := 0, locals := 0 } : Room) s m #[(.ref a1)] below meth c s₁ [] 0 0 := Stand.of_body Bd
  have e0 : s₁.heap = h0 := by rw [← hh, Bd.state]; rfl
  have N0 := Fr.nil n0
  refine own_start (Q := Q10 Z a1 x1 h0 n0) (C := ({ frames := 0, cells := 0, slots := 0, locals := 0 } : Room).cells) (S := ({ frames := 0, cells := 0, slots := 0, locals := 0 } : Room).slots) ?_
  rw [ef_10 m a1]
  refine Gen.on (b := s₁.setTop (mkF m 1 #[.val (.ref a1)] [(.ref a1)])) ?_ (fun t k => XS.aloadN X0.here hx rfl (hb hby d10_0) rfl rfl k)
  obtain ⟨T1, X1, e1, st1⟩ := getF X0 hx hZ hown (host := "") (Or.inl (hw _ (List.mem_of_getElem? (i := 60) rfl))) Via.refl e0 P1 (g := (mkF m 1 #[.val (.ref a1)] [(.ref a1)])) rfl rfl (hb hby d10_1)
  refine Gen.on (b := T1.setTop (mkF m 4 #[.val (.ref a1)] [(.ref x1)])) ?_ (fun t k => st1 t k)
  refine own_retA X1 hx Bd.returns rfl rfl (hb hby d10_4) (by decide) (by decide) ?_
  exact ⟨rfl, N0, e1⟩

theorem d11_0 : decode prog_105_method_10_code 0 = .ok (.aload_n 0, 1) := by decide +kernel
theorem d11_1 : decode prog_105_method_10_code 1 = .ok (.getfield 39, 3) := by decide +kernel
theorem d11_4 : decode prog_105_method_10_code 4 = .ok (.ireturn, 1) := by decide +kernel
theorem pn_11 : plainName "com/example/scheherazade/scheherazade/reader/TagParts" = true := by first | (simp [plainName, overriddenIn]; done) | decide +kernel
theorem ef_11 (m : MethodId) (x0 : Addr) : entryFrame m #[(.ref x0)] 1 = mkF m 0 #[.val (.ref x0)] [] := by first | (simp [entryFrame, mkF, argsToLocals, Value.category]; done) | rfl
def Q11 (Z : State) (a1 : Addr) (x1 : Int32) (h0 : Heap) (n0 : Nat) (v : Option Value) (h : Heap) (L : List Loc) : Prop := v = some (.int x1) ∧ Fr n0 L ∧ h = h0
set_option maxRecDepth 65536 in
set_option maxHeartbeats 40000000 in
theorem rm11 (l : Launch) (Z : State) (a0 : Array Value) (hw : ∀ d ∈ tables_1, d.before a0 Z = true) (wds : List Jvm.Cond) (a1 : Addr) (x1 : Int32) (h0 : Heap) (n0 : Nat) (Z0 : n0 ≤ h0.size) (P0 : Exa Z h0 a1 "com/example/scheherazade/scheherazade/reader/TagParts") (P1 : Fld Z h0 a1 "com/example/scheherazade/scheherazade/reader/TagParts" "prefixed" "Z" (.int x1)) (hnz : nar .boolean x1 = x1) :
    MetFree l (⟨"com/example/scheherazade/scheherazade/reader/TagParts", "hasPrefix", "()Z"⟩ : MethodName) (head1 (Jvm.Cond.code (⟨"com/example/scheherazade/scheherazade/reader/TagParts", "hasPrefix", "()Z"⟩ : MethodName) prog_105_method_10_code 1 (some .boolean) :: wds) ({ frames := 0, cells := 0, slots := 0, locals := 0 } : Room)) (fun a U => a = #[(.ref a1)] ∧ Z.Warmed39 U.vm ∧ U.heap = h0) (fun _ _ _ _ _ => True) (fun _ U o U' => ∃ v L, o = .returned v ∧ Q11 Z a1 x1 h0 n0 v U'.heap L ∧ FrameEnd U o U' L ({ frames := 0, cells := 0, slots := 0, locals := 0 } : Room).cells ({ frames := 0, cells := 0, slots := 0, locals := 0 } : Room).slots) := by
  refine MetFree.of_bodySF (plainFor_of_name pn_11) hisR ?_
  intro p e s m args below meth c s₁ Bd hml0 hP hK
  obtain ⟨rfl, hZ, hh⟩ := hP
  have hx := Bd.exec
  have hby := Bd.bytes
  have hml : c.maxLocals = 1 := hml0
  have hown : s.vm.findClass "com/example/scheherazade/scheherazade/reader/TagParts" = some m.cls := findClass_of_methodNamed Bd.named
  have hnm := (name_of_methodNamed Bd.named Bd.method).1
  have X0 : Stand p l e ({ frames := 0, cells := 0, slots := 0, locals := 0 } : Room) s m #[(.ref a1)] below meth c s₁ [] 0 0 := Stand.of_body Bd
  have e0 : s₁.heap = h0 := by rw [← hh, Bd.state]; rfl
  have N0 := Fr.nil n0
  refine own_start (Q := Q11 Z a1 x1 h0 n0) (C := ({ frames := 0, cells := 0, slots := 0, locals := 0 } : Room).cells) (S := ({ frames := 0, cells := 0, slots := 0, locals := 0 } : Room).slots) ?_
  rw [ef_11 m a1]
  refine Gen.on (b := s₁.setTop (mkF m 1 #[.val (.ref a1)] [(.ref a1)])) ?_ (fun t k => XS.aloadN X0.here hx rfl (hb hby d11_0) rfl rfl k)
  obtain ⟨T1, X1, e1, st1⟩ := getF X0 hx hZ hown (host := "") (Or.inl (hw _ (List.mem_of_getElem? (i := 62) rfl))) Via.refl e0 P1 (g := (mkF m 1 #[.val (.ref a1)] [(.ref a1)])) rfl rfl (hb hby d11_1)
  refine Gen.on (b := T1.setTop (mkF m 4 #[.val (.ref a1)] [(.int x1)])) ?_ (fun t k => st1 t k)
  refine own_retN (t := .boolean) X1 hx Bd.returns (by simp) hnz (hb hby d11_4) (by decide) (by decide) ?_
  exact ⟨rfl, N0, e1⟩

theorem d12_0 : decode prog_105_method_9_code 0 = .ok (.aload_n 0, 1) := by decide +kernel
theorem d12_1 : decode prog_105_method_9_code 1 = .ok (.getfield 43, 3) := by decide +kernel
theorem d12_4 : decode prog_105_method_9_code 4 = .ok (.areturn, 1) := by decide +kernel
theorem pn_12 : plainName "com/example/scheherazade/scheherazade/reader/TagParts" = true := by first | (simp [plainName, overriddenIn]; done) | decide +kernel
theorem ef_12 (m : MethodId) (x0 : Addr) : entryFrame m #[(.ref x0)] 1 = mkF m 0 #[.val (.ref x0)] [] := by first | (simp [entryFrame, mkF, argsToLocals, Value.category]; done) | rfl
def Q12 (Z : State) (a1 : Addr) (x1 : Addr) (h0 : Heap) (n0 : Nat) (v : Option Value) (h : Heap) (L : List Loc) : Prop := v = some (.ref x1) ∧ Fr n0 L ∧ h = h0
set_option maxRecDepth 65536 in
set_option maxHeartbeats 40000000 in
theorem rm12 (l : Launch) (Z : State) (a0 : Array Value) (hw : ∀ d ∈ tables_1, d.before a0 Z = true) (wds : List Jvm.Cond) (a1 : Addr) (x1 : Addr) (h0 : Heap) (n0 : Nat) (Z0 : n0 ≤ h0.size) (P0 : Exa Z h0 a1 "com/example/scheherazade/scheherazade/reader/TagParts") (P1 : Fld Z h0 a1 "com/example/scheherazade/scheherazade/reader/TagParts" "nameSpelling" "[C" (.ref x1)) :
    MetFree l (⟨"com/example/scheherazade/scheherazade/reader/TagParts", "getNameSpelling", "()[C"⟩ : MethodName) (head1 (Jvm.Cond.code (⟨"com/example/scheherazade/scheherazade/reader/TagParts", "getNameSpelling", "()[C"⟩ : MethodName) prog_105_method_9_code 1 (some (.array .char)) :: wds) ({ frames := 0, cells := 0, slots := 0, locals := 0 } : Room)) (fun a U => a = #[(.ref a1)] ∧ Z.Warmed39 U.vm ∧ U.heap = h0) (fun _ _ _ _ _ => True) (fun _ U o U' => ∃ v L, o = .returned v ∧ Q12 Z a1 x1 h0 n0 v U'.heap L ∧ FrameEnd U o U' L ({ frames := 0, cells := 0, slots := 0, locals := 0 } : Room).cells ({ frames := 0, cells := 0, slots := 0, locals := 0 } : Room).slots) := by
  refine MetFree.of_bodySF (plainFor_of_name pn_12) hisR ?_
  intro p e s m args below meth c s₁ Bd hml0 hP hK
  obtain ⟨rfl, hZ, hh⟩ := hP
  have hx := Bd.exec
  have hby := Bd.bytes
  have hml : c.maxLocals = 1 := hml0
  have hown : s.vm.findClass "com/example/scheherazade/scheherazade/reader/TagParts" = some m.cls := findClass_of_methodNamed Bd.named
  have hnm := (name_of_methodNamed Bd.named Bd.method).1
  have X0 : Stand p l e ({ frames := 0, cells := 0, slots := 0, locals := 0 } : Room) s m #[(.ref a1)] below meth c s₁ [] 0 0 := Stand.of_body Bd
  have e0 : s₁.heap = h0 := by rw [← hh, Bd.state]; rfl
  have N0 := Fr.nil n0
  refine own_start (Q := Q12 Z a1 x1 h0 n0) (C := ({ frames := 0, cells := 0, slots := 0, locals := 0 } : Room).cells) (S := ({ frames := 0, cells := 0, slots := 0, locals := 0 } : Room).slots) ?_
  rw [ef_12 m a1]
  refine Gen.on (b := s₁.setTop (mkF m 1 #[.val (.ref a1)] [(.ref a1)])) ?_ (fun t k => XS.aloadN X0.here hx rfl (hb hby d12_0) rfl rfl k)
  obtain ⟨T1, X1, e1, st1⟩ := getF X0 hx hZ hown (host := "") (Or.inl (hw _ (List.mem_of_getElem? (i := 64) rfl))) Via.refl e0 P1 (g := (mkF m 1 #[.val (.ref a1)] [(.ref a1)])) rfl rfl (hb hby d12_1)
  refine Gen.on (b := T1.setTop (mkF m 4 #[.val (.ref a1)] [(.ref x1)])) ?_ (fun t k => st1 t k)
  refine own_retA X1 hx Bd.returns rfl rfl (hb hby d12_4) (by decide) (by decide) ?_
  exact ⟨rfl, N0, e1⟩

theorem d12n_0 : decode prog_105_method_9_code 0 = .ok (.aload_n 0, 1) := by decide +kernel
theorem d12n_1 : decode prog_105_method_9_code 1 = .ok (.getfield 43, 3) := by decide +kernel
theorem d12n_4 : decode prog_105_method_9_code 4 = .ok (.areturn, 1) := by decide +kernel
theorem pn_12n : plainName "com/example/scheherazade/scheherazade/reader/TagParts" = true := by first | (simp [plainName, overriddenIn]; done) | decide +kernel
theorem ef_12n (m : MethodId) (x0 : Addr) : entryFrame m #[(.ref x0)] 1 = mkF m 0 #[.val (.ref x0)] [] := by first | (simp [entryFrame, mkF, argsToLocals, Value.category]; done) | rfl
def Q12n (Z : State) (a1 : Addr) (h0 : Heap) (n0 : Nat) (v : Option Value) (h : Heap) (L : List Loc) : Prop := v = some .null ∧ Fr n0 L ∧ h = h0
set_option maxRecDepth 65536 in
set_option maxHeartbeats 40000000 in
theorem rm12n (l : Launch) (Z : State) (a0 : Array Value) (hw : ∀ d ∈ tables_1, d.before a0 Z = true) (wds : List Jvm.Cond) (a1 : Addr) (h0 : Heap) (n0 : Nat) (Z0 : n0 ≤ h0.size) (P0 : Exa Z h0 a1 "com/example/scheherazade/scheherazade/reader/TagParts") (P1 : Fld Z h0 a1 "com/example/scheherazade/scheherazade/reader/TagParts" "nameSpelling" "[C" .null) :
    MetFree l (⟨"com/example/scheherazade/scheherazade/reader/TagParts", "getNameSpelling", "()[C"⟩ : MethodName) (head1 (Jvm.Cond.code (⟨"com/example/scheherazade/scheherazade/reader/TagParts", "getNameSpelling", "()[C"⟩ : MethodName) prog_105_method_9_code 1 (some (.array .char)) :: wds) ({ frames := 0, cells := 0, slots := 0, locals := 0 } : Room)) (fun a U => a = #[(.ref a1)] ∧ Z.Warmed39 U.vm ∧ U.heap = h0) (fun _ _ _ _ _ => True) (fun _ U o U' => ∃ v L, o = .returned v ∧ Q12n Z a1 h0 n0 v U'.heap L ∧ FrameEnd U o U' L ({ frames := 0, cells := 0, slots := 0, locals := 0 } : Room).cells ({ frames := 0, cells := 0, slots := 0, locals := 0 } : Room).slots) := by
  refine MetFree.of_bodySF (plainFor_of_name pn_12n) hisR ?_
  intro p e s m args below meth c s₁ Bd hml0 hP hK
  obtain ⟨rfl, hZ, hh⟩ := hP
  have hx := Bd.exec
  have hby := Bd.bytes
  have hml : c.maxLocals = 1 := hml0
  have hown : s.vm.findClass "com/example/scheherazade/scheherazade/reader/TagParts" = some m.cls := findClass_of_methodNamed Bd.named
  have hnm := (name_of_methodNamed Bd.named Bd.method).1
  have X0 : Stand p l e ({ frames := 0, cells := 0, slots := 0, locals := 0 } : Room) s m #[(.ref a1)] below meth c s₁ [] 0 0 := Stand.of_body Bd
  have e0 : s₁.heap = h0 := by rw [← hh, Bd.state]; rfl
  have N0 := Fr.nil n0
  refine own_start (Q := Q12n Z a1 h0 n0) (C := ({ frames := 0, cells := 0, slots := 0, locals := 0 } : Room).cells) (S := ({ frames := 0, cells := 0, slots := 0, locals := 0 } : Room).slots) ?_
  rw [ef_12n m a1]
  refine Gen.on (b := s₁.setTop (mkF m 1 #[.val (.ref a1)] [(.ref a1)])) ?_ (fun t k => XS.aloadN X0.here hx rfl (hb hby d12n_0) rfl rfl k)
  obtain ⟨T1, X1, e1, st1⟩ := getF X0 hx hZ hown (host := "") (Or.inl (hw _ (List.mem_of_getElem? (i := 64) rfl))) Via.refl e0 P1 (g := (mkF m 1 #[.val (.ref a1)] [(.ref a1)])) rfl rfl (hb hby d12n_1)
  refine Gen.on (b := T1.setTop (mkF m 4 #[.val (.ref a1)] [.null])) ?_ (fun t k => st1 t k)
  refine own_retA X1 hx Bd.returns rfl rfl (hb hby d12n_4) (by decide) (by decide) ?_
  exact ⟨rfl, N0, e1⟩

theorem d13_0 : decode prog_105_method_11_code 0 = .ok (.aload_n 0, 1) := by decide +kernel
theorem d13_1 : decode prog_105_method_11_code 1 = .ok (.getfield 49, 3) := by decide +kernel
theorem d13_4 : decode prog_105_method_11_code 4 = .ok (.ireturn, 1) := by decide +kernel
theorem pn_13 : plainName "com/example/scheherazade/scheherazade/reader/TagParts" = true := by first | (simp [plainName, overriddenIn]; done) | decide +kernel
theorem ef_13 (m : MethodId) (x0 : Addr) : entryFrame m #[(.ref x0)] 1 = mkF m 0 #[.val (.ref x0)] [] := by first | (simp [entryFrame, mkF, argsToLocals, Value.category]; done) | rfl
def Q13 (Z : State) (a1 : Addr) (x1 : Int32) (h0 : Heap) (n0 : Nat) (v : Option Value) (h : Heap) (L : List Loc) : Prop := v = some (.int x1) ∧ Fr n0 L ∧ h = h0
set_option maxRecDepth 65536 in
set_option maxHeartbeats 40000000 in
theorem rm13 (l : Launch) (Z : State) (a0 : Array Value) (hw : ∀ d ∈ tables_1, d.before a0 Z = true) (wds : List Jvm.Cond) (a1 : Addr) (x1 : Int32) (h0 : Heap) (n0 : Nat) (Z0 : n0 ≤ h0.size) (P0 : Exa Z h0 a1 "com/example/scheherazade/scheherazade/reader/TagParts") (P1 : Fld Z h0 a1 "com/example/scheherazade/scheherazade/reader/TagParts" "attributeCount" "I" (.int x1)) :
    MetFree l (⟨"com/example/scheherazade/scheherazade/reader/TagParts", "getAttributeCount", "()I"⟩ : MethodName) (head1 (Jvm.Cond.code (⟨"com/example/scheherazade/scheherazade/reader/TagParts", "getAttributeCount", "()I"⟩ : MethodName) prog_105_method_11_code 1 (some .int) :: wds) ({ frames := 0, cells := 0, slots := 0, locals := 0 } : Room)) (fun a U => a = #[(.ref a1)] ∧ Z.Warmed39 U.vm ∧ U.heap = h0) (fun _ _ _ _ _ => True) (fun _ U o U' => ∃ v L, o = .returned v ∧ Q13 Z a1 x1 h0 n0 v U'.heap L ∧ FrameEnd U o U' L ({ frames := 0, cells := 0, slots := 0, locals := 0 } : Room).cells ({ frames := 0, cells := 0, slots := 0, locals := 0 } : Room).slots) := by
  refine MetFree.of_bodySF (plainFor_of_name pn_13) hisR ?_
  intro p e s m args below meth c s₁ Bd hml0 hP hK
  obtain ⟨rfl, hZ, hh⟩ := hP
  have hx := Bd.exec
  have hby := Bd.bytes
  have hml : c.maxLocals = 1 := hml0
  have hown : s.vm.findClass "com/example/scheherazade/scheherazade/reader/TagParts" = some m.cls := findClass_of_methodNamed Bd.named
  have hnm := (name_of_methodNamed Bd.named Bd.method).1
  have X0 : Stand p l e ({ frames := 0, cells := 0, slots := 0, locals := 0 } : Room) s m #[(.ref a1)] below meth c s₁ [] 0 0 := Stand.of_body Bd
  have e0 : s₁.heap = h0 := by rw [← hh, Bd.state]; rfl
  have N0 := Fr.nil n0
  refine own_start (Q := Q13 Z a1 x1 h0 n0) (C := ({ frames := 0, cells := 0, slots := 0, locals := 0 } : Room).cells) (S := ({ frames := 0, cells := 0, slots := 0, locals := 0 } : Room).slots) ?_
  rw [ef_13 m a1]
  refine Gen.on (b := s₁.setTop (mkF m 1 #[.val (.ref a1)] [(.ref a1)])) ?_ (fun t k => XS.aloadN X0.here hx rfl (hb hby d13_0) rfl rfl k)
  obtain ⟨T1, X1, e1, st1⟩ := getF X0 hx hZ hown (host := "") (Or.inl (hw _ (List.mem_of_getElem? (i := 68) rfl))) Via.refl e0 P1 (g := (mkF m 1 #[.val (.ref a1)] [(.ref a1)])) rfl rfl (hb hby d13_1)
  refine Gen.on (b := T1.setTop (mkF m 4 #[.val (.ref a1)] [(.int x1)])) ?_ (fun t k => st1 t k)
  refine own_retI X1 hx Bd.returns (hb hby d13_4) (by decide) (by decide) ?_
  exact ⟨rfl, N0, e1⟩

theorem d14_0 : decode prog_105_method_4_code 0 = .ok (.iload_n 1, 1) := by decide +kernel
theorem d14_1 : decode prog_105_method_4_code 1 = .ok (.aload_n 0, 1) := by decide +kernel
theorem d14_2 : decode prog_105_method_4_code 2 = .ok (.getfield 21, 3) := by decide +kernel
theorem d14_5 : decode prog_105_method_4_code 5 = .ok (.arraylength, 1) := by decide +kernel
theorem d14_6 : decode prog_105_method_4_code 6 = .ok (.if_icmp .ge 12, 3) := by decide +kernel
theorem d14_9 : decode prog_105_method_4_code 9 = .ok (.aload_n 0, 1) := by decide +kernel
theorem d14_10 : decode prog_105_method_4_code 10 = .ok (.getfield 21, 3) := by decide +kernel
theorem d14_13 : decode prog_105_method_4_code 13 = .ok (.iload_n 1, 1) := by decide +kernel
theorem d14_14 : decode prog_105_method_4_code 14 = .ok (.aaload, 1) := by decide +kernel
theorem d14_15 : decode prog_105_method_4_code 15 = .ok (.goto 4, 3) := by decide +kernel
theorem d14_19 : decode prog_105_method_4_code 19 = .ok (.areturn, 1) := by decide +kernel
theorem pn_14 : plainName "com/example/scheherazade/scheherazade/reader/TagParts" = true := by first | (simp [plainName, overriddenIn]; done) | decide +kernel
theorem ef_14 (m : MethodId) (x0 : Addr) (x1 : Int32) : entryFrame m #[(.ref x0), (.int x1)] 2 = mkF m 0 #[.val (.ref x0), .val (.int x1)] [] := by first | (simp [entryFrame, mkF, argsToLocals, Value.category]; done) | rfl
def Q14 (Z : State) (a1 : Addr) (m3 : Addr) (kq3 : ClassId) (x1 : Addr) (h0 : Heap) (n0 : Nat) (v : Option Value) (h : Heap) (L : List Loc) : Prop := v = some (.ref x1) ∧ Fr n0 L ∧ h = h0
set_option maxRecDepth 65536 in
set_option maxHeartbeats 40000000 in
theorem rm14 (l : Launch) (Z : State) (a0 : Array Value) (hw : ∀ d ∈ tables_1, d.before a0 Z = true) (wds : List Jvm.Cond) (a1 : Addr) (m3 : Addr) (kq3 : ClassId) (x1 : Addr) (h0 : Heap) (n0 : Nat) (Z0 : n0 ≤ h0.size) (P0 : Exa Z h0 a1 "com/example/scheherazade/scheherazade/reader/TagParts") (P1 : Fld Z h0 a1 "com/example/scheherazade/scheherazade/reader/TagParts" "attributeSpellings" "[[C" (.ref m3)) (P2 : Arv Z h0 m3 kq3 (.array .char) (4 : Int32) [(.ref x1), .null, .null, .null] .null) :
    MetFree l (⟨"com/example/scheherazade/scheherazade/reader/TagParts", "getLikelyAttributeSpelling", "(I)[C"⟩ : MethodName) (head1 (Jvm.Cond.code (⟨"com/example/scheherazade/scheherazade/reader/TagParts", "getLikelyAttributeSpelling", "(I)[C"⟩ : MethodName) prog_105_method_4_code 2 (some (.array .char)) :: wds) ({ frames := 0, cells := 0, slots := 0, locals := 0 } : Room)) (fun a U => a = #[(.ref a1), (.int (0 : Int32))] ∧ Z.Warmed39 U.vm ∧ U.heap = h0) (fun _ _ _ _ _ => True) (fun _ U o U' => ∃ v L, o = .returned v ∧ Q14 Z a1 m3 kq3 x1 h0 n0 v U'.heap L ∧ FrameEnd U o U' L ({ frames := 0, cells := 0, slots := 0, locals := 0 } : Room).cells ({ frames := 0, cells := 0, slots := 0, locals := 0 } : Room).slots) := by
  refine MetFree.of_bodySF (plainFor_of_name pn_14) hisR ?_
  intro p e s m args below meth c s₁ Bd hml0 hP hK
  obtain ⟨rfl, hZ, hh⟩ := hP
  have hx := Bd.exec
  have hby := Bd.bytes
  have hml : c.maxLocals = 2 := hml0
  have hown : s.vm.findClass "com/example/scheherazade/scheherazade/reader/TagParts" = some m.cls := findClass_of_methodNamed Bd.named
  have hnm := (name_of_methodNamed Bd.named Bd.method).1
  have X0 : Stand p l e ({ frames := 0, cells := 0, slots := 0, locals := 0 } : Room) s m #[(.ref a1), (.int (0 : Int32))] below meth c s₁ [] 0 0 := Stand.of_body Bd
  have e0 : s₁.heap = h0 := by rw [← hh, Bd.state]; rfl
  have N0 := Fr.nil n0
  refine own_start (Q := Q14 Z a1 m3 kq3 x1 h0 n0) (C := ({ frames := 0, cells := 0, slots := 0, locals := 0 } : Room).cells) (S := ({ frames := 0, cells := 0, slots := 0, locals := 0 } : Room).slots) ?_
  rw [ef_14 m a1 (0 : Int32)]
  refine Gen.on (b := s₁.setTop (mkF m 1 #[.val (.ref a1), .val (.int (0 : Int32))] [(.int (0 : Int32))])) ?_ (fun t k => XS.iloadN X0.here hx rfl (hb hby d14_0) rfl k)
  refine Gen.on (b := s₁.setTop (mkF m 2 #[.val (.ref a1), .val (.int (0 : Int32))] [(.ref a1), (.int (0 : Int32))])) ?_ (fun t k => XS.aloadN X0.here hx rfl (hb hby d14_1) rfl rfl k)
  obtain ⟨T1, X1, e1, st1⟩ := getF X0 hx hZ hown (host := "") (Or.inl (hw _ (List.mem_of_getElem? (i := 46) rfl))) Via.refl e0 P1 (g := (mkF m 2 #[.val (.ref a1), .val (.int (0 : Int32))] [(.ref a1), (.int (0 : Int32))])) rfl rfl (hb hby d14_2)
  refine Gen.on (b := T1.setTop (mkF m 5 #[.val (.ref a1), .val (.int (0 : Int32))] [(.ref m3), (.int (0 : Int32))])) ?_ (fun t k => st1 t k)
  obtain ⟨cl2, Ar2, qA2, SA2, NA2, HA2, GA2⟩ := id P2
  refine Gen.on (b := T1.setTop (mkF m 6 #[.val (.ref a1), .val (.int (0 : Int32))] [(.int (4 : Int32)), (.int (0 : Int32))])) ?_ (fun t k => X1.arraylength hx (by rw [e1]; exact Ar2.1) (State.isArrayOf_alike hZ.alike Ar2.2.1) (g := (mkF m 5 #[.val (.ref a1), .val (.int (0 : Int32))] [(.ref m3), (.int (0 : Int32))])) rfl rfl (hb hby d14_5) t (by rw [len_of SA2 NA2]; exact k))
  refine Gen.on (b := T1.setTop (mkF m 9 #[.val (.ref a1), .val (.int (0 : Int32))] [])) ?_ (fun t k => XS.icmpNo X1.here hx rfl (hb hby d14_6) rfl (tlt (by decide : (0 : Int32) < (4 : Int32))).2.1 k)
  refine Gen.on (b := T1.setTop (mkF m 10 #[.val (.ref a1), .val (.int (0 : Int32))] [(.ref a1)])) ?_ (fun t k => XS.aloadN X1.here hx rfl (hb hby d14_9) rfl rfl k)
  obtain ⟨T3, X3, e3, st3⟩ := getF X1 hx hZ hown (host := "") (Or.inl (hw _ (List.mem_of_getElem? (i := 46) rfl))) Via.refl e1 P1 (g := (mkF m 10 #[.val (.ref a1), .val (.int (0 : Int32))] [(.ref a1)])) rfl rfl (hb hby d14_10)
  refine Gen.on (b := T3.setTop (mkF m 13 #[.val (.ref a1), .val (.int (0 : Int32))] [(.ref m3)])) ?_ (fun t k => st3 t k)
  refine Gen.on (b := T3.setTop (mkF m 14 #[.val (.ref a1), .val (.int (0 : Int32))] [(.int (0 : Int32)), (.ref m3)])) ?_ (fun t k => XS.iloadN X3.here hx rfl (hb hby d14_13) rfl k)
  refine Gen.on (b := T3.setTop (mkF m 15 #[.val (.ref a1), .val (.int (0 : Int32))] [(.ref x1)])) ?_ (fun t k => X3.aaload hx (j := (0 : Int32)) (v := (.ref x1)) (by rw [e3]; exact Ar2.1) (State.isArrayOf_alike hZ.alike Ar2.2.1) rfl Ar2.2.2 (inb_of SA2 ⟨by decide, by decide⟩) (own_at0 HA2 SA2) (g := (mkF m 14 #[.val (.ref a1), .val (.int (0 : Int32))] [(.int (0 : Int32)), (.ref m3)])) rfl rfl (hb hby d14_14) t k)
  refine Gen.on (b := T3.setTop (mkF m 19 #[.val (.ref a1), .val (.int (0 : Int32))] [(.ref x1)])) ?_ (fun t k => XS.goto X3.here hx rfl (pc0 := 15) (pc' := 19) rfl (hb hby d14_15) (by decide) (by decide) k)
  refine own_retA X3 hx Bd.returns rfl rfl (hb hby d14_19) (by decide) (by decide) ?_
  exact ⟨rfl, N0, e3⟩

theorem own_neYA {Z : State} {h : Heap} {a b : Addr} {ty ty' : FieldType} {z z' : Int32} {y : Int32 → Int32} {k : ClassId} {vs : List Value} {d : Value} (F : Afn Z h b ty z y) (G : Arv Z h a k ty' z' vs d) (hne : ty ≠ ty') : b ≠ a := fun e => by
  subst e
  obtain ⟨c1, ⟨f1, ⟨-, k1, f2, p1, f3⟩, -⟩, -⟩ := F
  obtain ⟨c2, ⟨g1, ⟨-, k2, g2, p2, g3⟩, -⟩, -⟩ := G
  cases f1.symm.trans g1
  cases f2.symm.trans g2
  have := f3.symm.trans g3
  injection this with _ e
  exact hne e


theorem d15_0 : decode prog_105_method_14_code 0 = .ok (.aload_n 0, 1) := by decide +kernel
theorem d15_1 : decode prog_105_method_14_code 1 = .ok (.getfield 32, 3) := by decide +kernel
theorem d15_4 : decode prog_105_method_14_code 4 = .ok (.iload_n 1, 1) := by decide +kernel
theorem d15_5 : decode prog_105_method_14_code 5 = .ok (.aaload, 1) := by decide +kernel
theorem d15_6 : decode prog_105_method_14_code 6 = .ok (.astore_n 2, 1) := by decide +kernel
theorem d15_7 : decode prog_105_method_14_code 7 = .ok (.aload_n 2, 1) := by decide +kernel
theorem d15_8 : decode prog_105_method_14_code 8 = .ok (.ifnonnull 34, 3) := by decide +kernel
theorem d15_11 : decode prog_105_method_14_code 11 = .ok (.new 9, 3) := by decide +kernel
theorem d15_14 : decode prog_105_method_14_code 14 = .ok (.dup, 1) := by decide +kernel
theorem d15_15 : decode prog_105_method_14_code 15 = .ok (.aload_n 0, 1) := by decide +kernel
theorem d15_16 : decode prog_105_method_14_code 16 = .ok (.getfield 46, 3) := by decide +kernel
theorem d15_19 : decode prog_105_method_14_code 19 = .ok (.aload_n 0, 1) := by decide +kernel
theorem d15_20 : decode prog_105_method_14_code 20 = .ok (.getfield 25, 3) := by decide +kernel
theorem d15_23 : decode prog_105_method_14_code 23 = .ok (.iload_n 1, 1) := by decide +kernel
theorem d15_24 : decode prog_105_method_14_code 24 = .ok (.iaload, 1) := by decide +kernel
theorem d15_25 : decode prog_105_method_14_code 25 = .ok (.aload_n 0, 1) := by decide +kernel
theorem d15_26 : decode prog_105_method_14_code 26 = .ok (.getfield 29, 3) := by decide +kernel
theorem d15_29 : decode prog_105_method_14_code 29 = .ok (.iload_n 1, 1) := by decide +kernel
theorem d15_30 : decode prog_105_method_14_code 30 = .ok (.iaload, 1) := by decide +kernel
theorem d15_31 : decode prog_105_method_14_code 31 = .ok (.invokespecial 76, 3) := by decide +kernel
theorem d15_34 : decode prog_105_method_14_code 34 = .ok (.astore_n 2, 1) := by decide +kernel
theorem d15_35 : decode prog_105_method_14_code 35 = .ok (.aload_n 0, 1) := by decide +kernel
theorem d15_36 : decode prog_105_method_14_code 36 = .ok (.getfield 32, 3) := by decide +kernel
theorem d15_39 : decode prog_105_method_14_code 39 = .ok (.iload_n 1, 1) := by decide +kernel
theorem d15_40 : decode prog_105_method_14_code 40 = .ok (.aload_n 2, 1) := by decide +kernel
theorem d15_41 : decode prog_105_method_14_code 41 = .ok (.aastore, 1) := by decide +kernel
theorem d15_42 : decode prog_105_method_14_code 42 = .ok (.aload_n 2, 1) := by decide +kernel
theorem d15_43 : decode prog_105_method_14_code 43 = .ok (.areturn, 1) := by decide +kernel
theorem pn_15 : plainName "com/example/scheherazade/scheherazade/reader/TagParts" = true := by first | (simp [plainName, overriddenIn]; done) | decide +kernel
theorem pd_15_0 : parseMethodDescriptor "([CII)V" = some ⟨[(.array .char), .int, .int], none⟩ := by decide +kernel
theorem ef_15 (m : MethodId) (x0 : Addr) (x1 : Int32) : entryFrame m #[(.ref x0), (.int x1)] 3 = mkF m 0 #[.val (.ref x0), .val (.int x1), .unset] [] := by first | (simp [entryFrame, mkF, argsToLocals, Value.category]; done) | rfl
def Q15 (Z : State) (a1 : Addr) (m4 : Addr) (m5 : Addr) (m6 : Addr) (a5 : Addr) (zc : Int32) (y : Int32 → Int32) (kq4 : ClassId) (kq5 : ClassId) (kq6 : ClassId) (p5 : Int32) (p6 : Int32) (w0 : Int32) (f0 : Value) (h0 : Heap) (n0 : Nat) (v : Option Value) (h : Heap) (L : List Loc) : Prop := ∃ xr : Addr, v = some (.ref xr) ∧ Fr n0 L ∧ Keep h0 h [m6] ∧ Exa Z h xr "java/lang/String" ∧ Lat Z h xr p6 (fun j => y (p5 + j)) ∧ h0.size ≤ xr
set_option maxRecDepth 65536 in
set_option maxHeartbeats 40000000 in
theorem rm15 (l : Launch) (Z : State) (a0 : Array Value) (hw : ∀ d ∈ tables_1, d.before a0 Z = true) (wds : List Jvm.Cond) (a1 : Addr) (m4 : Addr) (m5 : Addr) (m6 : Addr) (a5 : Addr) (zc : Int32) (y : Int32 → Int32) (kq4 : ClassId) (kq5 : ClassId) (kq6 : ClassId) (p5 : Int32) (p6 : Int32) (w0 : Int32) (f0 : Value) (h0 : Heap) (n0 : Nat) (Z0 : n0 ≤ h0.size) (P0 : Exa Z h0 a1 "com/example/scheherazade/scheherazade/reader/TagParts") (P1 : Fld Z h0 a1 "com/example/scheherazade/scheherazade/reader/TagParts" "valueStarts" "[I" (.ref m4)) (P2 : Fld Z h0 a1 "com/example/scheherazade/scheherazade/reader/TagParts" "valueLengths" "[I" (.ref m5)) (P3 : Fld Z h0 a1 "com/example/scheherazade/scheherazade/reader/TagParts" "attributeValues" "[Ljava/lang/String;" (.ref m6)) (P4 : Fld Z h0 a1 "com/example/scheherazade/scheherazade/reader/TagParts" "source" "[C" (.ref a5)) (P5 : Afn Z h0 a5 .char zc y) (P6 : Arv Z h0 m4 kq4 .int (4 : Int32) [(.int p5), (.int (0 : Int32)), (.int (0 : Int32)), (.int (0 : Int32))] (.int (0 : Int32))) (P7 : Arv Z h0 m5 kq5 .int (4 : Int32) [(.int p6), (.int (0 : Int32)), (.int (0 : Int32)), (.int (0 : Int32))] (.int (0 : Int32))) (P8 : Arv Z h0 m6 kq6 (.object "java/lang/String") (4 : Int32) [.null, .null, .null, .null] .null) (P9 : Old Z n0 h0) (g_m6 : n0 ≤ m6) (ne_a1_m6 : a1 ≠ m6) (ne_a5_m6 : a5 ≠ m6) (ne_m4_m6 : m4 ≠ m6) (ne_m5_m6 : m5 ≠ m6) (hc0 : ¬ (((zc ||| p5) ||| p6) < (0 : Int32))) (hc1 : ¬ ((zc - p5) < p6)) (sts : Sts Z w0 f0) (ov6 : Ovr Z kq6 "java/lang/String") (hcn : ¬ p6 < 0) (hcap1 : p6.toNatClampNeg ≤ 2) (hin : ∀ j : Int32, ¬ j < 0 → j < p6 → (¬ (p5 + j) < 0 ∧ (p5 + j) < zc) ∧ (¬ y (p5 + j) < 0 ∧ ¬ (255 : Int32) < y (p5 + j))) (hne0 : ¬ p6 = (0 : Int32)) :
    MetFree l (⟨"com/example/scheherazade/scheherazade/reader/TagParts", "getAttributeValue", "(I)Ljava/lang/String;"⟩ : MethodName) (head1 (Jvm.Cond.code (⟨"com/example/scheherazade/scheherazade/reader/TagParts", "getAttributeValue", "(I)Ljava/lang/String;"⟩ : MethodName) prog_105_method_14_code 3 (some (.object "java/lang/String")) :: wds) ({ frames := 4, cells := 2, slots := 6, locals := 70 } : Room)) (fun a U => a = #[(.ref a1), (.int (0 : Int32))] ∧ Z.Warmed39 U.vm ∧ U.heap = h0) (fun _ _ _ _ _ => True) (fun _ U o U' => ∃ v L, o = .returned v ∧ Q15 Z a1 m4 m5 m6 a5 zc y kq4 kq5 kq6 p5 p6 w0 f0 h0 n0 v U'.heap L ∧ FrameEnd U o U' L ({ frames := 4, cells := 2, slots := 6, locals := 70 } : Room).cells ({ frames := 4, cells := 2, slots := 6, locals := 70 } : Room).slots) := by
  refine MetFree.of_bodySF (plainFor_of_name pn_15) hisR ?_
  intro p e s m args below meth c s₁ Bd hml0 hP hK
  obtain ⟨rfl, hZ, hh⟩ := hP
  have hx := Bd.exec
  have hby := Bd.bytes
  have hml : c.maxLocals = 3 := hml0
  have hown : s.vm.findClass "com/example/scheherazade/scheherazade/reader/TagParts" = some m.cls := findClass_of_methodNamed Bd.named
  have hnm := (name_of_methodNamed Bd.named Bd.method).1
  have X0 : Stand p l e ({ frames := 4, cells := 2, slots := 6, locals := 70 } : Room) s m #[(.ref a1), (.int (0 : Int32))] below meth c s₁ [] 0 0 := Stand.of_body Bd
  have e0 : s₁.heap = h0 := by rw [← hh, Bd.state]; rfl
  have N0 := Fr.nil n0
  refine own_start (Q := Q15 Z a1 m4 m5 m6 a5 zc y kq4 kq5 kq6 p5 p6 w0 f0 h0 n0) (C := ({ frames := 4, cells := 2, slots := 6, locals := 70 } : Room).cells) (S := ({ frames := 4, cells := 2, slots := 6, locals := 70 } : Room).slots) ?_
  rw [ef_15 m a1 (0 : Int32)]
  have K0 : Keep h0 h0 [m6] := Keep.refl h0 [m6]
  obtain ⟨SC, hw0, SF, hf0⟩ := id sts
  refine Gen.on (b := s₁.setTop (mkF m 1 #[.val (.ref a1), .val (.int (0 : Int32)), .unset] [(.ref a1)])) ?_ (fun t k => XS.aloadN X0.here hx rfl (hb hby d15_0) rfl rfl k)
  obtain ⟨T1, X1, e1, st1⟩ := getF X0 hx hZ hown (host := "") (Or.inl (hw _ (List.mem_of_getElem? (i := 53) rfl))) Via.refl e0 P3 (g := (mkF m 1 #[.val (.ref a1), .val (.int (0 : Int32)), .unset] [(.ref a1)])) rfl rfl (hb hby d15_1)
  refine Gen.on (b := T1.setTop (mkF m 4 #[.val (.ref a1), .val (.int (0 : Int32)), .unset] [(.ref m6)])) ?_ (fun t k => st1 t k)
  refine Gen.on (b := T1.setTop (mkF m 5 #[.val (.ref a1), .val (.int (0 : Int32)), .unset] [(.int (0 : Int32)), (.ref m6)])) ?_ (fun t k => XS.iloadN X1.here hx rfl (hb hby d15_4) rfl k)
  obtain ⟨cl2, Ar2, qA2, SA2, NA2, HA2, GA2⟩ := id P8
  refine Gen.on (b := T1.setTop (mkF m 6 #[.val (.ref a1), .val (.int (0 : Int32)), .unset] [.null])) ?_ (fun t k => X1.aaload hx (j := (0 : Int32)) (v := .null) (by rw [e1]; exact Ar2.1) (State.isArrayOf_alike hZ.alike Ar2.2.1) rfl Ar2.2.2 (inb_of SA2 ⟨by decide, by decide⟩) (own_at0 HA2 SA2) (g := (mkF m 5 #[.val (.ref a1), .val (.int (0 : Int32)), .unset] [(.int (0 : Int32)), (.ref m6)])) rfl rfl (hb hby d15_5) t k)
  refine Gen.on (b := T1.setTop (mkF m 7 #[.val (.ref a1), .val (.int (0 : Int32)), .val .null] [])) ?_ (fun t k => XS.astoreN X1.here hx rfl (hb hby d15_6) rfl rfl (l' := #[.val (.ref a1), .val (.int (0 : Int32)), .val .null]) rfl k)
  refine Gen.on (b := T1.setTop (mkF m 8 #[.val (.ref a1), .val (.int (0 : Int32)), .val .null] [.null])) ?_ (fun t k => XS.aloadN X1.here hx rfl (hb hby d15_7) rfl rfl k)
  refine Gen.on (b := T1.setTop (mkF m 11 #[.val (.ref a1), .val (.int (0 : Int32)), .val .null] [])) ?_ (fun t k => XS.ifnonnullNo X1.here hx rfl (hb hby d15_8) rfl k)
  obtain ⟨b3, g3⟩ : ∃ z, z = h0.size := ⟨_, rfl⟩
  have ne_a1_b3 : a1 ≠ b3 := Nat.ne_of_lt (Nat.lt_of_lt_of_le P0.lt (Nat.le_of_eq g3.symm))
  have ne_a5_b3 : a5 ≠ b3 := Nat.ne_of_lt (Nat.lt_of_lt_of_le P5.lt (Nat.le_of_eq g3.symm))
  have ne_m4_b3 : m4 ≠ b3 := Nat.ne_of_lt (Nat.lt_of_lt_of_le P6.lt (Nat.le_of_eq g3.symm))
  have ne_m5_b3 : m5 ≠ b3 := Nat.ne_of_lt (Nat.lt_of_lt_of_le P7.lt (Nat.le_of_eq g3.symm))
  have ne_m6_b3 : m6 ≠ b3 := Nat.ne_of_lt (Nat.lt_of_lt_of_le P8.lt (Nat.le_of_eq g3.symm))
  have g_b3 : n0 ≤ b3 := Nat.le_trans Z0 (Nat.le_of_eq g3.symm)
  have sz_b3 : h0.size ≤ b3 := Nat.le_trans K0.1 (Nat.le_of_eq g3.symm)
  obtain ⟨T3, h3, X3, e3, E3, A3, D3, -, st3⟩ := newO X1 hx hZ hown (hw _ (List.mem_of_getElem? (i := 37) rfl)) (hw _ (List.mem_of_getElem? (i := 2) rfl)) (hw _ (List.mem_of_getElem? (i := 3) rfl)) e1 (g := (mkF m 11 #[.val (.ref a1), .val (.int (0 : Int32)), .val .null] [])) rfl (hb hby d15_11) (by decide) (by decide)
  rw [← g3] at A3 D3 st3
  have Z3 : n0 ≤ h3.size := Nat.le_trans Z0 E3.1
  have K3 : Keep h0 h3 [m6] := K0.ext E3
  have F3_coder : Fld Z h3 b3 "java/lang/String" "coder" "B" (.int (0 : Int32)) := D3 (Or.inr (hw _ (List.mem_of_getElem? (i := 27) rfl))) (ty := .byte) (by decide)
  have F3_value : Fld Z h3 b3 "java/lang/String" "value" "[B" .null := D3 (Or.inr (hw _ (List.mem_of_getElem? (i := 29) rfl))) (ty := (.array .byte)) (by decide)
  refine Gen.on (b := T3.setTop (mkF m 14 #[.val (.ref a1), .val (.int (0 : Int32)), .val .null] [(.ref b3)])) ?_ (fun t k => st3 t k)
  refine Gen.on (b := T3.setTop (mkF m 15 #[.val (.ref a1), .val (.int (0 : Int32)), .val .null] [(.ref b3), (.ref b3)])) ?_ (fun t k => XS.dup X3.here hx rfl (hb hby d15_14) rfl rfl k)
  refine Gen.on (b := T3.setTop (mkF m 16 #[.val (.ref a1), .val (.int (0 : Int32)), .val .null] [(.ref a1), (.ref b3), (.ref b3)])) ?_ (fun t k => XS.aloadN X3.here hx rfl (hb hby d15_15) rfl rfl k)
  have fa4 := (P4.ext E3)
  obtain ⟨T5, X5, e5, st5⟩ := getF X3 hx hZ hown (host := "") (Or.inl (hw _ (List.mem_of_getElem? (i := 66) rfl))) Via.refl e3 fa4 (g := (mkF m 16 #[.val (.ref a1), .val (.int (0 : Int32)), .val .null] [(.ref a1), (.ref b3), (.ref b3)])) rfl rfl (hb hby d15_16)
  refine Gen.on (b := T5.setTop (mkF m 19 #[.val (.ref a1), .val (.int (0 : Int32)), .val .null] [(.ref a5), (.ref b3), (.ref b3)])) ?_ (fun t k => st5 t k)
  refine Gen.on (b := T5.setTop (mkF m 20 #[.val (.ref a1), .val (.int (0 : Int32)), .val .null] [(.ref a1), (.ref a5), (.ref b3), (.ref b3)])) ?_ (fun t k => XS.aloadN X5.here hx rfl (hb hby d15_19) rfl rfl k)
  have fa6 := (P1.ext E3)
  obtain ⟨T7, X7, e7, st7⟩ := getF X5 hx hZ hown (host := "") (Or.inl (hw _ (List.mem_of_getElem? (i := 49) rfl))) Via.refl e5 fa6 (g := (mkF m 20 #[.val (.ref a1), .val (.int (0 : Int32)), .val .null] [(.ref a1), (.ref a5), (.ref b3), (.ref b3)])) rfl rfl (hb hby d15_20)
  refine Gen.on (b := T7.setTop (mkF m 23 #[.val (.ref a1), .val (.int (0 : Int32)), .val .null] [(.ref m4), (.ref a5), (.ref b3), (.ref b3)])) ?_ (fun t k => st7 t k)
  refine Gen.on (b := T7.setTop (mkF m 24 #[.val (.ref a1), .val (.int (0 : Int32)), .val .null] [(.int (0 : Int32)), (.ref m4), (.ref a5), (.ref b3), (.ref b3)])) ?_ (fun t k => XS.iloadN X7.here hx rfl (hb hby d15_23) rfl k)
  have fa8 := (P6.ext E3)
  obtain ⟨cl9, Ar9, qA9, SA9, NA9, HA9, GA9⟩ := id fa8
  refine Gen.on (b := T7.setTop (mkF m 25 #[.val (.ref a1), .val (.int (0 : Int32)), .val .null] [(.int p5), (.ref a5), (.ref b3), (.ref b3)])) ?_ (fun t k => X7.iaload hx (j := (0 : Int32)) (v := (.int p5)) (by rw [e7]; exact Ar9.1) (State.isArrayOf_alike hZ.alike Ar9.2.1) Ar9.2.2 (inb_of SA9 ⟨by decide, by decide⟩) (own_at0 HA9 SA9) (g := (mkF m 24 #[.val (.ref a1), .val (.int (0 : Int32)), .val .null] [(.int (0 : Int32)), (.ref m4), (.ref a5), (.ref b3), (.ref b3)])) rfl rfl (hb hby d15_24) t k)
  refine Gen.on (b := T7.setTop (mkF m 26 #[.val (.ref a1), .val (.int (0 : Int32)), .val .null] [(.ref a1), (.int p5), (.ref a5), (.ref b3), (.ref b3)])) ?_ (fun t k => XS.aloadN X7.here hx rfl (hb hby d15_25) rfl rfl k)
  have fa10 := (P2.ext E3)
  obtain ⟨T11, X11, e11, st11⟩ := getF X7 hx hZ hown (host := "") (Or.inl (hw _ (List.mem_of_getElem? (i := 51) rfl))) Via.refl e7 fa10 (g := (mkF m 26 #[.val (.ref a1), .val (.int (0 : Int32)), .val .null] [(.ref a1), (.int p5), (.ref a5), (.ref b3), (.ref b3)])) rfl rfl (hb hby d15_26)
  refine Gen.on (b := T11.setTop (mkF m 29 #[.val (.ref a1), .val (.int (0 : Int32)), .val .null] [(.ref m5), (.int p5), (.ref a5), (.ref b3), (.ref b3)])) ?_ (fun t k => st11 t k)
  refine Gen.on (b := T11.setTop (mkF m 30 #[.val (.ref a1), .val (.int (0 : Int32)), .val .null] [(.int (0 : Int32)), (.ref m5), (.int p5), (.ref a5), (.ref b3), (.ref b3)])) ?_ (fun t k => XS.iloadN X11.here hx rfl (hb hby d15_29) rfl k)
  have fa12 := (P7.ext E3)
  obtain ⟨cl13, Ar13, qA13, SA13, NA13, HA13, GA13⟩ := id fa12
  refine Gen.on (b := T11.setTop (mkF m 31 #[.val (.ref a1), .val (.int (0 : Int32)), .val .null] [(.int p6), (.int p5), (.ref a5), (.ref b3), (.ref b3)])) ?_ (fun t k => X11.iaload hx (j := (0 : Int32)) (v := (.int p6)) (by rw [e11]; exact Ar13.1) (State.isArrayOf_alike hZ.alike Ar13.2.1) Ar13.2.2 (inb_of SA13 ⟨by decide, by decide⟩) (own_at0 HA13 SA13) (g := (mkF m 30 #[.val (.ref a1), .val (.int (0 : Int32)), .val .null] [(.int (0 : Int32)), (.ref m5), (.int p5), (.ref a5), (.ref b3), (.ref b3)])) rfl rfl (hb hby d15_30) t k)
  have fa15 := (P5.ext E3)
  have fa16 := (P9.ext E3)
  obtain ⟨_, _, ⟨T14, L14, k14, n14⟩, -, X14, ⟨Lc14, hQ14, l14, y14, z14⟩, st14⟩ := X11.specialBack hx (y := (⟨"java/lang/String", "<init>", "([CII)V"⟩ : MethodName)) rfl hown (mvT hZ (hw _ (List.mem_of_getElem? (i := 106) rfl))) (mvT hZ (hw _ (List.mem_of_getElem? (i := 107) rfl))) (mvT hZ (hw _ (List.mem_of_getElem? (i := 108) rfl))) (by decide) (backOf (W := 1) (rm16 l Z a0 hw [] b3 a5 p5 p6 .null (.int (0 : Int32)) zc y w0 f0 h3 n0 Z3 A3 F3_value F3_coder fa15 fa16 g_b3 hc0 hc1 (sts) (hcn) (hcap1) (hin) (hne0)) hZ (hw _ (List.mem_of_getElem? (i := 108) rfl)) (hw _ (List.mem_of_getElem? (i := 3) rfl)) (by decide) (by decide)) (g := (mkF m 31 #[.val (.ref a1), .val (.int (0 : Int32)), .val .null] [(.int p6), (.int p5), (.ref a5), (.ref b3), (.ref b3)])) rfl (by rw [hml]; rfl) (Steps.refl _) (a := b3) (argsL := [(.ref a5), (.int p5), (.int p6)]) (rest := [(.ref b3)]) (lenOf pd_15_0 rfl) rfl (by show 2 * 0 + _ ≤ _; exact Nat.le_of_eq rfl) (hb hby d15_31) (fun _ _ => ⟨rfl, e11, (by decide : 1 + 1 ≤ _), (by decide : 4 + 2 ≤ _)⟩)
  dsimp only [Pt.U, Pt.locs, Pt.cells, Pt.slots] at X14 l14 y14 z14 st14 hQ14
  subst l14 y14 z14
  obtain ⟨rfl, N14q, Kc14, hf14_0, hf14_1⟩ := hQ14
  have N14 := Fr.app N0 N14q
  have Z14 : n0 ≤ T14.heap.size := Nat.le_trans Z3 Kc14.1
  have K14 : Keep h0 T14.heap [m6] := K3.trans Kc14 (allS (Or.inr sz_b3) all0)
  obtain ⟨xb14, xv14, xk14, xy14⟩ := hf14_1
  have fa17 := ((P8.ext E3).keep Kc14 (ninS ne_m6_b3 nin0))
  have ne_xb14_m6 := own_neYA xy14 fa17 (by decide)
  refine Gen.on (b := T14.setTop (mkF m 34 #[.val (.ref a1), .val (.int (0 : Int32)), .val .null] [(.ref b3)])) ?_ (fun t k => st14.trans k)
  refine Gen.on (b := T14.setTop (mkF m 35 #[.val (.ref a1), .val (.int (0 : Int32)), .val (.ref b3)] [])) ?_ (fun t k => XS.astoreN X14.here hx rfl (hb hby d15_34) rfl rfl (l' := #[.val (.ref a1), .val (.int (0 : Int32)), .val (.ref b3)]) rfl k)
  refine Gen.on (b := T14.setTop (mkF m 36 #[.val (.ref a1), .val (.int (0 : Int32)), .val (.ref b3)] [(.ref a1)])) ?_ (fun t k => XS.aloadN X14.here hx rfl (hb hby d15_35) rfl rfl k)
  have fa18 := ((P3.ext E3).keep Kc14 (ninS ne_a1_b3 nin0))
  obtain ⟨T19, X19, e19, st19⟩ := getF X14 hx hZ hown (host := "") (Or.inl (hw _ (List.mem_of_getElem? (i := 53) rfl))) Via.refl rfl fa18 (g := (mkF m 36 #[.val (.ref a1), .val (.int (0 : Int32)), .val (.ref b3)] [(.ref a1)])) rfl rfl (hb hby d15_36)
  refine Gen.on (b := T19.setTop (mkF m 39 #[.val (.ref a1), .val (.int (0 : Int32)), .val (.ref b3)] [(.ref m6)])) ?_ (fun t k => st19 t k)
  refine Gen.on (b := T19.setTop (mkF m 40 #[.val (.ref a1), .val (.int (0 : Int32)), .val (.ref b3)] [(.int (0 : Int32)), (.ref m6)])) ?_ (fun t k => XS.iloadN X19.here hx rfl (hb hby d15_39) rfl k)
  refine Gen.on (b := T19.setTop (mkF m 41 #[.val (.ref a1), .val (.int (0 : Int32)), .val (.ref b3)] [(.ref b3), (.int (0 : Int32)), (.ref m6)])) ?_ (fun t k => XS.aloadN X19.here hx rfl (hb hby d15_40) rfl rfl k)
  obtain ⟨cl20, Ar20, qA20, SA20, NA20, HA20, GA20⟩ := id fa17
  have hin20 : ¬ ((0 : Int32) < 0 ∨ cl20.slots.size ≤ ((0 : Int32)).toNatClampNeg) := inb_of SA20 ⟨by decide, by decide⟩
  obtain ⟨T20, h20, X20, e20, W20, st20⟩ := stR X19 hx hZ e19 Ar20 (j := (0 : Int32)) hin20 rfl (Sto.ofV Ar20 qA20 ov6 (Ins.self hf14_0)) (g := (mkF m 41 #[.val (.ref a1), .val (.int (0 : Int32)), .val (.ref b3)] [(.ref b3), (.int (0 : Int32)), (.ref m6)])) rfl rfl (hb hby d15_41)
  have V20 := Arv.set Ar20 qA20 SA20 NA20 HA20 GA20 rfl W20 0 rfl (Nat.le_of_ble_eq_true rfl)
  have Z20 : n0 ≤ h20.size := Nat.le_trans Z14 (Keep.of_wr W20).1
  have K20 : Keep h0 h20 [m6] := K14.wr W20 (Or.inl (List.mem_of_getElem? (i := 0) rfl))
  have N20 := Fr.snoc X20 N14 g_m6
  have V20t : Arv Z h20 m6 kq6 (.object "java/lang/String") (4 : Int32) [(.ref b3), .null, .null, .null] .null := V20
  refine Gen.on (b := T20.setTop (mkF m 42 #[.val (.ref a1), .val (.int (0 : Int32)), .val (.ref b3)] [])) ?_ (fun t k => st20 t k)
  refine Gen.on (b := T20.setTop (mkF m 43 #[.val (.ref a1), .val (.int (0 : Int32)), .val (.ref b3)] [(.ref b3)])) ?_ (fun t k => XS.aloadN X20.here hx rfl (hb hby d15_42) rfl rfl k)
  refine own_retA X20 hx Bd.returns rfl rfl (hb hby d15_43) (by decide) (by decide) ?_
  have fa21 := (hf14_0.wr W20)
  have fa22 := (xv14.other W20 (Or.inl (Ne.symm ne_m6_b3)))
  have fa23 := (xk14.other W20 (Or.inl (Ne.symm ne_m6_b3)))
  have fa24 := (xy14.other W20 ne_xb14_m6)
  show Q15 Z a1 m4 m5 m6 a5 zc y kq4 kq5 kq6 p5 p6 w0 f0 h0 n0 _ T20.heap _
  rw [e20]
  exact ⟨_, rfl, N20, K20, fa21, ⟨xb14, fa22, fa23, fa24⟩, sz_b3⟩

theorem d15z_0 : decode prog_105_method_14_code 0 = .ok (.aload_n 0, 1) := by decide +kernel
theorem d15z_1 : decode prog_105_method_14_code 1 = .ok (.getfield 32, 3) := by decide +kernel
theorem d15z_4 : decode prog_105_method_14_code 4 = .ok (.iload_n 1, 1) := by decide +kernel
theorem d15z_5 : decode prog_105_method_14_code 5 = .ok (.aaload, 1) := by decide +kernel
theorem d15z_6 : decode prog_105_method_14_code 6 = .ok (.astore_n 2, 1) := by decide +kernel
theorem d15z_7 : decode prog_105_method_14_code 7 = .ok (.aload_n 2, 1) := by decide +kernel
theorem d15z_8 : decode prog_105_method_14_code 8 = .ok (.ifnonnull 34, 3) := by decide +kernel
theorem d15z_11 : decode prog_105_method_14_code 11 = .ok (.new 9, 3) := by decide +kernel
theorem d15z_14 : decode prog_105_method_14_code 14 = .ok (.dup, 1) := by decide +kernel
theorem d15z_15 : decode prog_105_method_14_code 15 = .ok (.aload_n 0, 1) := by decide +kernel
theorem d15z_16 : decode prog_105_method_14_code 16 = .ok (.getfield 46, 3) := by decide +kernel
theorem d15z_19 : decode prog_105_method_14_code 19 = .ok (.aload_n 0, 1) := by decide +kernel
theorem d15z_20 : decode prog_105_method_14_code 20 = .ok (.getfield 25, 3) := by decide +kernel
theorem d15z_23 : decode prog_105_method_14_code 23 = .ok (.iload_n 1, 1) := by decide +kernel
theorem d15z_24 : decode prog_105_method_14_code 24 = .ok (.iaload, 1) := by decide +kernel
theorem d15z_25 : decode prog_105_method_14_code 25 = .ok (.aload_n 0, 1) := by decide +kernel
theorem d15z_26 : decode prog_105_method_14_code 26 = .ok (.getfield 29, 3) := by decide +kernel
theorem d15z_29 : decode prog_105_method_14_code 29 = .ok (.iload_n 1, 1) := by decide +kernel
theorem d15z_30 : decode prog_105_method_14_code 30 = .ok (.iaload, 1) := by decide +kernel
theorem d15z_31 : decode prog_105_method_14_code 31 = .ok (.invokespecial 76, 3) := by decide +kernel
theorem d15z_34 : decode prog_105_method_14_code 34 = .ok (.astore_n 2, 1) := by decide +kernel
theorem d15z_35 : decode prog_105_method_14_code 35 = .ok (.aload_n 0, 1) := by decide +kernel
theorem d15z_36 : decode prog_105_method_14_code 36 = .ok (.getfield 32, 3) := by decide +kernel
theorem d15z_39 : decode prog_105_method_14_code 39 = .ok (.iload_n 1, 1) := by decide +kernel
theorem d15z_40 : decode prog_105_method_14_code 40 = .ok (.aload_n 2, 1) := by decide +kernel
theorem d15z_41 : decode prog_105_method_14_code 41 = .ok (.aastore, 1) := by decide +kernel
theorem d15z_42 : decode prog_105_method_14_code 42 = .ok (.aload_n 2, 1) := by decide +kernel
theorem d15z_43 : decode prog_105_method_14_code 43 = .ok (.areturn, 1) := by decide +kernel
theorem pn_15z : plainName "com/example/scheherazade/scheherazade/reader/TagParts" = true := by first | (simp [plainName, overriddenIn]; done) | decide +kernel
theorem pd_15z_0 : parseMethodDescriptor "([CII)V" = some ⟨[(.array .char), .int, .int], none⟩ := by decide +kernel
theorem ef_15z (m : MethodId) (x0 : Addr) (x1 : Int32) : entryFrame m #[(.ref x0), (.int x1)] 3 = mkF m 0 #[.val (.ref x0), .val (.int x1), .unset] [] := by first | (simp [entryFrame, mkF, argsToLocals, Value.category]; done) | rfl
def Q15z (Z : State) (a1 : Addr) (m4 : Addr) (m5 : Addr) (m6 : Addr) (a5 : Addr) (zc : Int32) (y : Int32 → Int32) (kq4 : ClassId) (kq5 : ClassId) (kq6 : ClassId) (p5 : Int32) (w0 : Int32) (f0 : Value) (h0 : Heap) (n0 : Nat) (v : Option Value) (h : Heap) (L : List Loc) : Prop := ∃ xr : Addr, v = some (.ref xr) ∧ Fr n0 L ∧ Keep h0 h [m6] ∧ Exa Z h xr "java/lang/String" ∧ Lat Z h xr (0 : Int32) (fun j => y (p5 + j)) ∧ h0.size ≤ xr
set_option maxRecDepth 65536 in
set_option maxHeartbeats 40000000 in
theorem rm15z (l : Launch) (Z : State) (a0 : Array Value) (hw : ∀ d ∈ tables_1, d.before a0 Z = true) (wds : List Jvm.Cond) (a1 : Addr) (m4 : Addr) (m5 : Addr) (m6 : Addr) (a5 : Addr) (zc : Int32) (y : Int32 → Int32) (kq4 : ClassId) (kq5 : ClassId) (kq6 : ClassId) (p5 : Int32) (w0 : Int32) (f0 : Value) (h0 : Heap) (n0 : Nat) (Z0 : n0 ≤ h0.size) (P0 : Exa Z h0 a1 "com/example/scheherazade/scheherazade/reader/TagParts") (P1 : Fld Z h0 a1 "com/example/scheherazade/scheherazade/reader/TagParts" "valueStarts" "[I" (.ref m4)) (P2 : Fld Z h0 a1 "com/example/scheherazade/scheherazade/reader/TagParts" "valueLengths" "[I" (.ref m5)) (P3 : Fld Z h0 a1 "com/example/scheherazade/scheherazade/reader/TagParts" "attributeValues" "[Ljava/lang/String;" (.ref m6)) (P4 : Fld Z h0 a1 "com/example/scheherazade/scheherazade/reader/TagParts" "source" "[C" (.ref a5)) (P5 : Afn Z h0 a5 .char zc y) (P6 : Arv Z h0 m4 kq4 .int (4 : Int32) [(.int p5), (.int (0 : Int32)), (.int (0 : Int32)), (.int (0 : Int32))] (.int (0 : Int32))) (P7 : Arv Z h0 m5 kq5 .int (4 : Int32) [(.int (0 : Int32)), (.int (0 : Int32)), (.int (0 : Int32)), (.int (0 : Int32))] (.int (0 : Int32))) (P8 : Arv Z h0 m6 kq6 (.object "java/lang/String") (4 : Int32) [.null, .null, .null, .null] .null) (P9 : Old Z n0 h0) (g_m6 : n0 ≤ m6) (ne_a1_m6 : a1 ≠ m6) (ne_a5_m6 : a5 ≠ m6) (ne_m4_m6 : m4 ≠ m6) (ne_m5_m6 : m5 ≠ m6) (hc0 : ¬ (((zc ||| p5) ||| (0 : Int32)) < (0 : Int32))) (hc1 : ¬ ((zc - p5) < (0 : Int32))) (sts : Sts Z w0 f0) (ov6 : Ovr Z kq6 "java/lang/String") :
    MetFree l (⟨"com/example/scheherazade/scheherazade/reader/TagParts", "getAttributeValue", "(I)Ljava/lang/String;"⟩ : MethodName) (head1 (Jvm.Cond.code (⟨"com/example/scheherazade/scheherazade/reader/TagParts", "getAttributeValue", "(I)Ljava/lang/String;"⟩ : MethodName) prog_105_method_14_code 3 (some (.object "java/lang/String")) :: wds) ({ frames := 4, cells := 5, slots := 12, locals := 63 } : Room)) (fun a U => a = #[(.ref a1), (.int (0 : Int32))] ∧ Z.Warmed39 U.vm ∧ U.heap = h0 ∧ CHv Z consts_1 U.vm h0) (fun _ _ _ _ _ => True) (fun _ U o U' => ∃ v L, o = .returned v ∧ Q15z Z a1 m4 m5 m6 a5 zc y kq4 kq5 kq6 p5 w0 f0 h0 n0 v U'.heap L ∧ CHr Z consts_1 U.vm U.heap U'.vm U'.heap ∧ ReturnedEndW U o U' L ({ frames := 4, cells := 5, slots := 12, locals := 63 } : Room).cells ({ frames := 4, cells := 5, slots := 12, locals := 63 } : Room).slots) := by
  refine MetFree.of_bodySF (plainFor_of_name pn_15z) hisR ?_
  intro p e s m args below meth c s₁ Bd hml0 hP hK
  obtain ⟨rfl, hZ, hh, CHs⟩ := hP
  have hx := Bd.exec
  have hby := Bd.bytes
  have hml : c.maxLocals = 3 := hml0
  have hown : s.vm.findClass "com/example/scheherazade/scheherazade/reader/TagParts" = some m.cls := findClass_of_methodNamed Bd.named
  have hnm := (name_of_methodNamed Bd.named Bd.method).1
  have hZ : Z.Warmed39 (s.setVm s.vm).vm := hZ
  have hown : (s.setVm s.vm).vm.findClass "com/example/scheherazade/scheherazade/reader/TagParts" = some m.cls := hown
  have X0 : Stand p l e ({ frames := 4, cells := 5, slots := 12, locals := 63 } : Room) (s.setVm s.vm) m #[(.ref a1), (.int (0 : Int32))] below meth c s₁ [] 0 0 := Stand.of_body Bd
  have e0 : s₁.heap = h0 := by rw [← hh, Bd.state]; rfl
  have N0 := Fr.nil n0
  have hEL : EW Z a0 consts_1 := own_hEL hw
  have wS := own_wS hw
  have hS0 : s.Since s.vm h0.size := (State.WarmedH.refl s).since _
  have hk0 : h0.size ≤ h0.size := Nat.le_refl _
  have CH0 : CHr Z consts_1 s.vm h0 s.vm h0 := CHr.refl CHs
  refine ownS_start (Z := Z) (EL := consts_1) (Q := Q15z Z a1 m4 m5 m6 a5 zc y kq4 kq5 kq6 p5 w0 f0 h0 n0) (C := ({ frames := 4, cells := 5, slots := 12, locals := 63 } : Room).cells) (S := ({ frames := 4, cells := 5, slots := 12, locals := 63 } : Room).slots) ?_
  rw [ef_15z m a1 (0 : Int32)]
  have K0 : Keep h0 h0 [m6] := Keep.refl h0 [m6]
  obtain ⟨SC, hw0, SF, hf0⟩ := id sts
  refine Gen.on (b := s₁.setTop (mkF m 1 #[.val (.ref a1), .val (.int (0 : Int32)), .unset] [(.ref a1)])) ?_ (fun t k => XS.aloadN X0.here hx rfl (hb hby d15z_0) rfl rfl k)
  obtain ⟨T1, X1, e1, st1⟩ := getF X0 hx hZ hown (host := "") (Or.inl (hw _ (List.mem_of_getElem? (i := 53) rfl))) Via.refl e0 P3 (g := (mkF m 1 #[.val (.ref a1), .val (.int (0 : Int32)), .unset] [(.ref a1)])) rfl rfl (hb hby d15z_1)
  refine Gen.on (b := T1.setTop (mkF m 4 #[.val (.ref a1), .val (.int (0 : Int32)), .unset] [(.ref m6)])) ?_ (fun t k => st1 t k)
  refine Gen.on (b := T1.setTop (mkF m 5 #[.val (.ref a1), .val (.int (0 : Int32)), .unset] [(.int (0 : Int32)), (.ref m6)])) ?_ (fun t k => XS.iloadN X1.here hx rfl (hb hby d15z_4) rfl k)
  obtain ⟨cl2, Ar2, qA2, SA2, NA2, HA2, GA2⟩ := id P8
  refine Gen.on (b := T1.setTop (mkF m 6 #[.val (.ref a1), .val (.int (0 : Int32)), .unset] [.null])) ?_ (fun t k => X1.aaload hx (j := (0 : Int32)) (v := .null) (by rw [e1]; exact Ar2.1) (State.isArrayOf_alike hZ.alike Ar2.2.1) rfl Ar2.2.2 (inb_of SA2 ⟨by decide, by decide⟩) (own_at0 HA2 SA2) (g := (mkF m 5 #[.val (.ref a1), .val (.int (0 : Int32)), .unset] [(.int (0 : Int32)), (.ref m6)])) rfl rfl (hb hby d15z_5) t k)
  refine Gen.on (b := T1.setTop (mkF m 7 #[.val (.ref a1), .val (.int (0 : Int32)), .val .null] [])) ?_ (fun t k => XS.astoreN X1.here hx rfl (hb hby d15z_6) rfl rfl (l' := #[.val (.ref a1), .val (.int (0 : Int32)), .val .null]) rfl k)
  refine Gen.on (b := T1.setTop (mkF m 8 #[.val (.ref a1), .val (.int (0 : Int32)), .val .null] [.null])) ?_ (fun t k => XS.aloadN X1.here hx rfl (hb hby d15z_7) rfl rfl k)
  refine Gen.on (b := T1.setTop (mkF m 11 #[.val (.ref a1), .val (.int (0 : Int32)), .val .null] [])) ?_ (fun t k => XS.ifnonnullNo X1.here hx rfl (hb hby d15z_8) rfl k)
  obtain ⟨b3, g3⟩ : ∃ z, z = h0.size := ⟨_, rfl⟩
  have ne_a1_b3 : a1 ≠ b3 := Nat.ne_of_lt (Nat.lt_of_lt_of_le P0.lt (Nat.le_of_eq g3.symm))
  have ne_a5_b3 : a5 ≠ b3 := Nat.ne_of_lt (Nat.lt_of_lt_of_le P5.lt (Nat.le_of_eq g3.symm))
  have ne_m4_b3 : m4 ≠ b3 := Nat.ne_of_lt (Nat.lt_of_lt_of_le P6.lt (Nat.le_of_eq g3.symm))
  have ne_m5_b3 : m5 ≠ b3 := Nat.ne_of_lt (Nat.lt_of_lt_of_le P7.lt (Nat.le_of_eq g3.symm))
  have ne_m6_b3 : m6 ≠ b3 := Nat.ne_of_lt (Nat.lt_of_lt_of_le P8.lt (Nat.le_of_eq g3.symm))
  have g_b3 : n0 ≤ b3 := Nat.le_trans Z0 (Nat.le_of_eq g3.symm)
  have sz_b3 : h0.size ≤ b3 := Nat.le_trans K0.1 (Nat.le_of_eq g3.symm)
  obtain ⟨T3, h3, X3, e3, E3, A3, D3, -, st3⟩ := newO X1 hx hZ hown (hw _ (List.mem_of_getElem? (i := 37) rfl)) (hw _ (List.mem_of_getElem? (i := 2) rfl)) (hw _ (List.mem_of_getElem? (i := 3) rfl)) e1 (g := (mkF m 11 #[.val (.ref a1), .val (.int (0 : Int32)), .val .null] [])) rfl (hb hby d15z_11) (by decide) (by decide)
  rw [← g3] at A3 D3 st3
  have CH4 := CHr.trans CH0 (CHr.ext E3 CH0.1)
  have hk4 := Nat.le_trans hk0 E3.1
  have Z3 : n0 ≤ h3.size := Nat.le_trans Z0 E3.1
  have K3 : Keep h0 h3 [m6] := K0.ext E3
  have F3_coder : Fld Z h3 b3 "java/lang/String" "coder" "B" (.int (0 : Int32)) := D3 (Or.inr (hw _ (List.mem_of_getElem? (i := 27) rfl))) (ty := .byte) (by decide)
  have F3_value : Fld Z h3 b3 "java/lang/String" "value" "[B" .null := D3 (Or.inr (hw _ (List.mem_of_getElem? (i := 29) rfl))) (ty := (.array .byte)) (by decide)
  refine Gen.on (b := T3.setTop (mkF m 14 #[.val (.ref a1), .val (.int (0 : Int32)), .val .null] [(.ref b3)])) ?_ (fun t k => st3 t k)
  have sf_b3 : Safe Z consts_1 s.vm h3 b3 := Safe.ext E3 CH0.1 (Safe.new (Nat.le_of_eq g3.symm))
  refine Gen.on (b := T3.setTop (mkF m 15 #[.val (.ref a1), .val (.int (0 : Int32)), .val .null] [(.ref b3), (.ref b3)])) ?_ (fun t k => XS.dup X3.here hx rfl (hb hby d15z_14) rfl rfl k)
  refine Gen.on (b := T3.setTop (mkF m 16 #[.val (.ref a1), .val (.int (0 : Int32)), .val .null] [(.ref a1), (.ref b3), (.ref b3)])) ?_ (fun t k => XS.aloadN X3.here hx rfl (hb hby d15z_15) rfl rfl k)
  have fa5 := (P4.ext E3)
  obtain ⟨T6, X6, e6, st6⟩ := getF X3 hx hZ hown (host := "") (Or.inl (hw _ (List.mem_of_getElem? (i := 66) rfl))) Via.refl e3 fa5 (g := (mkF m 16 #[.val (.ref a1), .val (.int (0 : Int32)), .val .null] [(.ref a1), (.ref b3), (.ref b3)])) rfl rfl (hb hby d15z_16)
  refine Gen.on (b := T6.setTop (mkF m 19 #[.val (.ref a1), .val (.int (0 : Int32)), .val .null] [(.ref a5), (.ref b3), (.ref b3)])) ?_ (fun t k => st6 t k)
  refine Gen.on (b := T6.setTop (mkF m 20 #[.val (.ref a1), .val (.int (0 : Int32)), .val .null] [(.ref a1), (.ref a5), (.ref b3), (.ref b3)])) ?_ (fun t k => XS.aloadN X6.here hx rfl (hb hby d15z_19) rfl rfl k)
  have fa7 := (P1.ext E3)
  obtain ⟨T8, X8, e8, st8⟩ := getF X6 hx hZ hown (host := "") (Or.inl (hw _ (List.mem_of_getElem? (i := 49) rfl))) Via.refl e6 fa7 (g := (mkF m 20 #[.val (.ref a1), .val (.int (0 : Int32)), .val .null] [(.ref a1), (.ref a5), (.ref b3), (.ref b3)])) rfl rfl (hb hby d15z_20)
  refine Gen.on (b := T8.setTop (mkF m 23 #[.val (.ref a1), .val (.int (0 : Int32)), .val .null] [(.ref m4), (.ref a5), (.ref b3), (.ref b3)])) ?_ (fun t k => st8 t k)
  refine Gen.on (b := T8.setTop (mkF m 24 #[.val (.ref a1), .val (.int (0 : Int32)), .val .null] [(.int (0 : Int32)), (.ref m4), (.ref a5), (.ref b3), (.ref b3)])) ?_ (fun t k => XS.iloadN X8.here hx rfl (hb hby d15z_23) rfl k)
  have fa9 := (P6.ext E3)
  obtain ⟨cl10, Ar10, qA10, SA10, NA10, HA10, GA10⟩ := id fa9
  refine Gen.on (b := T8.setTop (mkF m 25 #[.val (.ref a1), .val (.int (0 : Int32)), .val .null] [(.int p5), (.ref a5), (.ref b3), (.ref b3)])) ?_ (fun t k => X8.iaload hx (j := (0 : Int32)) (v := (.int p5)) (by rw [e8]; exact Ar10.1) (State.isArrayOf_alike hZ.alike Ar10.2.1) Ar10.2.2 (inb_of SA10 ⟨by decide, by decide⟩) (own_at0 HA10 SA10) (g := (mkF m 24 #[.val (.ref a1), .val (.int (0 : Int32)), .val .null] [(.int (0 : Int32)), (.ref m4), (.ref a5), (.ref b3), (.ref b3)])) rfl rfl (hb hby d15z_24) t k)
  refine Gen.on (b := T8.setTop (mkF m 26 #[.val (.ref a1), .val (.int (0 : Int32)), .val .null] [(.ref a1), (.int p5), (.ref a5), (.ref b3), (.ref b3)])) ?_ (fun t k => XS.aloadN X8.here hx rfl (hb hby d15z_25) rfl rfl k)
  have fa11 := (P2.ext E3)
  obtain ⟨T12, X12, e12, st12⟩ := getF X8 hx hZ hown (host := "") (Or.inl (hw _ (List.mem_of_getElem? (i := 51) rfl))) Via.refl e8 fa11 (g := (mkF m 26 #[.val (.ref a1), .val (.int (0 : Int32)), .val .null] [(.ref a1), (.int p5), (.ref a5), (.ref b3), (.ref b3)])) rfl rfl (hb hby d15z_26)
  refine Gen.on (b := T12.setTop (mkF m 29 #[.val (.ref a1), .val (.int (0 : Int32)), .val .null] [(.ref m5), (.int p5), (.ref a5), (.ref b3), (.ref b3)])) ?_ (fun t k => st12 t k)
  refine Gen.on (b := T12.setTop (mkF m 30 #[.val (.ref a1), .val (.int (0 : Int32)), .val .null] [(.int (0 : Int32)), (.ref m5), (.int p5), (.ref a5), (.ref b3), (.ref b3)])) ?_ (fun t k => XS.iloadN X12.here hx rfl (hb hby d15z_29) rfl k)
  have fa13 := (P7.ext E3)
  obtain ⟨cl14, Ar14, qA14, SA14, NA14, HA14, GA14⟩ := id fa13
  refine Gen.on (b := T12.setTop (mkF m 31 #[.val (.ref a1), .val (.int (0 : Int32)), .val .null] [(.int (0 : Int32)), (.int p5), (.ref a5), (.ref b3), (.ref b3)])) ?_ (fun t k => X12.iaload hx (j := (0 : Int32)) (v := (.int (0 : Int32))) (by rw [e12]; exact Ar14.1) (State.isArrayOf_alike hZ.alike Ar14.2.1) Ar14.2.2 (inb_of SA14 ⟨by decide, by decide⟩) (own_at0 HA14 SA14) (g := (mkF m 30 #[.val (.ref a1), .val (.int (0 : Int32)), .val .null] [(.int (0 : Int32)), (.ref m5), (.int p5), (.ref a5), (.ref b3), (.ref b3)])) rfl rfl (hb hby d15z_30) t k)
  have fa16 := (P8.ext E3)
  have fa17 := (P5.ext E3)
  have fa18 := (P9.ext E3)
  obtain ⟨_, _, ⟨T15, L15, k15, n15⟩, -, X15, hSc15, gr15, ⟨Lc15, hQ15, l15, y15, z15, CHc15⟩, st15⟩ := X12.specialBackS hx (y := (⟨"java/lang/String", "<init>", "([CII)V"⟩ : MethodName)) rfl hown (mvT hZ (hw _ (List.mem_of_getElem? (i := 106) rfl))) (mvT hZ (hw _ (List.mem_of_getElem? (i := 107) rfl))) (mvT hZ (hw _ (List.mem_of_getElem? (i := 108) rfl))) (by decide) (backOfSH (W := 1) (rm16z l Z a0 hw [] b3 a5 p5 (.int (0 : Int32)) zc y w0 f0 h3 n0 Z3 A3 F3_value F3_coder fa17 fa18 g_b3 hc0 hc1 (sts)) hZ (hw _ (List.mem_of_getElem? (i := 108) rfl)) (hw _ (List.mem_of_getElem? (i := 3) rfl)) (by decide) (by decide) hEL CH4.1) (g := (mkF m 31 #[.val (.ref a1), .val (.int (0 : Int32)), .val .null] [(.int (0 : Int32)), (.int p5), (.ref a5), (.ref b3), (.ref b3)])) rfl (by rw [hml]; rfl) (Steps.refl _) (a := b3) (argsL := [(.ref a5), (.int p5), (.int (0 : Int32))]) (rest := [(.ref b3)]) (lenOf pd_15z_0 rfl) rfl (by show 2 * 0 + _ ≤ _; exact Nat.le_of_eq rfl) (hb hby d15z_31) (fun _ _ => ⟨rfl, e12, (by decide : 1 + 4 ≤ _), (by decide : 4 + 8 ≤ _)⟩)
  dsimp only [Pt.U, Pt.locs, Pt.cells, Pt.slots] at X15 l15 y15 z15 st15 hQ15 hSc15 gr15 CHc15
  subst l15 y15 z15
  obtain ⟨X15, hS15, hZ, hown⟩ := rebS hS0 hk4 X15 hSc15 (Nat.le_trans (Nat.le_of_eq (congrArg Array.size e12).symm) gr15) hZ hown
  have sf15_b3 := CHr.safe CHc15 A3.lt sf_b3
  have CH15 := CHr.trans CH4 CHc15
  obtain ⟨rfl, N15q, Kc15, hf15_0, hf15_1⟩ := hQ15
  have N15 := Fr.app N0 N15q
  have Z15 : n0 ≤ T15.heap.size := Nat.le_trans Z3 Kc15.1
  have K15 : Keep h0 T15.heap [m6] := K3.trans Kc15 (allS (Or.inr sz_b3) all0)
  obtain ⟨xb15, xv15, xk15, xy15⟩ := hf15_1
  have fa19 := (fa16.keep Kc15 (ninS ne_m6_b3 nin0))
  have ne_xb15_m6 := own_neYA xy15 fa19 (by decide)
  refine Gen.on (b := T15.setTop (mkF m 34 #[.val (.ref a1), .val (.int (0 : Int32)), .val .null] [(.ref b3)])) ?_ (fun t k => st15.trans k)
  refine Gen.on (b := T15.setTop (mkF m 35 #[.val (.ref a1), .val (.int (0 : Int32)), .val (.ref b3)] [])) ?_ (fun t k => XS.astoreN X15.here hx rfl (hb hby d15z_34) rfl rfl (l' := #[.val (.ref a1), .val (.int (0 : Int32)), .val (.ref b3)]) rfl k)
  refine Gen.on (b := T15.setTop (mkF m 36 #[.val (.ref a1), .val (.int (0 : Int32)), .val (.ref b3)] [(.ref a1)])) ?_ (fun t k => XS.aloadN X15.here hx rfl (hb hby d15z_35) rfl rfl k)
  have fa20 := ((P3.ext E3).keep Kc15 (ninS ne_a1_b3 nin0))
  obtain ⟨T21, X21, e21, st21⟩ := getF X15 hx hZ hown (host := "") (Or.inl (hw _ (List.mem_of_getElem? (i := 53) rfl))) Via.refl rfl fa20 (g := (mkF m 36 #[.val (.ref a1), .val (.int (0 : Int32)), .val (.ref b3)] [(.ref a1)])) rfl rfl (hb hby d15z_36)
  refine Gen.on (b := T21.setTop (mkF m 39 #[.val (.ref a1), .val (.int (0 : Int32)), .val (.ref b3)] [(.ref m6)])) ?_ (fun t k => st21 t k)
  refine Gen.on (b := T21.setTop (mkF m 40 #[.val (.ref a1), .val (.int (0 : Int32)), .val (.ref b3)] [(.int (0 : Int32)), (.ref m6)])) ?_ (fun t k => XS.iloadN X21.here hx rfl (hb hby d15z_39) rfl k)
  refine Gen.on (b := T21.setTop (mkF m 41 #[.val (.ref a1), .val (.int (0 : Int32)), .val (.ref b3)] [(.ref b3), (.int (0 : Int32)), (.ref m6)])) ?_ (fun t k => XS.aloadN X21.here hx rfl (hb hby d15z_40) rfl rfl k)
  obtain ⟨cl22, Ar22, qA22, SA22, NA22, HA22, GA22⟩ := id fa19
  have hin22 : ¬ ((0 : Int32) < 0 ∨ cl22.slots.size ≤ ((0 : Int32)).toNatClampNeg) := inb_of SA22 ⟨by decide, by decide⟩
  obtain ⟨T22, h22, X22, e22, W22, st22⟩ := stR X21 hx hZ e21 Ar22 (j := (0 : Int32)) hin22 rfl (Sto.ofV Ar22 qA22 ov6 (Ins.self hf15_0)) (g := (mkF m 41 #[.val (.ref a1), .val (.int (0 : Int32)), .val (.ref b3)] [(.ref b3), (.int (0 : Int32)), (.ref m6)])) rfl rfl (hb hby d15z_41)
  have V22 := Arv.set Ar22 qA22 SA22 NA22 HA22 GA22 rfl W22 0 rfl (Nat.le_of_ble_eq_true rfl)
  have sf23_b3 := Safe.wr W22 (Safe.arv hZ.alike fa19 (by decide)) CH15.1 sf15_b3
  have CH23 := CHr.trans CH15 (CHr.wr W22 (Safe.arv hZ.alike fa19 (by decide)) CH15.1)
  have hk23 := Nat.le_trans (Nat.le_refl T15.heap.size) (Keep.of_wr W22).1
  have Z22 : n0 ≤ h22.size := Nat.le_trans Z15 (Keep.of_wr W22).1
  have K22 : Keep h0 h22 [m6] := K15.wr W22 (Or.inl (List.mem_of_getElem? (i := 0) rfl))
  have N22 := Fr.snoc X22 N15 g_m6
  have V22t : Arv Z h22 m6 kq6 (.object "java/lang/String") (4 : Int32) [(.ref b3), .null, .null, .null] .null := V22
  refine Gen.on (b := T22.setTop (mkF m 42 #[.val (.ref a1), .val (.int (0 : Int32)), .val (.ref b3)] [])) ?_ (fun t k => st22 t k)
  refine Gen.on (b := T22.setTop (mkF m 43 #[.val (.ref a1), .val (.int (0 : Int32)), .val (.ref b3)] [(.ref b3)])) ?_ (fun t k => XS.aloadN X22.here hx rfl (hb hby d15z_42) rfl rfl k)
  refine ownS_retA X22 hh hS15 e22 hk23 hZ hEL CH23 hx Bd.returns rfl rfl (hb hby d15z_43) (by decide) (by decide) ?_
  have fa24 := (hf15_0.wr W22)
  have fa25 := (xv15.other W22 (Or.inl (Ne.symm ne_m6_b3)))
  have fa26 := (xk15.other W22 (Or.inl (Ne.symm ne_m6_b3)))
  have fa27 := (xy15.other W22 ne_xb15_m6)
  show Q15z Z a1 m4 m5 m6 a5 zc y kq4 kq5 kq6 p5 w0 f0 h0 n0 _ T22.heap _
  rw [e22]
  exact ⟨_, rfl, N22, K22, fa24, ⟨xb15, fa25, fa26, fa27⟩, sz_b3⟩

def own_y (p q : Int32) : Int32 → Int32 := fun j => if j = (0 : Int32) then p else q
theorem own_y255 {z p q : Int32} (hp : ¬ p < 0 ∧ ¬ (255 : Int32) < p) (hq : ¬ q < 0 ∧ ¬ (255 : Int32) < q) : ∀ j : Int32, ¬ j < 0 → j < z → ¬ own_y p q j < 0 ∧ ¬ (255 : Int32) < own_y p q j := fun j _ _ => by
  unfold own_y; split <;> assumption
theorem own_y1 {p q : Int32} (hp : nar .char p = p) : ∀ j : Int32, ¬ j < 0 → j < (1 : Int32) → own_upd (fun _ => 0) (0 : Int32) (nar .char p) j = own_y p q j := fun j h0 h1 => by
  have e : j = 0 := by rw [Int32.lt_iff_toInt_lt, own_e0] at h0; rw [Int32.lt_iff_toInt_lt, own_e1] at h1; exact Int32.toInt_inj.mp (by rw [own_e0]; omega)
  subst e; unfold own_upd own_y; rw [if_pos rfl, if_pos rfl, hp]
theorem own_y2 {p q : Int32} (hp : nar .char p = p) (hq : nar .char q = q) : ∀ j : Int32, ¬ j < 0 → j < (2 : Int32) → own_upd (own_upd (fun _ => 0) (0 : Int32) (nar .char p)) (1 : Int32) (nar .char q) j = own_y p q j := fun j h0 h1 => by
  have e2 : (2 : Int32).toInt = 2 := by decide +kernel
  have e : j = 0 ∨ j = 1 := by
    rw [Int32.lt_iff_toInt_lt, own_e0] at h0; rw [Int32.lt_iff_toInt_lt, e2] at h1
    by_cases q : j.toInt = 0
    · left; exact Int32.toInt_inj.mp (by rw [own_e0]; omega)
    · right; exact Int32.toInt_inj.mp (by rw [own_e1]; omega)
  unfold own_upd own_y
  rcases e with rfl | rfl
  · rw [if_neg (by decide), if_pos rfl, if_pos rfl, hp]
  · rw [if_pos rfl, if_neg (by decide), hq]

theorem own_i255 : (255 : Int32).toInt = 255 := by decide +kernel
theorem own_i2 : (2 : Int32).toInt = 2 := by decide +kernel
theorem own_i3 : (3 : Int32).toInt = 3 := by decide +kernel
theorem own_m255 (w : Int32) : ¬ (w &&& (255 : Int32)) < 0 ∧ ¬ (255 : Int32) < (w &&& (255 : Int32)) := by
  have e := Jvm.Kit.i32_mask w 255 (k := 8) (by decide) (by decide)
  rw [Int32.lt_iff_toInt_lt, Int32.lt_iff_toInt_lt, e, own_e0, own_i255]; omega
/-- a char of eight bits -/
def own_c8 (c : Int32) : Prop := nar .char c = c ∧ (¬ c < 0 ∧ ¬ (255 : Int32) < c)
theorem own_c8m {c : Int32} (w : Int32) (h : c = (w &&& (255 : Int32)).toUInt32.toUInt16.toUInt32.toInt32) : own_c8 c := by
  have e5 : (65535 : Int32).toInt = 65535 := by decide +kernel
  have q := own_m255 w
  have e : own_i2c (w &&& (255 : Int32)) = w &&& (255 : Int32) := own_i2c_id q.1 (by have := q.2; rw [Int32.lt_iff_toInt_lt] at this ⊢; rw [own_i255] at this; rw [e5]; omega)
  have h' : c = own_i2c (w &&& (255 : Int32)) := h
  refine ⟨by rw [h']; exact own_nar_i2c _, ?_⟩
  rw [h', e]; exact q
theorem own_c8i {c a b : Int32} {P : Prop} [Decidable P] (h : c = if P then a else b) (ha : own_c8 a) (hb : own_c8 b) : own_c8 c := by
  rw [h]; split <;> assumption
theorem own_len {z : Int32} (w : Int32) (h : z = (w &&& (3 : Int32)) % (3 : Int32)) : z = 0 ∨ z = 1 ∨ z = 2 := by
  have e := Jvm.Kit.i32_mask w 3 (k := 2) (by decide) (by decide)
  have e2 : z.toInt = (w.toInt % 4).tmod 3 := by rw [h, Int32.toInt_mod, e, own_i3]; rfl
  have e3 : (w.toInt % 4).tmod 3 = (w.toInt % 4) % 3 := Int.tmod_eq_emod_of_nonneg (by omega)
  rw [e3] at e2
  rcases (by omega : z.toInt = 0 ∨ z.toInt = 1 ∨ z.toInt = 2) with q | q | q
  · left; exact Int32.toInt_inj.mp (by rw [q, own_e0])
  · right; left; exact Int32.toInt_inj.mp (by rw [q, own_e1])
  · right; right; exact Int32.toInt_inj.mp (by rw [q, own_i2])
theorem own_dl {d : Int32} {P : Prop} [Decidable P] (h : d = if P then (0 : Int32) else (1 : Int32)) : nar .boolean d = d := by
  rw [h]; split <;> decide

def own_kl (s l : Int32) : Prop := (s = 0 ∧ (l = 0 ∨ l = 1 ∨ l = 2)) ∨ (s = 1 ∧ (l = 0 ∨ l = 1))
theorem own_klm {s l : Int32} (w x : Int32) (hs : s = w &&& (1 : Int32)) (hl : l = (x &&& (3 : Int32)) % ((3 : Int32) - s)) : own_kl s l := by
  have e := Jvm.Kit.i32_mask w 1 (k := 1) (by decide) (by decide)
  rw [← hs] at e
  rcases (by omega : s.toInt = 0 ∨ s.toInt = 1) with q | q
  · have q0 : s = 0 := Int32.toInt_inj.mp (by rw [q, own_e0])
    subst q0
    exact Or.inl ⟨rfl, own_len x (by rw [hl]; rfl)⟩
  · have q1 : s = 1 := Int32.toInt_inj.mp (by rw [q, own_e1])
    subst q1
    refine Or.inr ⟨rfl, ?_⟩
    have e3 := Jvm.Kit.i32_mask x 3 (k := 2) (by decide) (by decide)
    have e2 : l.toInt = (x.toInt % 4).tmod 2 := by rw [hl, show (3 : Int32) - 1 = 2 by decide, Int32.toInt_mod, e3, own_i2]; rfl
    rw [Int.tmod_eq_emod_of_nonneg (by omega)] at e2
    rcases (by omega : l.toInt = 0 ∨ l.toInt = 1) with q | q
    · left; exact Int32.toInt_inj.mp (by rw [q, own_e0])
    · right; exact Int32.toInt_inj.mp (by rw [q, own_e1])
theorem own_3s {s : Int32} (w : Int32) (hs : s = w &&& (1 : Int32)) : ¬ ((3 : Int32) - s) = (0 : Int32) := by
  have e := Jvm.Kit.i32_mask w 1 (k := 1) (by decide) (by decide)
  rw [← hs] at e
  rcases (by omega : s.toInt = 0 ∨ s.toInt = 1) with q | q
  · have q0 : s = 0 := Int32.toInt_inj.mp (by rw [q, own_e0])
    subst q0; decide
  · have q1 : s = 1 := Int32.toInt_inj.mp (by rw [q, own_e1])
    subst q1; decide
theorem own_co1 {s l : Int32} (h : own_kl s l) : ¬ (((2 : Int32) ||| s) ||| l) < (0 : Int32) := by
  rcases h with ⟨rfl, rfl | rfl | rfl⟩ | ⟨rfl, rfl | rfl⟩ <;> decide
theorem own_co2 {s l : Int32} (h : own_kl s l) : ¬ ((2 : Int32) - s) < l := by
  rcases h with ⟨rfl, rfl | rfl | rfl⟩ | ⟨rfl, rfl | rfl⟩ <;> decide
theorem own_l0 {s l : Int32} (h : own_kl s l) : ¬ l < 0 := by
  rcases h with ⟨rfl, rfl | rfl | rfl⟩ | ⟨rfl, rfl | rfl⟩ <;> decide
theorem own_cap {s l : Int32} (h : own_kl s l) : l.toNatClampNeg ≤ 2 := by
  rcases h with ⟨rfl, rfl | rfl | rfl⟩ | ⟨rfl, rfl | rfl⟩ <;> decide
theorem own_s0 {s l : Int32} (h : own_kl s l) : ¬ s < 0 := by
  rcases h with ⟨rfl, rfl | rfl | rfl⟩ | ⟨rfl, rfl | rfl⟩ <;> decide
theorem own_s2 {s l : Int32} (h : own_kl s l) : s < (2 : Int32) := by
  rcases h with ⟨rfl, rfl | rfl | rfl⟩ | ⟨rfl, rfl | rfl⟩ <;> decide
theorem own_n1 {s l : Int32} (h : own_kl s l) (hz : ¬ l = 0) : ¬ l < (1 : Int32) := by
  rcases h with ⟨rfl, rfl | rfl | rfl⟩ | ⟨rfl, rfl | rfl⟩ <;> first | decide | exact absurd rfl hz
theorem own_p0 {s l : Int32} (h : own_kl s l) (hz : ¬ l = 0) : (0 : Int32) < l := by
  rcases h with ⟨rfl, rfl | rfl | rfl⟩ | ⟨rfl, rfl | rfl⟩ <;> first | decide | exact absurd rfl hz
theorem own_p1 {s l : Int32} (h : own_kl s l) (hz : ¬ l < (2 : Int32)) : (1 : Int32) < l := by
  rcases h with ⟨rfl, rfl | rfl | rfl⟩ | ⟨rfl, rfl | rfl⟩ <;> first | decide | exact absurd (by decide) hz
theorem own_t0 {s l : Int32} (h : own_kl s l) (hz : ¬ l < (2 : Int32)) : ¬ (s + (1 : Int32)) < 0 ∧ (s + (1 : Int32)) < (2 : Int32) := by
  rcases h with ⟨rfl, rfl | rfl | rfl⟩ | ⟨rfl, rfl | rfl⟩ <;> first | decide | exact absurd (by decide) hz
theorem own_yc {a b : Int32} (ha : own_c8 a) (hb : own_c8 b) (j : Int32) : ¬ own_y a b j < 0 ∧ ¬ (255 : Int32) < own_y a b j := by
  unfold own_y; split
  · exact ha.2
  · exact hb.2
theorem own_hin1 {a b : Int32} (ha : own_c8 a) (hb : own_c8 b) : ∀ j : Int32, ¬ j < 0 → j < (1 : Int32) → (¬ ((0 : Int32) + j) < 0 ∧ ((0 : Int32) + j) < (1 : Int32)) ∧ (¬ own_y a b ((0 : Int32) + j) < 0 ∧ ¬ (255 : Int32) < own_y a b ((0 : Int32) + j)) := fun j h0 h1 => by
  refine ⟨?_, own_yc ha hb _⟩
  rw [Int32.zero_add]; exact ⟨h0, h1⟩
theorem own_hin2 {s l a b : Int32} (h : own_kl s l) (ha : own_c8 a) (hb : own_c8 b) : ∀ j : Int32, ¬ j < 0 → j < l → (¬ (s + j) < 0 ∧ (s + j) < (2 : Int32)) ∧ (¬ own_y a b (s + j) < 0 ∧ ¬ (255 : Int32) < own_y a b (s + j)) := fun j h0 h1 => by
  refine ⟨?_, own_yc ha hb _⟩
  rw [Int32.lt_iff_toInt_lt] at h0 h1
  rw [own_e0] at h0
  have b1 : 0 ≤ s.toInt ∧ s.toInt + l.toInt ≤ 2 := by
    rcases h with ⟨rfl, rfl | rfl | rfl⟩ | ⟨rfl, rfl | rfl⟩ <;> decide
  have e : (s + j).toInt = s.toInt + j.toInt := Jvm.Kit.i32_add (by omega) (by omega)
  rw [Int32.lt_iff_toInt_lt, Int32.lt_iff_toInt_lt, e, own_e0, own_i2]; omega
theorem own_chr0 {a b : Int32} (ha : own_c8 a) (hb : own_c8 b) (s : Int32) : own_lc (own_b (own_y a b (s + (0 : Int32)))) = own_y a b s := by
  rw [Int32.add_zero]; exact own_lat (own_yc ha hb s).1 (own_yc ha hb s).2
theorem own_chr1 {a b : Int32} (ha : own_c8 a) (hb : own_c8 b) (s : Int32) : own_lc (own_b (own_y a b (s + (1 : Int32)))) = own_y a b (s + (1 : Int32)) := own_lat (own_yc ha hb _).1 (own_yc ha hb _).2


theorem pn_0 : plainName "com/example/scheherazade/scheherazade/reader/TagPartsStartPinLaw" = true := by first | (simp [plainName, overriddenIn]; done) | decide +kernel
theorem pd_0_0 : parseMethodDescriptor "([C)V" = some ⟨[(.array .char)], none⟩ := by decide +kernel
theorem pd_0_1 : parseMethodDescriptor "()V" = some ⟨[], none⟩ := by decide +kernel
theorem pd_0_2 : parseMethodDescriptor "(Ljava/lang/String;Z[C[C)V" = some ⟨[(.object "java/lang/String"), .boolean, (.array .char), (.array .char)], none⟩ := by decide +kernel
theorem pd_0_3 : parseMethodDescriptor "(Ljava/lang/String;Z[CII)V" = some ⟨[(.object "java/lang/String"), .boolean, (.array .char), .int, .int], none⟩ := by decide +kernel
theorem pd_0_4 : parseMethodDescriptor "()Ljava/lang/String;" = some ⟨[], some (.object "java/lang/String")⟩ := by decide +kernel
theorem pd_0_5 : parseMethodDescriptor "()Z" = some ⟨[], some .boolean⟩ := by decide +kernel
theorem pd_0_6 : parseMethodDescriptor "()[C" = some ⟨[], some (.array .char)⟩ := by decide +kernel
theorem pd_0_7 : parseMethodDescriptor "()I" = some ⟨[], some .int⟩ := by decide +kernel
theorem pd_0_8 : parseMethodDescriptor "(I)[C" = some ⟨[.int], some (.array .char)⟩ := by decide +kernel
theorem pd_0_9 : parseMethodDescriptor "(I)Ljava/lang/String;" = some ⟨[.int], some (.object "java/lang/String")⟩ := by decide +kernel
theorem pd_0_10 : parseMethodDescriptor "(I)C" = some ⟨[.int], some .char⟩ := by decide +kernel
theorem ef_0 (m : MethodId) (x0 : Int32) (x1 : Int32) (x2 : Int32) : entryFrame m #[(.int x0), (.int x1), (.int x2)] maxLocals = mkF m 0 #[.val (.int x0), .val (.int x1), .val (.int x2), .unset, .unset, .unset, .unset, .unset, .unset, .unset, .unset, .unset, .unset, .unset, .unset, .unset, .unset, .unset, .unset, .unset, .unset, .unset] [] := by first | (simp [entryFrame, mkF, argsToLocals, Value.category, maxLocals]; done) | rfl
def Q0 (n0 : Nat) (v : Option Value) (h : Heap) (L : List Loc) : Prop := v = some (.int 1) ∧ Fr n0 L
set_option maxRecDepth 65536 in
set_option maxHeartbeats 40000000 in
theorem seg170 {p : Program} {l : Launch} {e : Env} {s : State} {m : MethodId} {below : List Frame} {meth : Method} {c : Code} {Z : State} {a0 : Array Value} {locs : List Loc} {kS n0 : Nat} {f0 : Value} {h0 : Heap} {w0 : Int32} {p1 : Int32} {p2 : Int32} {p3 : Int32} {T152 : State} {T140 : State} {b3 : Addr} {e0 : Int32} {e1 : Int32} {b10 : Addr} {c0 : Int32} {c1 : Int32} {b18 : Addr} {b21 : Addr} {b34 : Addr} {b39 : Addr} {b54 : Addr} {b63 : Addr} {b76 : Addr} {b87 : Addr} {m1_97 : Addr} {kq1_97 : ClassId} {m2_97 : Addr} {kq2_97 : ClassId} {pp : Int32} {m3_97 : Addr} {kq3_97 : ClassId} {m4_97 : Addr} {kq4_97 : ClassId} {m5_97 : Addr} {kq5_97 : ClassId} {m6_97 : Addr} {kq6_97 : ClassId} {sx : Int32} {nsx : Int32} (hw : ∀ d ∈ tables_1, d.before a0 Z = true) (hx : p.tables.exec = Jvm.exec) (hby : c.code = code) (hml : c.maxLocals = 22) (hret : meth.sig.returnType = ret) (hlocks : meth.locks = false) (hh : s.heap = h0) (sts : Sts Z w0 f0) (hZ : Z.Warmed39 (s.setVm s.vm).vm) (hown : (s.setVm s.vm).vm.findClass "com/example/scheherazade/scheherazade/reader/TagPartsStartPinLaw" = some m.cls) (X152 : Stand p l e room_1 (s.setVm s.vm) m #[(.int p1), (.int p2), (.int p3)] below meth c T152 locs 18 60) (N152 : Fr n0 locs) (Z140 : n0 ≤ T140.heap.size) (hS0 : s.Since s.vm kS) (hk141 : kS ≤ T140.heap.size) (CH141 : CHr Z consts_1 s.vm h0 s.vm T140.heap) (e152 : T152.heap = T140.heap) (fa153 : Old Z n0 T140.heap) (fa154 : Afn Z T140.heap b3 .char (2 : Int32) (own_upd (own_upd (fun _ => 0) (0 : Int32) (nar .char e0)) (1 : Int32) (nar .char e1))) (fa156 : Afn Z T140.heap b10 .char (2 : Int32) (own_y c0 c1)) (fa158 : Exa Z T140.heap b18 "java/lang/String") (fa159 : Afn Z T140.heap b21 .char (1 : Int32) (own_y e0 e0)) (fa161 : Exa Z T140.heap b34 "java/lang/String") (fa162 : Afn Z T140.heap b39 .char (1 : Int32) (own_y c0 c0)) (fa164 : Afn Z T140.heap b54 .char (1 : Int32) (own_upd (fun _ => 0) (0 : Int32) (nar .char e0))) (fa166 : Afn Z T140.heap b63 .char (2 : Int32) (own_upd (own_upd (fun _ => 0) (0 : Int32) (nar .char c0)) (1 : Int32) (nar .char c1))) (fa168 : Afn Z T140.heap b76 .char (1 : Int32) (own_upd (fun _ => 0) (0 : Int32) (nar .char e1))) (hf140_0 : Exa Z T140.heap b87 "com/example/scheherazade/scheherazade/reader/TagParts") (fa143 : Arv Z T140.heap m1_97 kq1_97 (.object "java/lang/String") (4 : Int32) [(.ref b18), .null, .null, .null] .null) (fa144 : Arv Z T140.heap m2_97 kq2_97 .boolean (4 : Int32) [(.int (nar .boolean (if pp = (0 : Int32) then (1 : Int32) else (0 : Int32)))), (.int (0 : Int32)), (.int (0 : Int32)), (.int (0 : Int32))] (.int (0 : Int32))) (fa145 : Arv Z T140.heap m3_97 kq3_97 (.array .char) (4 : Int32) [(.ref b76), .null, .null, .null] .null) (fa146 : Arv Z T140.heap m4_97 kq4_97 .int (4 : Int32) [(.int (0 : Int32)), (.int (0 : Int32)), (.int (0 : Int32)), (.int (0 : Int32))] (.int (0 : Int32))) (fa147 : Arv Z T140.heap m5_97 kq5_97 .int (4 : Int32) [(.int (2 : Int32)), (.int (0 : Int32)), (.int (0 : Int32)), (.int (0 : Int32))] (.int (0 : Int32))) (fa148 : Arv Z T140.heap m6_97 kq6_97 (.object "java/lang/String") (4 : Int32) [.null, .null, .null, .null] .null) (hf140_1 : Fld Z T140.heap b87 "com/example/scheherazade/scheherazade/reader/TagParts" "name" "Ljava/lang/String;" (.ref b34)) (hf140_2 : Fld Z T140.heap b87 "com/example/scheherazade/scheherazade/reader/TagParts" "prefixed" "Z" (.int (nar .boolean pp))) (hf140_3 : Fld Z T140.heap b87 "com/example/scheherazade/scheherazade/reader/TagParts" "nameSpelling" "[C" (.ref b63)) (hf140_4 : Fld Z T140.heap b87 "com/example/scheherazade/scheherazade/reader/TagParts" "source" "[C" (.ref b10)) (hf140_5 : Fld Z T140.heap b87 "com/example/scheherazade/scheherazade/reader/TagParts" "attributeCount" "I" (.int (0 : Int32))) (hf140_6 : Fld Z T140.heap b87 "com/example/scheherazade/scheherazade/reader/TagParts" "attributeNames" "[Ljava/lang/String;" (.ref m1_97)) (hf140_7 : Fld Z T140.heap b87 "com/example/scheherazade/scheherazade/reader/TagParts" "attributePrefixes" "[Z" (.ref m2_97)) (hf140_8 : Fld Z T140.heap b87 "com/example/scheherazade/scheherazade/reader/TagParts" "attributeSpellings" "[[C" (.ref m3_97)) (hf140_9 : Fld Z T140.heap b87 "com/example/scheherazade/scheherazade/reader/TagParts" "valueStarts" "[I" (.ref m4_97)) (hf140_10 : Fld Z T140.heap b87 "com/example/scheherazade/scheherazade/reader/TagParts" "valueLengths" "[I" (.ref m5_97)) (hf140_11 : Fld Z T140.heap b87 "com/example/scheherazade/scheherazade/reader/TagParts" "attributeValues" "[Ljava/lang/String;" (.ref m6_97)) (sf141_b18 : Safe Z consts_1 s.vm T140.heap b18) (sf141_b34 : Safe Z consts_1 s.vm T140.heap b34) (ne_b3_b87 : b3 ≠ b87) (ne_b10_b87 : b10 ≠ b87) (ne_b21_b87 : b21 ≠ b87) (ne_b39_b87 : b39 ≠ b87) (ne_b54_b87 : b54 ≠ b87) (ne_b63_b87 : b63 ≠ b87) (ne_b76_b87 : b76 ≠ b87) (ne_b3_m1_97 : b3 ≠ m1_97) (ne_b10_m1_97 : b10 ≠ m1_97) (ne_b21_m1_97 : b21 ≠ m1_97) (ne_b39_m1_97 : b39 ≠ m1_97) (ne_b54_m1_97 : b54 ≠ m1_97) (ne_b63_m1_97 : b63 ≠ m1_97) (ne_b76_m1_97 : b76 ≠ m1_97) (ne_b87_m1_97 : b87 ≠ m1_97) (ne_b3_m2_97 : b3 ≠ m2_97) (ne_b10_m2_97 : b10 ≠ m2_97) (ne_b21_m2_97 : b21 ≠ m2_97) (ne_b39_m2_97 : b39 ≠ m2_97) (ne_b54_m2_97 : b54 ≠ m2_97) (ne_b63_m2_97 : b63 ≠ m2_97) (ne_b76_m2_97 : b76 ≠ m2_97) (ne_b87_m2_97 : b87 ≠ m2_97) (ne_b3_m3_97 : b3 ≠ m3_97) (ne_b10_m3_97 : b10 ≠ m3_97) (ne_b21_m3_97 : b21 ≠ m3_97) (ne_b39_m3_97 : b39 ≠ m3_97) (ne_b54_m3_97 : b54 ≠ m3_97) (ne_b63_m3_97 : b63 ≠ m3_97) (ne_b76_m3_97 : b76 ≠ m3_97) (ne_b87_m3_97 : b87 ≠ m3_97) (ne_b3_m4_97 : b3 ≠ m4_97) (ne_b10_m4_97 : b10 ≠ m4_97) (ne_b21_m4_97 : b21 ≠ m4_97) (ne_b39_m4_97 : b39 ≠ m4_97) (ne_b54_m4_97 : b54 ≠ m4_97) (ne_b63_m4_97 : b63 ≠ m4_97) (ne_b76_m4_97 : b76 ≠ m4_97) (ne_b87_m4_97 : b87 ≠ m4_97) (ne_b3_m5_97 : b3 ≠ m5_97) (ne_b10_m5_97 : b10 ≠ m5_97) (ne_b21_m5_97 : b21 ≠ m5_97) (ne_b39_m5_97 : b39 ≠ m5_97) (ne_b54_m5_97 : b54 ≠ m5_97) (ne_b63_m5_97 : b63 ≠ m5_97) (ne_b76_m5_97 : b76 ≠ m5_97) (ne_b87_m5_97 : b87 ≠ m5_97) (ne_b3_m6_97 : b3 ≠ m6_97) (ne_b10_m6_97 : b10 ≠ m6_97) (ne_b21_m6_97 : b21 ≠ m6_97) (ne_b39_m6_97 : b39 ≠ m6_97) (ne_b54_m6_97 : b54 ≠ m6_97) (ne_b63_m6_97 : b63 ≠ m6_97) (ne_b76_m6_97 : b76 ≠ m6_97) (ne_b87_m6_97 : b87 ≠ m6_97) (ne_m1_97_m2_97 : m1_97 ≠ m2_97) (ne_m1_97_m3_97 : m1_97 ≠ m3_97) (ne_m1_97_m4_97 : m1_97 ≠ m4_97) (ne_m1_97_m5_97 : m1_97 ≠ m5_97) (ne_m1_97_m6_97 : m1_97 ≠ m6_97) (ne_m2_97_m3_97 : m2_97 ≠ m3_97) (ne_m2_97_m4_97 : m2_97 ≠ m4_97) (ne_m2_97_m5_97 : m2_97 ≠ m5_97) (ne_m2_97_m6_97 : m2_97 ≠ m6_97) (ne_m3_97_m4_97 : m3_97 ≠ m4_97) (ne_m3_97_m5_97 : m3_97 ≠ m5_97) (ne_m3_97_m6_97 : m3_97 ≠ m6_97) (ne_m4_97_m5_97 : m4_97 ≠ m5_97) (ne_m4_97_m6_97 : m4_97 ≠ m6_97) (ne_m5_97_m6_97 : m5_97 ≠ m6_97) (g_b87 : n0 ≤ b87) (g_m1_97 : n0 ≤ m1_97) (g_m2_97 : n0 ≤ m2_97) (g_m3_97 : n0 ≤ m3_97) (g_m4_97 : n0 ≤ m4_97) (g_m5_97 : n0 ≤ m5_97) (g_m6_97 : n0 ≤ m6_97) (ov1_97 : Ovr Z kq1_97 "java/lang/String") (ov3_97 : OvrA Z kq3_97 .char "[C") (ov6_97 : Ovr Z kq6_97 "java/lang/String") (k_kl : own_kl sx (0 : Int32)) :
    OwnS Z consts_1 p e below s (Q0 n0) room_1.cells room_1.slots (T152.setTop (mkF m 306 #[.val (.int p1), .val (.int p2), .val (.int p3), .val (.int pp), .val (.int nsx), .val (.int c0), .val (.int c1), .val (.int e0), .val (.int e1), .val (.ref b3), .val (.ref b10), .val (.ref b18), .val (.ref b34), .val (.ref b54), .val (.ref b63), .val (.ref b76), .val (.ref b87), .val (.int (1 : Int32)), .val (.int sx), .val (.int (0 : Int32)), .unset, .unset] [])) := by
  obtain ⟨SC, hw0, SF, hf0⟩ := id sts
  have hEL : EW Z a0 consts_1 := own_hEL hw
  have wS := own_wS hw
  refine Gen.on (b := T152.setTop (mkF m 308 #[.val (.int p1), .val (.int p2), .val (.int p3), .val (.int pp), .val (.int nsx), .val (.int c0), .val (.int c1), .val (.int e0), .val (.int e1), .val (.ref b3), .val (.ref b10), .val (.ref b18), .val (.ref b34), .val (.ref b54), .val (.ref b63), .val (.ref b76), .val (.ref b87), .val (.int (1 : Int32)), .val (.int sx), .val (.int (0 : Int32)), .unset, .unset] [(.ref b87)])) ?_ (fun t k => XS.aload X152.here hx rfl (hb hby at_306) rfl rfl k)
  refine Gen.on (b := T152.setTop (mkF m 310 #[.val (.int p1), .val (.int p2), .val (.int p3), .val (.int pp), .val (.int nsx), .val (.int c0), .val (.int c1), .val (.int e0), .val (.int e1), .val (.ref b3), .val (.ref b10), .val (.ref b18), .val (.ref b34), .val (.ref b54), .val (.ref b63), .val (.ref b76), .val (.ref b87), .val (.int (1 : Int32)), .val (.int sx), .val (.int (0 : Int32)), .unset, .unset] [(.ref b34), (.ref b87)])) ?_ (fun t k => XS.aload X152.here hx rfl (hb hby at_308) rfl rfl k)
  refine Gen.on (b := T152.setTop (mkF m 311 #[.val (.int p1), .val (.int p2), .val (.int p3), .val (.int pp), .val (.int nsx), .val (.int c0), .val (.int c1), .val (.int e0), .val (.int e1), .val (.ref b3), .val (.ref b10), .val (.ref b18), .val (.ref b34), .val (.ref b54), .val (.ref b63), .val (.ref b76), .val (.ref b87), .val (.int (1 : Int32)), .val (.int sx), .val (.int (0 : Int32)), .unset, .unset] [(.int pp), (.ref b34), (.ref b87)])) ?_ (fun t k => XS.iloadN X152.here hx rfl (hb hby at_310) rfl k)
  refine Gen.on (b := T152.setTop (mkF m 312 #[.val (.int p1), .val (.int p2), .val (.int p3), .val (.int pp), .val (.int nsx), .val (.int c0), .val (.int c1), .val (.int e0), .val (.int e1), .val (.ref b3), .val (.ref b10), .val (.ref b18), .val (.ref b34), .val (.ref b54), .val (.ref b63), .val (.ref b76), .val (.ref b87), .val (.int (1 : Int32)), .val (.int sx), .val (.int (0 : Int32)), .unset, .unset] [.null, (.int pp), (.ref b34), (.ref b87)])) ?_ (fun t k => XS.aconstNull X152.here hx rfl (hb hby at_311) k)
  refine Gen.on (b := T152.setTop (mkF m 314 #[.val (.int p1), .val (.int p2), .val (.int p3), .val (.int pp), .val (.int nsx), .val (.int c0), .val (.int c1), .val (.int e0), .val (.int e1), .val (.ref b3), .val (.ref b10), .val (.ref b18), .val (.ref b34), .val (.ref b54), .val (.ref b63), .val (.ref b76), .val (.ref b87), .val (.int (1 : Int32)), .val (.int sx), .val (.int (0 : Int32)), .unset, .unset] [(.int sx), .null, (.int pp), (.ref b34), (.ref b87)])) ?_ (fun t k => XS.iload X152.here hx rfl (hb hby at_312) rfl k)
  refine Gen.on (b := T152.setTop (mkF m 316 #[.val (.int p1), .val (.int p2), .val (.int p3), .val (.int pp), .val (.int nsx), .val (.int c0), .val (.int c1), .val (.int e0), .val (.int e1), .val (.ref b3), .val (.ref b10), .val (.ref b18), .val (.ref b34), .val (.ref b54), .val (.ref b63), .val (.ref b76), .val (.ref b87), .val (.int (1 : Int32)), .val (.int sx), .val (.int (0 : Int32)), .unset, .unset] [(.int (0 : Int32)), (.int sx), .null, (.int pp), (.ref b34), (.ref b87)])) ?_ (fun t k => XS.iload X152.here hx rfl (hb hby at_314) rfl k)
  obtain ⟨cq171, kq171, q171a, q171b, q171c⟩ := isOf hZ e152 hf140_0
  obtain ⟨_, _, ⟨T171, L171, k171, n171⟩, -, X171, ⟨Lc171, hQ171, l171, y171, z171⟩, st171⟩ := X152.virtualBack hx (y := (⟨"com/example/scheherazade/scheherazade/reader/TagParts", "addAttribute", "(Ljava/lang/String;Z[CII)V"⟩ : MethodName)) (z := (⟨"com/example/scheherazade/scheherazade/reader/TagParts", "addAttribute", "(Ljava/lang/String;Z[CII)V"⟩ : MethodName)) hown (mvT hZ (hw _ (List.mem_of_getElem? (i := 70) rfl))) (mvT hZ (hw _ (List.mem_of_getElem? (i := 71) rfl))) (notFace_of_selects (args := #[]) (mvT hZ (hw _ (List.mem_of_getElem? (i := 73) rfl)))) (mvT hZ (hw _ (List.mem_of_getElem? (i := 73) rfl))) (mvT hZ (hw _ (List.mem_of_getElem? (i := 72) rfl))) (by decide) (backOf (W := 0) (rm9n l Z a0 hw [] b87 b34 pp sx (0 : Int32) (.ref b34) (.int (nar .boolean pp)) (.ref b63) (.ref b10) m1_97 m2_97 m3_97 m4_97 m5_97 m6_97 kq1_97 kq2_97 kq3_97 kq4_97 kq5_97 kq6_97 (.ref b18) (nar .boolean (if pp = (0 : Int32) then (1 : Int32) else (0 : Int32))) (.ref b76) (0 : Int32) (2 : Int32) .null T140.heap n0 Z140 hf140_0 fa161 hf140_1 hf140_2 hf140_3 hf140_4 hf140_5 hf140_6 hf140_7 hf140_8 hf140_9 hf140_10 hf140_11 fa143 fa144 fa145 fa146 fa147 fa148 g_b87 g_m1_97 g_m2_97 g_m3_97 g_m4_97 g_m5_97 g_m6_97 ne_b87_m1_97 ne_b87_m2_97 ne_b87_m3_97 ne_b87_m4_97 ne_b87_m5_97 ne_b87_m6_97 ne_m1_97_m2_97 ne_m1_97_m3_97 ne_m1_97_m4_97 ne_m1_97_m5_97 ne_m1_97_m6_97 ne_m2_97_m3_97 ne_m2_97_m4_97 ne_m2_97_m5_97 ne_m2_97_m6_97 ne_m3_97_m4_97 ne_m3_97_m5_97 ne_m3_97_m6_97 ne_m4_97_m5_97 ne_m4_97_m6_97 ne_m5_97_m6_97 (ov1_97) (ov3_97) (ov6_97)) hZ (hw _ (List.mem_of_getElem? (i := 74) rfl)) (hw _ (List.mem_of_getElem? (i := 32) rfl)) (by decide) (by decide)) q171a q171c (g := (mkF m 316 #[.val (.int p1), .val (.int p2), .val (.int p3), .val (.int pp), .val (.int nsx), .val (.int c0), .val (.int c1), .val (.int e0), .val (.int e1), .val (.ref b3), .val (.ref b10), .val (.ref b18), .val (.ref b34), .val (.ref b54), .val (.ref b63), .val (.ref b76), .val (.ref b87), .val (.int (1 : Int32)), .val (.int sx), .val (.int (0 : Int32)), .unset, .unset] [(.int (0 : Int32)), (.int sx), .null, (.int pp), (.ref b34), (.ref b87)])) rfl (by rw [hml]; rfl) (Steps.refl _) (argsL := [(.ref b34), (.int pp), .null, (.int sx), (.int (0 : Int32))]) (rest := []) (lenOf pd_0_3 rfl) rfl (by show 2 * 0 + _ ≤ _; exact Nat.le_of_eq rfl) (hb hby at_316) (fun _ _ => ⟨rfl, e152, (by decide : 18 + 0 ≤ _), (by decide : 60 + 0 ≤ _)⟩)
  dsimp only [Pt.U, Pt.locs, Pt.cells, Pt.slots] at X171 l171 y171 z171 st171 hQ171
  subst l171 y171 z171
  obtain ⟨rfl, N171q, Kc171, hf171_0, hf171_1, hf171_2, hf171_3, hf171_4, hf171_5, hf171_6, hf171_7, hf171_8, hf171_9, hf171_10, hf171_11, hf171_12, hf171_13, hf171_14, hf171_15, hf171_16, hf171_17⟩ := hQ171
  have N171 := Fr.app N152 N171q
  have sf172_b18 := Safe.keep Kc171 (sfS (Safe.exa hZ.alike hf140_0 (by decide) (by decide)) (sfS (Safe.arv hZ.alike fa143 (by decide)) (sfS (Safe.arv hZ.alike fa144 (by decide)) (sfS (Safe.arv hZ.alike fa145 (by decide)) (sfS (Safe.arv hZ.alike fa146 (by decide)) (sfS (Safe.arv hZ.alike fa147 (by decide)) (sfS (Safe.arv hZ.alike fa148 (by decide)) sf0))))))) CH141.1 sf141_b18
  have sf172_b34 := Safe.keep Kc171 (sfS (Safe.exa hZ.alike hf140_0 (by decide) (by decide)) (sfS (Safe.arv hZ.alike fa143 (by decide)) (sfS (Safe.arv hZ.alike fa144 (by decide)) (sfS (Safe.arv hZ.alike fa145 (by decide)) (sfS (Safe.arv hZ.alike fa146 (by decide)) (sfS (Safe.arv hZ.alike fa147 (by decide)) (sfS (Safe.arv hZ.alike fa148 (by decide)) sf0))))))) CH141.1 sf141_b34
  have CH172 := CHr.trans CH141 (CHr.keep Kc171 (sfS (Safe.exa hZ.alike hf140_0 (by decide) (by decide)) (sfS (Safe.arv hZ.alike fa143 (by decide)) (sfS (Safe.arv hZ.alike fa144 (by decide)) (sfS (Safe.arv hZ.alike fa145 (by decide)) (sfS (Safe.arv hZ.alike fa146 (by decide)) (sfS (Safe.arv hZ.alike fa147 (by decide)) (sfS (Safe.arv hZ.alike fa148 (by decide)) sf0))))))) CH141.1)
  have hk172 := Nat.le_trans hk141 Kc171.1
  have Z171 : n0 ≤ T171.heap.size := Nat.le_trans Z140 Kc171.1
  refine Gen.on (b := T171.setTop (mkF m 319 #[.val (.int p1), .val (.int p2), .val (.int p3), .val (.int pp), .val (.int nsx), .val (.int c0), .val (.int c1), .val (.int e0), .val (.int e1), .val (.ref b3), .val (.ref b10), .val (.ref b18), .val (.ref b34), .val (.ref b54), .val (.ref b63), .val (.ref b76), .val (.ref b87), .val (.int (1 : Int32)), .val (.int sx), .val (.int (0 : Int32)), .unset, .unset] [])) ?_ (fun t k => st171.trans k)
  refine Gen.on (b := T171.setTop (mkF m 321 #[.val (.int p1), .val (.int p2), .val (.int p3), .val (.int pp), .val (.int nsx), .val (.int c0), .val (.int c1), .val (.int e0), .val (.int e1), .val (.ref b3), .val (.ref b10), .val (.ref b18), .val (.ref b34), .val (.ref b54), .val (.ref b63), .val (.ref b76), .val (.ref b87), .val (.int (1 : Int32)), .val (.int sx), .val (.int (0 : Int32)), .unset, .unset] [(.ref b87)])) ?_ (fun t k => XS.aload X171.here hx rfl (hb hby at_319) rfl rfl k)
  refine Gen.on (b := T171.setTop (mkF m 322 #[.val (.int p1), .val (.int p2), .val (.int p3), .val (.int pp), .val (.int nsx), .val (.int c0), .val (.int c1), .val (.int e0), .val (.int e1), .val (.ref b3), .val (.ref b10), .val (.ref b18), .val (.ref b34), .val (.ref b54), .val (.ref b63), .val (.ref b76), .val (.ref b87), .val (.int (1 : Int32)), .val (.int sx), .val (.int (0 : Int32)), .unset, .unset] [(.int (0 : Int32)), (.ref b87)])) ?_ (fun t k => XS.iconst X171.here hx rfl (hb hby at_321) k)
  have fa174 := (fa154.keep Kc171 (ninS ne_b3_b87 (ninS ne_b3_m1_97 (ninS ne_b3_m2_97 (ninS ne_b3_m3_97 (ninS ne_b3_m4_97 (ninS ne_b3_m5_97 (ninS ne_b3_m6_97 nin0))))))))
  have fa175 := (fa156.keep Kc171 (ninS ne_b10_b87 (ninS ne_b10_m1_97 (ninS ne_b10_m2_97 (ninS ne_b10_m3_97 (ninS ne_b10_m4_97 (ninS ne_b10_m5_97 (ninS ne_b10_m6_97 nin0))))))))
  have fa176 := (fa158.keep Kc171)
  have fa177 := (fa159.keep Kc171 (ninS ne_b21_b87 (ninS ne_b21_m1_97 (ninS ne_b21_m2_97 (ninS ne_b21_m3_97 (ninS ne_b21_m4_97 (ninS ne_b21_m5_97 (ninS ne_b21_m6_97 nin0))))))))
  have fa178 := (fa161.keep Kc171)
  have fa179 := (fa162.keep Kc171 (ninS ne_b39_b87 (ninS ne_b39_m1_97 (ninS ne_b39_m2_97 (ninS ne_b39_m3_97 (ninS ne_b39_m4_97 (ninS ne_b39_m5_97 (ninS ne_b39_m6_97 nin0))))))))
  have fa180 := (fa164.keep Kc171 (ninS ne_b54_b87 (ninS ne_b54_m1_97 (ninS ne_b54_m2_97 (ninS ne_b54_m3_97 (ninS ne_b54_m4_97 (ninS ne_b54_m5_97 (ninS ne_b54_m6_97 nin0))))))))
  have fa181 := (fa166.keep Kc171 (ninS ne_b63_b87 (ninS ne_b63_m1_97 (ninS ne_b63_m2_97 (ninS ne_b63_m3_97 (ninS ne_b63_m4_97 (ninS ne_b63_m5_97 (ninS ne_b63_m6_97 nin0))))))))
  have fa182 := (fa168.keep Kc171 (ninS ne_b76_b87 (ninS ne_b76_m1_97 (ninS ne_b76_m2_97 (ninS ne_b76_m3_97 (ninS ne_b76_m4_97 (ninS ne_b76_m5_97 (ninS ne_b76_m6_97 nin0))))))))
  have fa183 := (fa153.keep Kc171 (allS g_b87 (allS g_m1_97 (allS g_m2_97 (allS g_m3_97 (allS g_m4_97 (allS g_m5_97 (allS g_m6_97 all0))))))))
  obtain ⟨cq173, kq173, q173a, q173b, q173c⟩ := isOf hZ rfl hf171_0
  obtain ⟨_, _, ⟨T173, L173, k173, n173⟩, -, X173, hSc173, gr173, ⟨Lc173, hQ173, l173, y173, z173, CHc173⟩, st173⟩ := X171.virtualBackS hx (y := (⟨"com/example/scheherazade/scheherazade/reader/TagParts", "getAttributeValue", "(I)Ljava/lang/String;"⟩ : MethodName)) (z := (⟨"com/example/scheherazade/scheherazade/reader/TagParts", "getAttributeValue", "(I)Ljava/lang/String;"⟩ : MethodName)) hown (mvT hZ (hw _ (List.mem_of_getElem? (i := 101) rfl))) (mvT hZ (hw _ (List.mem_of_getElem? (i := 102) rfl))) (notFace_of_selects (args := #[]) (mvT hZ (hw _ (List.mem_of_getElem? (i := 104) rfl)))) (mvT hZ (hw _ (List.mem_of_getElem? (i := 104) rfl))) (mvT hZ (hw _ (List.mem_of_getElem? (i := 103) rfl))) (by decide) (backOfSH (W := 0) (rm15z l Z a0 hw [] b87 m4_97 m5_97 m6_97 b10 (2 : Int32) (own_y c0 c1) kq4_97 kq5_97 kq6_97 sx w0 f0 T171.heap n0 Z171 hf171_0 hf171_9 hf171_10 hf171_11 hf171_4 fa175 hf171_15 hf171_16 hf171_17 fa183 g_m6_97 ne_b87_m6_97 ne_b10_m6_97 ne_m4_97_m6_97 ne_m5_97_m6_97 (own_co1 k_kl) (own_co2 k_kl) (sts) (ov6_97)) hZ (hw _ (List.mem_of_getElem? (i := 105) rfl)) (hw _ (List.mem_of_getElem? (i := 32) rfl)) (by decide) (by decide) hEL CH172.1) q173a q173c (g := (mkF m 322 #[.val (.int p1), .val (.int p2), .val (.int p3), .val (.int pp), .val (.int nsx), .val (.int c0), .val (.int c1), .val (.int e0), .val (.int e1), .val (.ref b3), .val (.ref b10), .val (.ref b18), .val (.ref b34), .val (.ref b54), .val (.ref b63), .val (.ref b76), .val (.ref b87), .val (.int (1 : Int32)), .val (.int sx), .val (.int (0 : Int32)), .unset, .unset] [(.int (0 : Int32)), (.ref b87)])) rfl (by rw [hml]; rfl) (Steps.refl _) (argsL := [(.int (0 : Int32))]) (rest := []) (lenOf pd_0_9 rfl) rfl (by show 2 * 0 + _ ≤ _; exact Nat.le_of_eq rfl) (hb hby at_322) (fun _ _ => ⟨rfl, rfl, (by decide : 18 + 5 ≤ _), (by decide : 60 + 12 ≤ _)⟩)
  dsimp only [Pt.U, Pt.locs, Pt.cells, Pt.slots] at X173 l173 y173 z173 st173 hQ173 hSc173 gr173 CHc173
  subst l173 y173 z173
  obtain ⟨X173, hS173, hZ, hown⟩ := rebS hS0 hk172 X173 hSc173 gr173 hZ hown
  have sf173_b18 := CHr.safe CHc173 fa176.lt sf172_b18
  have sf173_b34 := CHr.safe CHc173 fa178.lt sf172_b34
  have CH173 := CHr.trans CH172 CHc173
  obtain ⟨xr173, rfl, N173q, Kc173, hf173_0, hf173_1, hf173_2⟩ := hQ173
  have N173 := Fr.app N171 N173q
  have Z173 : n0 ≤ T173.heap.size := Nat.le_trans Z171 Kc173.1
  obtain ⟨xb173, xv173, xk173, xy173⟩ := hf173_1
  refine Gen.on (b := T173.setTop (mkF m 325 #[.val (.int p1), .val (.int p2), .val (.int p3), .val (.int pp), .val (.int nsx), .val (.int c0), .val (.int c1), .val (.int e0), .val (.int e1), .val (.ref b3), .val (.ref b10), .val (.ref b18), .val (.ref b34), .val (.ref b54), .val (.ref b63), .val (.ref b76), .val (.ref b87), .val (.int (1 : Int32)), .val (.int sx), .val (.int (0 : Int32)), .unset, .unset] [(.ref xr173)])) ?_ (fun t k => st173.trans k)
  refine Gen.on (b := T173.setTop (mkF m 327 #[.val (.int p1), .val (.int p2), .val (.int p3), .val (.int pp), .val (.int nsx), .val (.int c0), .val (.int c1), .val (.int e0), .val (.int e1), .val (.ref b3), .val (.ref b10), .val (.ref b18), .val (.ref b34), .val (.ref b54), .val (.ref b63), .val (.ref b76), .val (.ref b87), .val (.int (1 : Int32)), .val (.int sx), .val (.int (0 : Int32)), .val (.ref xr173), .unset] [])) ?_ (fun t k => XS.astore X173.here hx rfl (hb hby at_325) rfl rfl (l' := #[.val (.int p1), .val (.int p2), .val (.int p3), .val (.int pp), .val (.int nsx), .val (.int c0), .val (.int c1), .val (.int e0), .val (.int e1), .val (.ref b3), .val (.ref b10), .val (.ref b18), .val (.ref b34), .val (.ref b54), .val (.ref b63), .val (.ref b76), .val (.ref b87), .val (.int (1 : Int32)), .val (.int sx), .val (.int (0 : Int32)), .val (.ref xr173), .unset]) rfl k)
  refine Gen.on (b := T173.setTop (mkF m 329 #[.val (.int p1), .val (.int p2), .val (.int p3), .val (.int pp), .val (.int nsx), .val (.int c0), .val (.int c1), .val (.int e0), .val (.int e1), .val (.ref b3), .val (.ref b10), .val (.ref b18), .val (.ref b34), .val (.ref b54), .val (.ref b63), .val (.ref b76), .val (.ref b87), .val (.int (1 : Int32)), .val (.int sx), .val (.int (0 : Int32)), .val (.ref xr173), .unset] [(.ref xr173)])) ?_ (fun t k => XS.aload X173.here hx rfl (hb hby at_327) rfl rfl k)
  have fa185 := (hf171_12.keep Kc173 (ninS ne_m1_97_m6_97 nin0))
  have fa186 := (hf171_13.keep Kc173 (ninS ne_m2_97_m6_97 nin0))
  have fa187 := (hf171_14.keep Kc173 (ninS ne_m3_97_m6_97 nin0))
  have fa188 := (hf171_15.keep Kc173 (ninS ne_m4_97_m6_97 nin0))
  have fa189 := (hf171_16.keep Kc173 (ninS ne_m5_97_m6_97 nin0))
  have fa190 := (fa183.keep Kc173 (allS g_m6_97 all0))
  obtain ⟨cq184, kq184, q184a, q184b, q184c⟩ := isOf hZ rfl hf173_0
  obtain ⟨_, _, ⟨T184, L184, k184, n184⟩, -, X184, ⟨Lc184, hQ184, l184, y184, z184⟩, st184⟩ := X173.virtualBack hx (y := (⟨"java/lang/String", "length", "()I"⟩ : MethodName)) (z := (⟨"java/lang/String", "length", "()I"⟩ : MethodName)) hown (mvT hZ (hw _ (List.mem_of_getElem? (i := 123) rfl))) (mvT hZ (hw _ (List.mem_of_getElem? (i := 124) rfl))) (notFace_of_selects (args := #[]) (mvT hZ (hw _ (List.mem_of_getElem? (i := 126) rfl)))) (mvT hZ (hw _ (List.mem_of_getElem? (i := 126) rfl))) (mvT hZ (hw _ (List.mem_of_getElem? (i := 125) rfl))) (by decide) (backOf (W := 0) (rm20 l Z a0 hw [] xr173 xb173 (0 : Int32) (fun j => own_b ((fun j => (own_y c0 c1) (sx + j)) j)) w0 f0 T173.heap n0 Z173 hf173_0 xv173 xk173 xy173 fa190 (sts)) hZ (hw _ (List.mem_of_getElem? (i := 127) rfl)) (hw _ (List.mem_of_getElem? (i := 3) rfl)) (by decide) (by decide)) q184a q184c (g := (mkF m 329 #[.val (.int p1), .val (.int p2), .val (.int p3), .val (.int pp), .val (.int nsx), .val (.int c0), .val (.int c1), .val (.int e0), .val (.int e1), .val (.ref b3), .val (.ref b10), .val (.ref b18), .val (.ref b34), .val (.ref b54), .val (.ref b63), .val (.ref b76), .val (.ref b87), .val (.int (1 : Int32)), .val (.int sx), .val (.int (0 : Int32)), .val (.ref xr173), .unset] [(.ref xr173)])) rfl (by rw [hml]; rfl) (Steps.refl _) (argsL := []) (rest := []) (lenOf pd_0_7 rfl) rfl (by show 2 * 0 + _ ≤ _; exact Nat.le_of_eq rfl) (hb hby at_329) (fun _ _ => ⟨rfl, rfl, (by decide : 23 + 0 ≤ _), (by decide : 72 + 0 ≤ _)⟩)
  dsimp only [Pt.U, Pt.locs, Pt.cells, Pt.slots] at X184 l184 y184 z184 st184 hQ184
  subst l184 y184 z184
  obtain ⟨rfl, N184q, e184⟩ := hQ184
  have N184 := Fr.app N173 N184q
  refine Gen.on (b := T184.setTop (mkF m 332 #[.val (.int p1), .val (.int p2), .val (.int p3), .val (.int pp), .val (.int nsx), .val (.int c0), .val (.int c1), .val (.int e0), .val (.int e1), .val (.ref b3), .val (.ref b10), .val (.ref b18), .val (.ref b34), .val (.ref b54), .val (.ref b63), .val (.ref b76), .val (.ref b87), .val (.int (1 : Int32)), .val (.int sx), .val (.int (0 : Int32)), .val (.ref xr173), .unset] [(.int (0 : Int32))])) ?_ (fun t k => st184.trans k)
  refine Gen.on (b := T184.setTop (mkF m 334 #[.val (.int p1), .val (.int p2), .val (.int p3), .val (.int pp), .val (.int nsx), .val (.int c0), .val (.int c1), .val (.int e0), .val (.int e1), .val (.ref b3), .val (.ref b10), .val (.ref b18), .val (.ref b34), .val (.ref b54), .val (.ref b63), .val (.ref b76), .val (.ref b87), .val (.int (1 : Int32)), .val (.int sx), .val (.int (0 : Int32)), .val (.ref xr173), .unset] [(.int (0 : Int32)), (.int (0 : Int32))])) ?_ (fun t k => XS.iload X184.here hx rfl (hb hby at_332) rfl k)
  refine Gen.on (b := T184.setTop (mkF m 337 #[.val (.int p1), .val (.int p2), .val (.int p3), .val (.int pp), .val (.int nsx), .val (.int c0), .val (.int c1), .val (.int e0), .val (.int e1), .val (.ref b3), .val (.ref b10), .val (.ref b18), .val (.ref b34), .val (.ref b54), .val (.ref b63), .val (.ref b76), .val (.ref b87), .val (.int (1 : Int32)), .val (.int sx), .val (.int (0 : Int32)), .val (.ref xr173), .unset] [])) ?_ (fun t k => XS.icmpNo X184.here hx rfl (hb hby at_334) rfl (teq (by decide : (0 : Int32) = (0 : Int32))).2 k)
  refine Gen.on (b := T184.setTop (mkF m 339 #[.val (.int p1), .val (.int p2), .val (.int p3), .val (.int pp), .val (.int nsx), .val (.int c0), .val (.int c1), .val (.int e0), .val (.int e1), .val (.ref b3), .val (.ref b10), .val (.ref b18), .val (.ref b34), .val (.ref b54), .val (.ref b63), .val (.ref b76), .val (.ref b87), .val (.int (1 : Int32)), .val (.int sx), .val (.int (0 : Int32)), .val (.ref xr173), .unset] [(.int (0 : Int32))])) ?_ (fun t k => XS.iload X184.here hx rfl (hb hby at_337) rfl k)
  refine Gen.on (b := T184.setTop (mkF m 340 #[.val (.int p1), .val (.int p2), .val (.int p3), .val (.int pp), .val (.int nsx), .val (.int c0), .val (.int c1), .val (.int e0), .val (.int e1), .val (.ref b3), .val (.ref b10), .val (.ref b18), .val (.ref b34), .val (.ref b54), .val (.ref b63), .val (.ref b76), .val (.ref b87), .val (.int (1 : Int32)), .val (.int sx), .val (.int (0 : Int32)), .val (.ref xr173), .unset] [(.int (1 : Int32)), (.int (0 : Int32))])) ?_ (fun t k => XS.iconst X184.here hx rfl (hb hby at_339) k)
  refine Gen.on (b := T184.setTop (mkF m 357 #[.val (.int p1), .val (.int p2), .val (.int p3), .val (.int pp), .val (.int nsx), .val (.int c0), .val (.int c1), .val (.int e0), .val (.int e1), .val (.ref b3), .val (.ref b10), .val (.ref b18), .val (.ref b34), .val (.ref b54), .val (.ref b63), .val (.ref b76), .val (.ref b87), .val (.int (1 : Int32)), .val (.int sx), .val (.int (0 : Int32)), .val (.ref xr173), .unset] [])) ?_ (fun t k => XS.icmpYes X184.here hx rfl (pc0 := 340) (pc' := 357) rfl (hb hby at_340) rfl (tlt (by decide : (0 : Int32) < (1 : Int32))).1 (by decide) (by decide) k)
  refine Gen.on (b := T184.setTop (mkF m 359 #[.val (.int p1), .val (.int p2), .val (.int p3), .val (.int pp), .val (.int nsx), .val (.int c0), .val (.int c1), .val (.int e0), .val (.int e1), .val (.ref b3), .val (.ref b10), .val (.ref b18), .val (.ref b34), .val (.ref b54), .val (.ref b63), .val (.ref b76), .val (.ref b87), .val (.int (1 : Int32)), .val (.int sx), .val (.int (0 : Int32)), .val (.ref xr173), .unset] [(.int (0 : Int32))])) ?_ (fun t k => XS.iload X184.here hx rfl (hb hby at_357) rfl k)
  refine Gen.on (b := T184.setTop (mkF m 360 #[.val (.int p1), .val (.int p2), .val (.int p3), .val (.int pp), .val (.int nsx), .val (.int c0), .val (.int c1), .val (.int e0), .val (.int e1), .val (.ref b3), .val (.ref b10), .val (.ref b18), .val (.ref b34), .val (.ref b54), .val (.ref b63), .val (.ref b76), .val (.ref b87), .val (.int (1 : Int32)), .val (.int sx), .val (.int (0 : Int32)), .val (.ref xr173), .unset] [(.int (2 : Int32)), (.int (0 : Int32))])) ?_ (fun t k => XS.iconst X184.here hx rfl (hb hby at_359) k)
  refine Gen.on (b := T184.setTop (mkF m 379 #[.val (.int p1), .val (.int p2), .val (.int p3), .val (.int pp), .val (.int nsx), .val (.int c0), .val (.int c1), .val (.int e0), .val (.int e1), .val (.ref b3), .val (.ref b10), .val (.ref b18), .val (.ref b34), .val (.ref b54), .val (.ref b63), .val (.ref b76), .val (.ref b87), .val (.int (1 : Int32)), .val (.int sx), .val (.int (0 : Int32)), .val (.ref xr173), .unset] [])) ?_ (fun t k => XS.icmpYes X184.here hx rfl (pc0 := 360) (pc' := 379) rfl (hb hby at_360) rfl (tlt (by decide : (0 : Int32) < (2 : Int32))).1 (by decide) (by decide) k)
  refine Gen.on (b := T184.setTop (mkF m 380 #[.val (.int p1), .val (.int p2), .val (.int p3), .val (.int pp), .val (.int nsx), .val (.int c0), .val (.int c1), .val (.int e0), .val (.int e1), .val (.ref b3), .val (.ref b10), .val (.ref b18), .val (.ref b34), .val (.ref b54), .val (.ref b63), .val (.ref b76), .val (.ref b87), .val (.int (1 : Int32)), .val (.int sx), .val (.int (0 : Int32)), .val (.ref xr173), .unset] [(.int (1 : Int32))])) ?_ (fun t k => XS.iconst X184.here hx rfl (hb hby at_379) k)
  refine Gen.on (b := T184.setTop (mkF m 384 #[.val (.int p1), .val (.int p2), .val (.int p3), .val (.int pp), .val (.int nsx), .val (.int c0), .val (.int c1), .val (.int e0), .val (.int e1), .val (.ref b3), .val (.ref b10), .val (.ref b18), .val (.ref b34), .val (.ref b54), .val (.ref b63), .val (.ref b76), .val (.ref b87), .val (.int (1 : Int32)), .val (.int sx), .val (.int (0 : Int32)), .val (.ref xr173), .unset] [(.int (1 : Int32))])) ?_ (fun t k => XS.goto X184.here hx rfl (pc0 := 380) (pc' := 384) rfl (hb hby at_380) (by decide) (by decide) k)
  refine Gen.on (b := T184.setTop (mkF m 386 #[.val (.int p1), .val (.int p2), .val (.int p3), .val (.int pp), .val (.int nsx), .val (.int c0), .val (.int c1), .val (.int e0), .val (.int e1), .val (.ref b3), .val (.ref b10), .val (.ref b18), .val (.ref b34), .val (.ref b54), .val (.ref b63), .val (.ref b76), .val (.ref b87), .val (.int (1 : Int32)), .val (.int sx), .val (.int (0 : Int32)), .val (.ref xr173), .val (.int (1 : Int32))] [])) ?_ (fun t k => XS.istore X184.here hx rfl (hb hby at_384) rfl (l' := #[.val (.int p1), .val (.int p2), .val (.int p3), .val (.int pp), .val (.int nsx), .val (.int c0), .val (.int c1), .val (.int e0), .val (.int e1), .val (.ref b3), .val (.ref b10), .val (.ref b18), .val (.ref b34), .val (.ref b54), .val (.ref b63), .val (.ref b76), .val (.ref b87), .val (.int (1 : Int32)), .val (.int sx), .val (.int (0 : Int32)), .val (.ref xr173), .val (.int (1 : Int32))]) rfl k)
  refine Gen.on (b := T184.setTop (mkF m 388 #[.val (.int p1), .val (.int p2), .val (.int p3), .val (.int pp), .val (.int nsx), .val (.int c0), .val (.int c1), .val (.int e0), .val (.int e1), .val (.ref b3), .val (.ref b10), .val (.ref b18), .val (.ref b34), .val (.ref b54), .val (.ref b63), .val (.ref b76), .val (.ref b87), .val (.int (1 : Int32)), .val (.int sx), .val (.int (0 : Int32)), .val (.ref xr173), .val (.int (1 : Int32))] [(.int (1 : Int32))])) ?_ (fun t k => XS.iload X184.here hx rfl (hb hby at_386) rfl k)
  refine Gen.on (b := T184.setTop (mkF m 391 #[.val (.int p1), .val (.int p2), .val (.int p3), .val (.int pp), .val (.int nsx), .val (.int c0), .val (.int c1), .val (.int e0), .val (.int e1), .val (.ref b3), .val (.ref b10), .val (.ref b18), .val (.ref b34), .val (.ref b54), .val (.ref b63), .val (.ref b76), .val (.ref b87), .val (.int (1 : Int32)), .val (.int sx), .val (.int (0 : Int32)), .val (.ref xr173), .val (.int (1 : Int32))] [])) ?_ (fun t k => XS.ifNo X184.here hx rfl (hb hby at_388) rfl ((if0 _ _).trans (feq (by decide : ¬ ((1 : Int32) = (0 : Int32)))).1) k)
  refine Gen.on (b := T184.setTop (mkF m 393 #[.val (.int p1), .val (.int p2), .val (.int p3), .val (.int pp), .val (.int nsx), .val (.int c0), .val (.int c1), .val (.int e0), .val (.int e1), .val (.ref b3), .val (.ref b10), .val (.ref b18), .val (.ref b34), .val (.ref b54), .val (.ref b63), .val (.ref b76), .val (.ref b87), .val (.int (1 : Int32)), .val (.int sx), .val (.int (0 : Int32)), .val (.ref xr173), .val (.int (1 : Int32))] [(.int (1 : Int32))])) ?_ (fun t k => XS.iload X184.here hx rfl (hb hby at_391) rfl k)
  refine Gen.on (b := T184.setTop (mkF m 396 #[.val (.int p1), .val (.int p2), .val (.int p3), .val (.int pp), .val (.int nsx), .val (.int c0), .val (.int c1), .val (.int e0), .val (.int e1), .val (.ref b3), .val (.ref b10), .val (.ref b18), .val (.ref b34), .val (.ref b54), .val (.ref b63), .val (.ref b76), .val (.ref b87), .val (.int (1 : Int32)), .val (.int sx), .val (.int (0 : Int32)), .val (.ref xr173), .val (.int (1 : Int32))] [])) ?_ (fun t k => XS.ifNo X184.here hx rfl (hb hby at_393) rfl ((if0 _ _).trans (feq (by decide : ¬ ((1 : Int32) = (0 : Int32)))).1) k)
  refine Gen.on (b := T184.setTop (mkF m 398 #[.val (.int p1), .val (.int p2), .val (.int p3), .val (.int pp), .val (.int nsx), .val (.int c0), .val (.int c1), .val (.int e0), .val (.int e1), .val (.ref b3), .val (.ref b10), .val (.ref b18), .val (.ref b34), .val (.ref b54), .val (.ref b63), .val (.ref b76), .val (.ref b87), .val (.int (1 : Int32)), .val (.int sx), .val (.int (0 : Int32)), .val (.ref xr173), .val (.int (1 : Int32))] [(.ref b87)])) ?_ (fun t k => XS.aload X184.here hx rfl (hb hby at_396) rfl rfl k)
  have fa192 := (hf171_0.keep Kc173)
  have fa193 := (hf171_5.keep Kc173 (ninS ne_b87_m6_97 nin0))
  obtain ⟨cq191, kq191, q191a, q191b, q191c⟩ := isOf hZ e184 fa192
  obtain ⟨_, _, ⟨T191, L191, k191, n191⟩, -, X191, ⟨Lc191, hQ191, l191, y191, z191⟩, st191⟩ := X184.virtualBack hx (y := (⟨"com/example/scheherazade/scheherazade/reader/TagParts", "getAttributeCount", "()I"⟩ : MethodName)) (z := (⟨"com/example/scheherazade/scheherazade/reader/TagParts", "getAttributeCount", "()I"⟩ : MethodName)) hown (mvT hZ (hw _ (List.mem_of_getElem? (i := 91) rfl))) (mvT hZ (hw _ (List.mem_of_getElem? (i := 92) rfl))) (notFace_of_selects (args := #[]) (mvT hZ (hw _ (List.mem_of_getElem? (i := 94) rfl)))) (mvT hZ (hw _ (List.mem_of_getElem? (i := 94) rfl))) (mvT hZ (hw _ (List.mem_of_getElem? (i := 93) rfl))) (by decide) (backOf (W := 0) (rm13 l Z a0 hw [] b87 ((0 : Int32) + (1 : Int32)) T173.heap n0 Z173 fa192 fa193) hZ (hw _ (List.mem_of_getElem? (i := 95) rfl)) (hw _ (List.mem_of_getElem? (i := 32) rfl)) (by decide) (by decide)) q191a q191c (g := (mkF m 398 #[.val (.int p1), .val (.int p2), .val (.int p3), .val (.int pp), .val (.int nsx), .val (.int c0), .val (.int c1), .val (.int e0), .val (.int e1), .val (.ref b3), .val (.ref b10), .val (.ref b18), .val (.ref b34), .val (.ref b54), .val (.ref b63), .val (.ref b76), .val (.ref b87), .val (.int (1 : Int32)), .val (.int sx), .val (.int (0 : Int32)), .val (.ref xr173), .val (.int (1 : Int32))] [(.ref b87)])) rfl (by rw [hml]; rfl) (Steps.refl _) (argsL := []) (rest := []) (lenOf pd_0_7 rfl) rfl (by show 2 * 0 + _ ≤ _; exact Nat.le_of_eq rfl) (hb hby at_398) (fun _ _ => ⟨rfl, e184, (by decide : 23 + 0 ≤ _), (by decide : 72 + 0 ≤ _)⟩)
  dsimp only [Pt.U, Pt.locs, Pt.cells, Pt.slots] at X191 l191 y191 z191 st191 hQ191
  subst l191 y191 z191
  obtain ⟨rfl, N191q, e191⟩ := hQ191
  have N191 := Fr.app N184 N191q
  refine Gen.on (b := T191.setTop (mkF m 401 #[.val (.int p1), .val (.int p2), .val (.int p3), .val (.int pp), .val (.int nsx), .val (.int c0), .val (.int c1), .val (.int e0), .val (.int e1), .val (.ref b3), .val (.ref b10), .val (.ref b18), .val (.ref b34), .val (.ref b54), .val (.ref b63), .val (.ref b76), .val (.ref b87), .val (.int (1 : Int32)), .val (.int sx), .val (.int (0 : Int32)), .val (.ref xr173), .val (.int (1 : Int32))] [(.int ((0 : Int32) + (1 : Int32)))])) ?_ (fun t k => st191.trans k)
  refine Gen.on (b := T191.setTop (mkF m 402 #[.val (.int p1), .val (.int p2), .val (.int p3), .val (.int pp), .val (.int nsx), .val (.int c0), .val (.int c1), .val (.int e0), .val (.int e1), .val (.ref b3), .val (.ref b10), .val (.ref b18), .val (.ref b34), .val (.ref b54), .val (.ref b63), .val (.ref b76), .val (.ref b87), .val (.int (1 : Int32)), .val (.int sx), .val (.int (0 : Int32)), .val (.ref xr173), .val (.int (1 : Int32))] [(.int (1 : Int32)), (.int ((0 : Int32) + (1 : Int32)))])) ?_ (fun t k => XS.iconst X191.here hx rfl (hb hby at_401) k)
  refine Gen.on (b := T191.setTop (mkF m 405 #[.val (.int p1), .val (.int p2), .val (.int p3), .val (.int pp), .val (.int nsx), .val (.int c0), .val (.int c1), .val (.int e0), .val (.int e1), .val (.ref b3), .val (.ref b10), .val (.ref b18), .val (.ref b34), .val (.ref b54), .val (.ref b63), .val (.ref b76), .val (.ref b87), .val (.int (1 : Int32)), .val (.int sx), .val (.int (0 : Int32)), .val (.ref xr173), .val (.int (1 : Int32))] [])) ?_ (fun t k => XS.icmpNo X191.here hx rfl (hb hby at_402) rfl (teq (by decide : ((0 : Int32) + (1 : Int32)) = (1 : Int32))).2 k)
  refine Gen.on (b := T191.setTop (mkF m 406 #[.val (.int p1), .val (.int p2), .val (.int p3), .val (.int pp), .val (.int nsx), .val (.int c0), .val (.int c1), .val (.int e0), .val (.int e1), .val (.ref b3), .val (.ref b10), .val (.ref b18), .val (.ref b34), .val (.ref b54), .val (.ref b63), .val (.ref b76), .val (.ref b87), .val (.int (1 : Int32)), .val (.int sx), .val (.int (0 : Int32)), .val (.ref xr173), .val (.int (1 : Int32))] [(.int (1 : Int32))])) ?_ (fun t k => XS.iconst X191.here hx rfl (hb hby at_405) k)
  refine Gen.on (b := T191.setTop (mkF m 410 #[.val (.int p1), .val (.int p2), .val (.int p3), .val (.int pp), .val (.int nsx), .val (.int c0), .val (.int c1), .val (.int e0), .val (.int e1), .val (.ref b3), .val (.ref b10), .val (.ref b18), .val (.ref b34), .val (.ref b54), .val (.ref b63), .val (.ref b76), .val (.ref b87), .val (.int (1 : Int32)), .val (.int sx), .val (.int (0 : Int32)), .val (.ref xr173), .val (.int (1 : Int32))] [(.int (1 : Int32))])) ?_ (fun t k => XS.goto X191.here hx rfl (pc0 := 406) (pc' := 410) rfl (hb hby at_406) (by decide) (by decide) k)
  refine ownS_retN (t := .boolean) X191 hh hS173 e191 (Nat.le_refl T173.heap.size) hZ hEL CH173 hx hret (by simp) (by decide) (hb hby at_410) (by decide) (by decide) ?_
  exact ⟨rfl, N191⟩
set_option maxRecDepth 65536 in
set_option maxHeartbeats 40000000 in
theorem seg211 {p : Program} {l : Launch} {e : Env} {s : State} {m : MethodId} {below : List Frame} {meth : Method} {c : Code} {Z : State} {a0 : Array Value} {locs : List Loc} {kS n0 : Nat} {f0 : Value} {h0 : Heap} {w0 : Int32} {p1 : Int32} {p2 : Int32} {p3 : Int32} {T152 : State} {T140 : State} {b3 : Addr} {e0 : Int32} {e1 : Int32} {b10 : Addr} {c0 : Int32} {c1 : Int32} {b18 : Addr} {b21 : Addr} {b34 : Addr} {b39 : Addr} {b54 : Addr} {b63 : Addr} {b76 : Addr} {b87 : Addr} {m1_97 : Addr} {kq1_97 : ClassId} {m2_97 : Addr} {kq2_97 : ClassId} {pp : Int32} {m3_97 : Addr} {kq3_97 : ClassId} {m4_97 : Addr} {kq4_97 : ClassId} {m5_97 : Addr} {kq5_97 : ClassId} {m6_97 : Addr} {kq6_97 : ClassId} {ln : Int32} {sx : Int32} {nsx : Int32} (hw : ∀ d ∈ tables_1, d.before a0 Z = true) (hx : p.tables.exec = Jvm.exec) (hby : c.code = code) (hml : c.maxLocals = 22) (hret : meth.sig.returnType = ret) (hlocks : meth.locks = false) (hh : s.heap = h0) (sts : Sts Z w0 f0) (hZ : Z.Warmed39 (s.setVm s.vm).vm) (hown : (s.setVm s.vm).vm.findClass "com/example/scheherazade/scheherazade/reader/TagPartsStartPinLaw" = some m.cls) (X152 : Stand p l e room_1 (s.setVm s.vm) m #[(.int p1), (.int p2), (.int p3)] below meth c T152 locs 18 60) (N152 : Fr n0 locs) (Z140 : n0 ≤ T140.heap.size) (hS0 : s.Since s.vm kS) (hk141 : kS ≤ T140.heap.size) (CH141 : CHr Z consts_1 s.vm h0 s.vm T140.heap) (e152 : T152.heap = T140.heap) (fa194 : Old Z n0 T140.heap) (fa195 : Afn Z T140.heap b3 .char (2 : Int32) (own_upd (own_upd (fun _ => 0) (0 : Int32) (nar .char e0)) (1 : Int32) (nar .char e1))) (fa197 : Afn Z T140.heap b10 .char (2 : Int32) (own_y c0 c1)) (fa199 : Exa Z T140.heap b18 "java/lang/String") (fa200 : Afn Z T140.heap b21 .char (1 : Int32) (own_y e0 e0)) (fa202 : Exa Z T140.heap b34 "java/lang/String") (fa203 : Afn Z T140.heap b39 .char (1 : Int32) (own_y c0 c0)) (fa205 : Afn Z T140.heap b54 .char (1 : Int32) (own_upd (fun _ => 0) (0 : Int32) (nar .char e0))) (fa207 : Afn Z T140.heap b63 .char (2 : Int32) (own_upd (own_upd (fun _ => 0) (0 : Int32) (nar .char c0)) (1 : Int32) (nar .char c1))) (fa209 : Afn Z T140.heap b76 .char (1 : Int32) (own_upd (fun _ => 0) (0 : Int32) (nar .char e1))) (hf140_0 : Exa Z T140.heap b87 "com/example/scheherazade/scheherazade/reader/TagParts") (fa143 : Arv Z T140.heap m1_97 kq1_97 (.object "java/lang/String") (4 : Int32) [(.ref b18), .null, .null, .null] .null) (fa144 : Arv Z T140.heap m2_97 kq2_97 .boolean (4 : Int32) [(.int (nar .boolean (if pp = (0 : Int32) then (1 : Int32) else (0 : Int32)))), (.int (0 : Int32)), (.int (0 : Int32)), (.int (0 : Int32))] (.int (0 : Int32))) (fa145 : Arv Z T140.heap m3_97 kq3_97 (.array .char) (4 : Int32) [(.ref b76), .null, .null, .null] .null) (fa146 : Arv Z T140.heap m4_97 kq4_97 .int (4 : Int32) [(.int (0 : Int32)), (.int (0 : Int32)), (.int (0 : Int32)), (.int (0 : Int32))] (.int (0 : Int32))) (fa147 : Arv Z T140.heap m5_97 kq5_97 .int (4 : Int32) [(.int (2 : Int32)), (.int (0 : Int32)), (.int (0 : Int32)), (.int (0 : Int32))] (.int (0 : Int32))) (fa148 : Arv Z T140.heap m6_97 kq6_97 (.object "java/lang/String") (4 : Int32) [.null, .null, .null, .null] .null) (hf140_1 : Fld Z T140.heap b87 "com/example/scheherazade/scheherazade/reader/TagParts" "name" "Ljava/lang/String;" (.ref b34)) (hf140_2 : Fld Z T140.heap b87 "com/example/scheherazade/scheherazade/reader/TagParts" "prefixed" "Z" (.int (nar .boolean pp))) (hf140_3 : Fld Z T140.heap b87 "com/example/scheherazade/scheherazade/reader/TagParts" "nameSpelling" "[C" (.ref b63)) (hf140_4 : Fld Z T140.heap b87 "com/example/scheherazade/scheherazade/reader/TagParts" "source" "[C" (.ref b10)) (hf140_5 : Fld Z T140.heap b87 "com/example/scheherazade/scheherazade/reader/TagParts" "attributeCount" "I" (.int (0 : Int32))) (hf140_6 : Fld Z T140.heap b87 "com/example/scheherazade/scheherazade/reader/TagParts" "attributeNames" "[Ljava/lang/String;" (.ref m1_97)) (hf140_7 : Fld Z T140.heap b87 "com/example/scheherazade/scheherazade/reader/TagParts" "attributePrefixes" "[Z" (.ref m2_97)) (hf140_8 : Fld Z T140.heap b87 "com/example/scheherazade/scheherazade/reader/TagParts" "attributeSpellings" "[[C" (.ref m3_97)) (hf140_9 : Fld Z T140.heap b87 "com/example/scheherazade/scheherazade/reader/TagParts" "valueStarts" "[I" (.ref m4_97)) (hf140_10 : Fld Z T140.heap b87 "com/example/scheherazade/scheherazade/reader/TagParts" "valueLengths" "[I" (.ref m5_97)) (hf140_11 : Fld Z T140.heap b87 "com/example/scheherazade/scheherazade/reader/TagParts" "attributeValues" "[Ljava/lang/String;" (.ref m6_97)) (sf141_b18 : Safe Z consts_1 s.vm T140.heap b18) (sf141_b34 : Safe Z consts_1 s.vm T140.heap b34) (ne_b3_b87 : b3 ≠ b87) (ne_b10_b87 : b10 ≠ b87) (ne_b21_b87 : b21 ≠ b87) (ne_b39_b87 : b39 ≠ b87) (ne_b54_b87 : b54 ≠ b87) (ne_b63_b87 : b63 ≠ b87) (ne_b76_b87 : b76 ≠ b87) (ne_b3_m1_97 : b3 ≠ m1_97) (ne_b10_m1_97 : b10 ≠ m1_97) (ne_b21_m1_97 : b21 ≠ m1_97) (ne_b39_m1_97 : b39 ≠ m1_97) (ne_b54_m1_97 : b54 ≠ m1_97) (ne_b63_m1_97 : b63 ≠ m1_97) (ne_b76_m1_97 : b76 ≠ m1_97) (ne_b87_m1_97 : b87 ≠ m1_97) (ne_b3_m2_97 : b3 ≠ m2_97) (ne_b10_m2_97 : b10 ≠ m2_97) (ne_b21_m2_97 : b21 ≠ m2_97) (ne_b39_m2_97 : b39 ≠ m2_97) (ne_b54_m2_97 : b54 ≠ m2_97) (ne_b63_m2_97 : b63 ≠ m2_97) (ne_b76_m2_97 : b76 ≠ m2_97) (ne_b87_m2_97 : b87 ≠ m2_97) (ne_b3_m3_97 : b3 ≠ m3_97) (ne_b10_m3_97 : b10 ≠ m3_97) (ne_b21_m3_97 : b21 ≠ m3_97) (ne_b39_m3_97 : b39 ≠ m3_97) (ne_b54_m3_97 : b54 ≠ m3_97) (ne_b63_m3_97 : b63 ≠ m3_97) (ne_b76_m3_97 : b76 ≠ m3_97) (ne_b87_m3_97 : b87 ≠ m3_97) (ne_b3_m4_97 : b3 ≠ m4_97) (ne_b10_m4_97 : b10 ≠ m4_97) (ne_b21_m4_97 : b21 ≠ m4_97) (ne_b39_m4_97 : b39 ≠ m4_97) (ne_b54_m4_97 : b54 ≠ m4_97) (ne_b63_m4_97 : b63 ≠ m4_97) (ne_b76_m4_97 : b76 ≠ m4_97) (ne_b87_m4_97 : b87 ≠ m4_97) (ne_b3_m5_97 : b3 ≠ m5_97) (ne_b10_m5_97 : b10 ≠ m5_97) (ne_b21_m5_97 : b21 ≠ m5_97) (ne_b39_m5_97 : b39 ≠ m5_97) (ne_b54_m5_97 : b54 ≠ m5_97) (ne_b63_m5_97 : b63 ≠ m5_97) (ne_b76_m5_97 : b76 ≠ m5_97) (ne_b87_m5_97 : b87 ≠ m5_97) (ne_b3_m6_97 : b3 ≠ m6_97) (ne_b10_m6_97 : b10 ≠ m6_97) (ne_b21_m6_97 : b21 ≠ m6_97) (ne_b39_m6_97 : b39 ≠ m6_97) (ne_b54_m6_97 : b54 ≠ m6_97) (ne_b63_m6_97 : b63 ≠ m6_97) (ne_b76_m6_97 : b76 ≠ m6_97) (ne_b87_m6_97 : b87 ≠ m6_97) (ne_m1_97_m2_97 : m1_97 ≠ m2_97) (ne_m1_97_m3_97 : m1_97 ≠ m3_97) (ne_m1_97_m4_97 : m1_97 ≠ m4_97) (ne_m1_97_m5_97 : m1_97 ≠ m5_97) (ne_m1_97_m6_97 : m1_97 ≠ m6_97) (ne_m2_97_m3_97 : m2_97 ≠ m3_97) (ne_m2_97_m4_97 : m2_97 ≠ m4_97) (ne_m2_97_m5_97 : m2_97 ≠ m5_97) (ne_m2_97_m6_97 : m2_97 ≠ m6_97) (ne_m3_97_m4_97 : m3_97 ≠ m4_97) (ne_m3_97_m5_97 : m3_97 ≠ m5_97) (ne_m3_97_m6_97 : m3_97 ≠ m6_97) (ne_m4_97_m5_97 : m4_97 ≠ m5_97) (ne_m4_97_m6_97 : m4_97 ≠ m6_97) (ne_m5_97_m6_97 : m5_97 ≠ m6_97) (g_b87 : n0 ≤ b87) (g_m1_97 : n0 ≤ m1_97) (g_m2_97 : n0 ≤ m2_97) (g_m3_97 : n0 ≤ m3_97) (g_m4_97 : n0 ≤ m4_97) (g_m5_97 : n0 ≤ m5_97) (g_m6_97 : n0 ≤ m6_97) (hz : ¬ (ln = (0 : Int32))) (ov1_97 : Ovr Z kq1_97 "java/lang/String") (ov3_97 : OvrA Z kq3_97 .char "[C") (ov6_97 : Ovr Z kq6_97 "java/lang/String") (k_kl : own_kl sx ln) (k_c0 : own_c8 c0) (k_c1 : own_c8 c1) :
    OwnS Z consts_1 p e below s (Q0 n0) room_1.cells room_1.slots (T152.setTop (mkF m 306 #[.val (.int p1), .val (.int p2), .val (.int p3), .val (.int pp), .val (.int nsx), .val (.int c0), .val (.int c1), .val (.int e0), .val (.int e1), .val (.ref b3), .val (.ref b10), .val (.ref b18), .val (.ref b34), .val (.ref b54), .val (.ref b63), .val (.ref b76), .val (.ref b87), .val (.int (1 : Int32)), .val (.int sx), .val (.int ln), .unset, .unset] [])) := by
  obtain ⟨SC, hw0, SF, hf0⟩ := id sts
  have hEL : EW Z a0 consts_1 := own_hEL hw
  have wS := own_wS hw
  refine Gen.on (b := T152.setTop (mkF m 308 #[.val (.int p1), .val (.int p2), .val (.int p3), .val (.int pp), .val (.int nsx), .val (.int c0), .val (.int c1), .val (.int e0), .val (.int e1), .val (.ref b3), .val (.ref b10), .val (.ref b18), .val (.ref b34), .val (.ref b54), .val (.ref b63), .val (.ref b76), .val (.ref b87), .val (.int (1 : Int32)), .val (.int sx), .val (.int ln), .unset, .unset] [(.ref b87)])) ?_ (fun t k => XS.aload X152.here hx rfl (hb hby at_306) rfl rfl k)
  refine Gen.on (b := T152.setTop (mkF m 310 #[.val (.int p1), .val (.int p2), .val (.int p3), .val (.int pp), .val (.int nsx), .val (.int c0), .val (.int c1), .val (.int e0), .val (.int e1), .val (.ref b3), .val (.ref b10), .val (.ref b18), .val (.ref b34), .val (.ref b54), .val (.ref b63), .val (.ref b76), .val (.ref b87), .val (.int (1 : Int32)), .val (.int sx), .val (.int ln), .unset, .unset] [(.ref b34), (.ref b87)])) ?_ (fun t k => XS.aload X152.here hx rfl (hb hby at_308) rfl rfl k)
  refine Gen.on (b := T152.setTop (mkF m 311 #[.val (.int p1), .val (.int p2), .val (.int p3), .val (.int pp), .val (.int nsx), .val (.int c0), .val (.int c1), .val (.int e0), .val (.int e1), .val (.ref b3), .val (.ref b10), .val (.ref b18), .val (.ref b34), .val (.ref b54), .val (.ref b63), .val (.ref b76), .val (.ref b87), .val (.int (1 : Int32)), .val (.int sx), .val (.int ln), .unset, .unset] [(.int pp), (.ref b34), (.ref b87)])) ?_ (fun t k => XS.iloadN X152.here hx rfl (hb hby at_310) rfl k)
  refine Gen.on (b := T152.setTop (mkF m 312 #[.val (.int p1), .val (.int p2), .val (.int p3), .val (.int pp), .val (.int nsx), .val (.int c0), .val (.int c1), .val (.int e0), .val (.int e1), .val (.ref b3), .val (.ref b10), .val (.ref b18), .val (.ref b34), .val (.ref b54), .val (.ref b63), .val (.ref b76), .val (.ref b87), .val (.int (1 : Int32)), .val (.int sx), .val (.int ln), .unset, .unset] [.null, (.int pp), (.ref b34), (.ref b87)])) ?_ (fun t k => XS.aconstNull X152.here hx rfl (hb hby at_311) k)
  refine Gen.on (b := T152.setTop (mkF m 314 #[.val (.int p1), .val (.int p2), .val (.int p3), .val (.int pp), .val (.int nsx), .val (.int c0), .val (.int c1), .val (.int e0), .val (.int e1), .val (.ref b3), .val (.ref b10), .val (.ref b18), .val (.ref b34), .val (.ref b54), .val (.ref b63), .val (.ref b76), .val (.ref b87), .val (.int (1 : Int32)), .val (.int sx), .val (.int ln), .unset, .unset] [(.int sx), .null, (.int pp), (.ref b34), (.ref b87)])) ?_ (fun t k => XS.iload X152.here hx rfl (hb hby at_312) rfl k)
  refine Gen.on (b := T152.setTop (mkF m 316 #[.val (.int p1), .val (.int p2), .val (.int p3), .val (.int pp), .val (.int nsx), .val (.int c0), .val (.int c1), .val (.int e0), .val (.int e1), .val (.ref b3), .val (.ref b10), .val (.ref b18), .val (.ref b34), .val (.ref b54), .val (.ref b63), .val (.ref b76), .val (.ref b87), .val (.int (1 : Int32)), .val (.int sx), .val (.int ln), .unset, .unset] [(.int ln), (.int sx), .null, (.int pp), (.ref b34), (.ref b87)])) ?_ (fun t k => XS.iload X152.here hx rfl (hb hby at_314) rfl k)
  obtain ⟨cq212, kq212, q212a, q212b, q212c⟩ := isOf hZ e152 hf140_0
  obtain ⟨_, _, ⟨T212, L212, k212, n212⟩, -, X212, ⟨Lc212, hQ212, l212, y212, z212⟩, st212⟩ := X152.virtualBack hx (y := (⟨"com/example/scheherazade/scheherazade/reader/TagParts", "addAttribute", "(Ljava/lang/String;Z[CII)V"⟩ : MethodName)) (z := (⟨"com/example/scheherazade/scheherazade/reader/TagParts", "addAttribute", "(Ljava/lang/String;Z[CII)V"⟩ : MethodName)) hown (mvT hZ (hw _ (List.mem_of_getElem? (i := 70) rfl))) (mvT hZ (hw _ (List.mem_of_getElem? (i := 71) rfl))) (notFace_of_selects (args := #[]) (mvT hZ (hw _ (List.mem_of_getElem? (i := 73) rfl)))) (mvT hZ (hw _ (List.mem_of_getElem? (i := 73) rfl))) (mvT hZ (hw _ (List.mem_of_getElem? (i := 72) rfl))) (by decide) (backOf (W := 0) (rm9n l Z a0 hw [] b87 b34 pp sx ln (.ref b34) (.int (nar .boolean pp)) (.ref b63) (.ref b10) m1_97 m2_97 m3_97 m4_97 m5_97 m6_97 kq1_97 kq2_97 kq3_97 kq4_97 kq5_97 kq6_97 (.ref b18) (nar .boolean (if pp = (0 : Int32) then (1 : Int32) else (0 : Int32))) (.ref b76) (0 : Int32) (2 : Int32) .null T140.heap n0 Z140 hf140_0 fa202 hf140_1 hf140_2 hf140_3 hf140_4 hf140_5 hf140_6 hf140_7 hf140_8 hf140_9 hf140_10 hf140_11 fa143 fa144 fa145 fa146 fa147 fa148 g_b87 g_m1_97 g_m2_97 g_m3_97 g_m4_97 g_m5_97 g_m6_97 ne_b87_m1_97 ne_b87_m2_97 ne_b87_m3_97 ne_b87_m4_97 ne_b87_m5_97 ne_b87_m6_97 ne_m1_97_m2_97 ne_m1_97_m3_97 ne_m1_97_m4_97 ne_m1_97_m5_97 ne_m1_97_m6_97 ne_m2_97_m3_97 ne_m2_97_m4_97 ne_m2_97_m5_97 ne_m2_97_m6_97 ne_m3_97_m4_97 ne_m3_97_m5_97 ne_m3_97_m6_97 ne_m4_97_m5_97 ne_m4_97_m6_97 ne_m5_97_m6_97 (ov1_97) (ov3_97) (ov6_97)) hZ (hw _ (List.mem_of_getElem? (i := 74) rfl)) (hw _ (List.mem_of_getElem? (i := 32) rfl)) (by decide) (by decide)) q212a q212c (g := (mkF m 316 #[.val (.int p1), .val (.int p2), .val (.int p3), .val (.int pp), .val (.int nsx), .val (.int c0), .val (.int c1), .val (.int e0), .val (.int e1), .val (.ref b3), .val (.ref b10), .val (.ref b18), .val (.ref b34), .val (.ref b54), .val (.ref b63), .val (.ref b76), .val (.ref b87), .val (.int (1 : Int32)), .val (.int sx), .val (.int ln), .unset, .unset] [(.int ln), (.int sx), .null, (.int pp), (.ref b34), (.ref b87)])) rfl (by rw [hml]; rfl) (Steps.refl _) (argsL := [(.ref b34), (.int pp), .null, (.int sx), (.int ln)]) (rest := []) (lenOf pd_0_3 rfl) rfl (by show 2 * 0 + _ ≤ _; exact Nat.le_of_eq rfl) (hb hby at_316) (fun _ _ => ⟨rfl, e152, (by decide : 18 + 0 ≤ _), (by decide : 60 + 0 ≤ _)⟩)
  dsimp only [Pt.U, Pt.locs, Pt.cells, Pt.slots] at X212 l212 y212 z212 st212 hQ212
  subst l212 y212 z212
  obtain ⟨rfl, N212q, Kc212, hf212_0, hf212_1, hf212_2, hf212_3, hf212_4, hf212_5, hf212_6, hf212_7, hf212_8, hf212_9, hf212_10, hf212_11, hf212_12, hf212_13, hf212_14, hf212_15, hf212_16, hf212_17⟩ := hQ212
  have N212 := Fr.app N152 N212q
  have sf213_b18 := Safe.keep Kc212 (sfS (Safe.exa hZ.alike hf140_0 (by decide) (by decide)) (sfS (Safe.arv hZ.alike fa143 (by decide)) (sfS (Safe.arv hZ.alike fa144 (by decide)) (sfS (Safe.arv hZ.alike fa145 (by decide)) (sfS (Safe.arv hZ.alike fa146 (by decide)) (sfS (Safe.arv hZ.alike fa147 (by decide)) (sfS (Safe.arv hZ.alike fa148 (by decide)) sf0))))))) CH141.1 sf141_b18
  have sf213_b34 := Safe.keep Kc212 (sfS (Safe.exa hZ.alike hf140_0 (by decide) (by decide)) (sfS (Safe.arv hZ.alike fa143 (by decide)) (sfS (Safe.arv hZ.alike fa144 (by decide)) (sfS (Safe.arv hZ.alike fa145 (by decide)) (sfS (Safe.arv hZ.alike fa146 (by decide)) (sfS (Safe.arv hZ.alike fa147 (by decide)) (sfS (Safe.arv hZ.alike fa148 (by decide)) sf0))))))) CH141.1 sf141_b34
  have CH213 := CHr.trans CH141 (CHr.keep Kc212 (sfS (Safe.exa hZ.alike hf140_0 (by decide) (by decide)) (sfS (Safe.arv hZ.alike fa143 (by decide)) (sfS (Safe.arv hZ.alike fa144 (by decide)) (sfS (Safe.arv hZ.alike fa145 (by decide)) (sfS (Safe.arv hZ.alike fa146 (by decide)) (sfS (Safe.arv hZ.alike fa147 (by decide)) (sfS (Safe.arv hZ.alike fa148 (by decide)) sf0))))))) CH141.1)
  have hk213 := Nat.le_trans hk141 Kc212.1
  have Z212 : n0 ≤ T212.heap.size := Nat.le_trans Z140 Kc212.1
  refine Gen.on (b := T212.setTop (mkF m 319 #[.val (.int p1), .val (.int p2), .val (.int p3), .val (.int pp), .val (.int nsx), .val (.int c0), .val (.int c1), .val (.int e0), .val (.int e1), .val (.ref b3), .val (.ref b10), .val (.ref b18), .val (.ref b34), .val (.ref b54), .val (.ref b63), .val (.ref b76), .val (.ref b87), .val (.int (1 : Int32)), .val (.int sx), .val (.int ln), .unset, .unset] [])) ?_ (fun t k => st212.trans k)
  refine Gen.on (b := T212.setTop (mkF m 321 #[.val (.int p1), .val (.int p2), .val (.int p3), .val (.int pp), .val (.int nsx), .val (.int c0), .val (.int c1), .val (.int e0), .val (.int e1), .val (.ref b3), .val (.ref b10), .val (.ref b18), .val (.ref b34), .val (.ref b54), .val (.ref b63), .val (.ref b76), .val (.ref b87), .val (.int (1 : Int32)), .val (.int sx), .val (.int ln), .unset, .unset] [(.ref b87)])) ?_ (fun t k => XS.aload X212.here hx rfl (hb hby at_319) rfl rfl k)
  refine Gen.on (b := T212.setTop (mkF m 322 #[.val (.int p1), .val (.int p2), .val (.int p3), .val (.int pp), .val (.int nsx), .val (.int c0), .val (.int c1), .val (.int e0), .val (.int e1), .val (.ref b3), .val (.ref b10), .val (.ref b18), .val (.ref b34), .val (.ref b54), .val (.ref b63), .val (.ref b76), .val (.ref b87), .val (.int (1 : Int32)), .val (.int sx), .val (.int ln), .unset, .unset] [(.int (0 : Int32)), (.ref b87)])) ?_ (fun t k => XS.iconst X212.here hx rfl (hb hby at_321) k)
  have fa215 := (fa195.keep Kc212 (ninS ne_b3_b87 (ninS ne_b3_m1_97 (ninS ne_b3_m2_97 (ninS ne_b3_m3_97 (ninS ne_b3_m4_97 (ninS ne_b3_m5_97 (ninS ne_b3_m6_97 nin0))))))))
  have fa216 := (fa197.keep Kc212 (ninS ne_b10_b87 (ninS ne_b10_m1_97 (ninS ne_b10_m2_97 (ninS ne_b10_m3_97 (ninS ne_b10_m4_97 (ninS ne_b10_m5_97 (ninS ne_b10_m6_97 nin0))))))))
  have fa217 := (fa199.keep Kc212)
  have fa218 := (fa200.keep Kc212 (ninS ne_b21_b87 (ninS ne_b21_m1_97 (ninS ne_b21_m2_97 (ninS ne_b21_m3_97 (ninS ne_b21_m4_97 (ninS ne_b21_m5_97 (ninS ne_b21_m6_97 nin0))))))))
  have fa219 := (fa202.keep Kc212)
  have fa220 := (fa203.keep Kc212 (ninS ne_b39_b87 (ninS ne_b39_m1_97 (ninS ne_b39_m2_97 (ninS ne_b39_m3_97 (ninS ne_b39_m4_97 (ninS ne_b39_m5_97 (ninS ne_b39_m6_97 nin0))))))))
  have fa221 := (fa205.keep Kc212 (ninS ne_b54_b87 (ninS ne_b54_m1_97 (ninS ne_b54_m2_97 (ninS ne_b54_m3_97 (ninS ne_b54_m4_97 (ninS ne_b54_m5_97 (ninS ne_b54_m6_97 nin0))))))))
  have fa222 := (fa207.keep Kc212 (ninS ne_b63_b87 (ninS ne_b63_m1_97 (ninS ne_b63_m2_97 (ninS ne_b63_m3_97 (ninS ne_b63_m4_97 (ninS ne_b63_m5_97 (ninS ne_b63_m6_97 nin0))))))))
  have fa223 := (fa209.keep Kc212 (ninS ne_b76_b87 (ninS ne_b76_m1_97 (ninS ne_b76_m2_97 (ninS ne_b76_m3_97 (ninS ne_b76_m4_97 (ninS ne_b76_m5_97 (ninS ne_b76_m6_97 nin0))))))))
  have fa224 := (fa194.keep Kc212 (allS g_b87 (allS g_m1_97 (allS g_m2_97 (allS g_m3_97 (allS g_m4_97 (allS g_m5_97 (allS g_m6_97 all0))))))))
  obtain ⟨cq214, kq214, q214a, q214b, q214c⟩ := isOf hZ rfl hf212_0
  obtain ⟨_, _, ⟨T214, L214, k214, n214⟩, -, X214, ⟨Lc214, hQ214, l214, y214, z214⟩, st214⟩ := X212.virtualBack hx (y := (⟨"com/example/scheherazade/scheherazade/reader/TagParts", "getAttributeValue", "(I)Ljava/lang/String;"⟩ : MethodName)) (z := (⟨"com/example/scheherazade/scheherazade/reader/TagParts", "getAttributeValue", "(I)Ljava/lang/String;"⟩ : MethodName)) hown (mvT hZ (hw _ (List.mem_of_getElem? (i := 101) rfl))) (mvT hZ (hw _ (List.mem_of_getElem? (i := 102) rfl))) (notFace_of_selects (args := #[]) (mvT hZ (hw _ (List.mem_of_getElem? (i := 104) rfl)))) (mvT hZ (hw _ (List.mem_of_getElem? (i := 104) rfl))) (mvT hZ (hw _ (List.mem_of_getElem? (i := 103) rfl))) (by decide) (backOf (W := 0) (rm15 l Z a0 hw [] b87 m4_97 m5_97 m6_97 b10 (2 : Int32) (own_y c0 c1) kq4_97 kq5_97 kq6_97 sx ln w0 f0 T212.heap n0 Z212 hf212_0 hf212_9 hf212_10 hf212_11 hf212_4 fa216 hf212_15 hf212_16 hf212_17 fa224 g_m6_97 ne_b87_m6_97 ne_b10_m6_97 ne_m4_97_m6_97 ne_m5_97_m6_97 (own_co1 k_kl) (own_co2 k_kl) (sts) (ov6_97) (own_l0 k_kl) (own_cap k_kl) (own_hin2 k_kl k_c0 k_c1) (hz)) hZ (hw _ (List.mem_of_getElem? (i := 105) rfl)) (hw _ (List.mem_of_getElem? (i := 32) rfl)) (by decide) (by decide)) q214a q214c (g := (mkF m 322 #[.val (.int p1), .val (.int p2), .val (.int p3), .val (.int pp), .val (.int nsx), .val (.int c0), .val (.int c1), .val (.int e0), .val (.int e1), .val (.ref b3), .val (.ref b10), .val (.ref b18), .val (.ref b34), .val (.ref b54), .val (.ref b63), .val (.ref b76), .val (.ref b87), .val (.int (1 : Int32)), .val (.int sx), .val (.int ln), .unset, .unset] [(.int (0 : Int32)), (.ref b87)])) rfl (by rw [hml]; rfl) (Steps.refl _) (argsL := [(.int (0 : Int32))]) (rest := []) (lenOf pd_0_9 rfl) rfl (by show 2 * 0 + _ ≤ _; exact Nat.le_of_eq rfl) (hb hby at_322) (fun _ _ => ⟨rfl, rfl, (by decide : 18 + 2 ≤ _), (by decide : 60 + 6 ≤ _)⟩)
  dsimp only [Pt.U, Pt.locs, Pt.cells, Pt.slots] at X214 l214 y214 z214 st214 hQ214
  subst l214 y214 z214
  obtain ⟨xr214, rfl, N214q, Kc214, hf214_0, hf214_1, hf214_2⟩ := hQ214
  have N214 := Fr.app N212 N214q
  have sf225_b18 := Safe.keep Kc214 (sfS (Safe.arv hZ.alike hf212_17 (by decide)) sf0) CH213.1 sf213_b18
  have sf225_b34 := Safe.keep Kc214 (sfS (Safe.arv hZ.alike hf212_17 (by decide)) sf0) CH213.1 sf213_b34
  have CH225 := CHr.trans CH213 (CHr.keep Kc214 (sfS (Safe.arv hZ.alike hf212_17 (by decide)) sf0) CH213.1)
  have hk225 := Nat.le_trans hk213 Kc214.1
  have Z214 : n0 ≤ T214.heap.size := Nat.le_trans Z212 Kc214.1
  obtain ⟨xb214, xv214, xk214, xy214⟩ := hf214_1
  refine Gen.on (b := T214.setTop (mkF m 325 #[.val (.int p1), .val (.int p2), .val (.int p3), .val (.int pp), .val (.int nsx), .val (.int c0), .val (.int c1), .val (.int e0), .val (.int e1), .val (.ref b3), .val (.ref b10), .val (.ref b18), .val (.ref b34), .val (.ref b54), .val (.ref b63), .val (.ref b76), .val (.ref b87), .val (.int (1 : Int32)), .val (.int sx), .val (.int ln), .unset, .unset] [(.ref xr214)])) ?_ (fun t k => st214.trans k)
  refine Gen.on (b := T214.setTop (mkF m 327 #[.val (.int p1), .val (.int p2), .val (.int p3), .val (.int pp), .val (.int nsx), .val (.int c0), .val (.int c1), .val (.int e0), .val (.int e1), .val (.ref b3), .val (.ref b10), .val (.ref b18), .val (.ref b34), .val (.ref b54), .val (.ref b63), .val (.ref b76), .val (.ref b87), .val (.int (1 : Int32)), .val (.int sx), .val (.int ln), .val (.ref xr214), .unset] [])) ?_ (fun t k => XS.astore X214.here hx rfl (hb hby at_325) rfl rfl (l' := #[.val (.int p1), .val (.int p2), .val (.int p3), .val (.int pp), .val (.int nsx), .val (.int c0), .val (.int c1), .val (.int e0), .val (.int e1), .val (.ref b3), .val (.ref b10), .val (.ref b18), .val (.ref b34), .val (.ref b54), .val (.ref b63), .val (.ref b76), .val (.ref b87), .val (.int (1 : Int32)), .val (.int sx), .val (.int ln), .val (.ref xr214), .unset]) rfl k)
  refine Gen.on (b := T214.setTop (mkF m 329 #[.val (.int p1), .val (.int p2), .val (.int p3), .val (.int pp), .val (.int nsx), .val (.int c0), .val (.int c1), .val (.int e0), .val (.int e1), .val (.ref b3), .val (.ref b10), .val (.ref b18), .val (.ref b34), .val (.ref b54), .val (.ref b63), .val (.ref b76), .val (.ref b87), .val (.int (1 : Int32)), .val (.int sx), .val (.int ln), .val (.ref xr214), .unset] [(.ref xr214)])) ?_ (fun t k => XS.aload X214.here hx rfl (hb hby at_327) rfl rfl k)
  have fa227 := (hf212_12.keep Kc214 (ninS ne_m1_97_m6_97 nin0))
  have fa228 := (hf212_13.keep Kc214 (ninS ne_m2_97_m6_97 nin0))
  have fa229 := (hf212_14.keep Kc214 (ninS ne_m3_97_m6_97 nin0))
  have fa230 := (hf212_15.keep Kc214 (ninS ne_m4_97_m6_97 nin0))
  have fa231 := (hf212_16.keep Kc214 (ninS ne_m5_97_m6_97 nin0))
  have fa232 := (fa224.keep Kc214 (allS g_m6_97 all0))
  obtain ⟨cq226, kq226, q226a, q226b, q226c⟩ := isOf hZ rfl hf214_0
  obtain ⟨_, _, ⟨T226, L226, k226, n226⟩, -, X226, ⟨Lc226, hQ226, l226, y226, z226⟩, st226⟩ := X214.virtualBack hx (y := (⟨"java/lang/String", "length", "()I"⟩ : MethodName)) (z := (⟨"java/lang/String", "length", "()I"⟩ : MethodName)) hown (mvT hZ (hw _ (List.mem_of_getElem? (i := 123) rfl))) (mvT hZ (hw _ (List.mem_of_getElem? (i := 124) rfl))) (notFace_of_selects (args := #[]) (mvT hZ (hw _ (List.mem_of_getElem? (i := 126) rfl)))) (mvT hZ (hw _ (List.mem_of_getElem? (i := 126) rfl))) (mvT hZ (hw _ (List.mem_of_getElem? (i := 125) rfl))) (by decide) (backOf (W := 0) (rm20 l Z a0 hw [] xr214 xb214 ln (fun j => own_b ((fun j => (own_y c0 c1) (sx + j)) j)) w0 f0 T214.heap n0 Z214 hf214_0 xv214 xk214 xy214 fa232 (sts)) hZ (hw _ (List.mem_of_getElem? (i := 127) rfl)) (hw _ (List.mem_of_getElem? (i := 3) rfl)) (by decide) (by decide)) q226a q226c (g := (mkF m 329 #[.val (.int p1), .val (.int p2), .val (.int p3), .val (.int pp), .val (.int nsx), .val (.int c0), .val (.int c1), .val (.int e0), .val (.int e1), .val (.ref b3), .val (.ref b10), .val (.ref b18), .val (.ref b34), .val (.ref b54), .val (.ref b63), .val (.ref b76), .val (.ref b87), .val (.int (1 : Int32)), .val (.int sx), .val (.int ln), .val (.ref xr214), .unset] [(.ref xr214)])) rfl (by rw [hml]; rfl) (Steps.refl _) (argsL := []) (rest := []) (lenOf pd_0_7 rfl) rfl (by show 2 * 0 + _ ≤ _; exact Nat.le_of_eq rfl) (hb hby at_329) (fun _ _ => ⟨rfl, rfl, (by decide : 20 + 0 ≤ _), (by decide : 66 + 0 ≤ _)⟩)
  dsimp only [Pt.U, Pt.locs, Pt.cells, Pt.slots] at X226 l226 y226 z226 st226 hQ226
  subst l226 y226 z226
  obtain ⟨rfl, N226q, e226⟩ := hQ226
  have N226 := Fr.app N214 N226q
  refine Gen.on (b := T226.setTop (mkF m 332 #[.val (.int p1), .val (.int p2), .val (.int p3), .val (.int pp), .val (.int nsx), .val (.int c0), .val (.int c1), .val (.int e0), .val (.int e1), .val (.ref b3), .val (.ref b10), .val (.ref b18), .val (.ref b34), .val (.ref b54), .val (.ref b63), .val (.ref b76), .val (.ref b87), .val (.int (1 : Int32)), .val (.int sx), .val (.int ln), .val (.ref xr214), .unset] [(.int ln)])) ?_ (fun t k => st226.trans k)
  refine Gen.on (b := T226.setTop (mkF m 334 #[.val (.int p1), .val (.int p2), .val (.int p3), .val (.int pp), .val (.int nsx), .val (.int c0), .val (.int c1), .val (.int e0), .val (.int e1), .val (.ref b3), .val (.ref b10), .val (.ref b18), .val (.ref b34), .val (.ref b54), .val (.ref b63), .val (.ref b76), .val (.ref b87), .val (.int (1 : Int32)), .val (.int sx), .val (.int ln), .val (.ref xr214), .unset] [(.int ln), (.int ln)])) ?_ (fun t k => XS.iload X226.here hx rfl (hb hby at_332) rfl k)
  refine Gen.on (b := T226.setTop (mkF m 337 #[.val (.int p1), .val (.int p2), .val (.int p3), .val (.int pp), .val (.int nsx), .val (.int c0), .val (.int c1), .val (.int e0), .val (.int e1), .val (.ref b3), .val (.ref b10), .val (.ref b18), .val (.ref b34), .val (.ref b54), .val (.ref b63), .val (.ref b76), .val (.ref b87), .val (.int (1 : Int32)), .val (.int sx), .val (.int ln), .val (.ref xr214), .unset] [])) ?_ (fun t k => XS.icmpNo X226.here hx rfl (hb hby at_334) rfl (teq (rfl : ln = ln)).2 k)
  refine Gen.on (b := T226.setTop (mkF m 339 #[.val (.int p1), .val (.int p2), .val (.int p3), .val (.int pp), .val (.int nsx), .val (.int c0), .val (.int c1), .val (.int e0), .val (.int e1), .val (.ref b3), .val (.ref b10), .val (.ref b18), .val (.ref b34), .val (.ref b54), .val (.ref b63), .val (.ref b76), .val (.ref b87), .val (.int (1 : Int32)), .val (.int sx), .val (.int ln), .val (.ref xr214), .unset] [(.int ln)])) ?_ (fun t k => XS.iload X226.here hx rfl (hb hby at_337) rfl k)
  refine Gen.on (b := T226.setTop (mkF m 340 #[.val (.int p1), .val (.int p2), .val (.int p3), .val (.int pp), .val (.int nsx), .val (.int c0), .val (.int c1), .val (.int e0), .val (.int e1), .val (.ref b3), .val (.ref b10), .val (.ref b18), .val (.ref b34), .val (.ref b54), .val (.ref b63), .val (.ref b76), .val (.ref b87), .val (.int (1 : Int32)), .val (.int sx), .val (.int ln), .val (.ref xr214), .unset] [(.int (1 : Int32)), (.int ln)])) ?_ (fun t k => XS.iconst X226.here hx rfl (hb hby at_339) k)
  refine Gen.on (b := T226.setTop (mkF m 343 #[.val (.int p1), .val (.int p2), .val (.int p3), .val (.int pp), .val (.int nsx), .val (.int c0), .val (.int c1), .val (.int e0), .val (.int e1), .val (.ref b3), .val (.ref b10), .val (.ref b18), .val (.ref b34), .val (.ref b54), .val (.ref b63), .val (.ref b76), .val (.ref b87), .val (.int (1 : Int32)), .val (.int sx), .val (.int ln), .val (.ref xr214), .unset] [])) ?_ (fun t k => XS.icmpNo X226.here hx rfl (hb hby at_340) rfl (flt (own_n1 k_kl hz)).1 k)
  refine Gen.on (b := T226.setTop (mkF m 345 #[.val (.int p1), .val (.int p2), .val (.int p3), .val (.int pp), .val (.int nsx), .val (.int c0), .val (.int c1), .val (.int e0), .val (.int e1), .val (.ref b3), .val (.ref b10), .val (.ref b18), .val (.ref b34), .val (.ref b54), .val (.ref b63), .val (.ref b76), .val (.ref b87), .val (.int (1 : Int32)), .val (.int sx), .val (.int ln), .val (.ref xr214), .unset] [(.ref xr214)])) ?_ (fun t k => XS.aload X226.here hx rfl (hb hby at_343) rfl rfl k)
  refine Gen.on (b := T226.setTop (mkF m 346 #[.val (.int p1), .val (.int p2), .val (.int p3), .val (.int pp), .val (.int nsx), .val (.int c0), .val (.int c1), .val (.int e0), .val (.int e1), .val (.ref b3), .val (.ref b10), .val (.ref b18), .val (.ref b34), .val (.ref b54), .val (.ref b63), .val (.ref b76), .val (.ref b87), .val (.int (1 : Int32)), .val (.int sx), .val (.int ln), .val (.ref xr214), .unset] [(.int (0 : Int32)), (.ref xr214)])) ?_ (fun t k => XS.iconst X226.here hx rfl (hb hby at_345) k)
  obtain ⟨cq233, kq233, q233a, q233b, q233c⟩ := isOf hZ e226 hf214_0
  obtain ⟨_, _, ⟨T233, L233, k233, n233⟩, -, X233, ⟨Lc233, hQ233, l233, y233, z233⟩, st233⟩ := X226.virtualBack hx (y := (⟨"java/lang/String", "charAt", "(I)C"⟩ : MethodName)) (z := (⟨"java/lang/String", "charAt", "(I)C"⟩ : MethodName)) hown (mvT hZ (hw _ (List.mem_of_getElem? (i := 133) rfl))) (mvT hZ (hw _ (List.mem_of_getElem? (i := 134) rfl))) (notFace_of_selects (args := #[]) (mvT hZ (hw _ (List.mem_of_getElem? (i := 136) rfl)))) (mvT hZ (hw _ (List.mem_of_getElem? (i := 136) rfl))) (mvT hZ (hw _ (List.mem_of_getElem? (i := 135) rfl))) (by decide) (backOf (W := 0) (rm22 l Z a0 hw [] xr214 (0 : Int32) xb214 ln (fun j => own_b ((fun j => (own_y c0 c1) (sx + j)) j)) w0 f0 T214.heap n0 Z214 hf214_0 xv214 xk214 xy214 fa232 (by decide) (own_p0 k_kl hz) (sts)) hZ (hw _ (List.mem_of_getElem? (i := 137) rfl)) (hw _ (List.mem_of_getElem? (i := 3) rfl)) (by decide) (by decide)) q233a q233c (g := (mkF m 346 #[.val (.int p1), .val (.int p2), .val (.int p3), .val (.int pp), .val (.int nsx), .val (.int c0), .val (.int c1), .val (.int e0), .val (.int e1), .val (.ref b3), .val (.ref b10), .val (.ref b18), .val (.ref b34), .val (.ref b54), .val (.ref b63), .val (.ref b76), .val (.ref b87), .val (.int (1 : Int32)), .val (.int sx), .val (.int ln), .val (.ref xr214), .unset] [(.int (0 : Int32)), (.ref xr214)])) rfl (by rw [hml]; rfl) (Steps.refl _) (argsL := [(.int (0 : Int32))]) (rest := []) (lenOf pd_0_10 rfl) rfl (by show 2 * 0 + _ ≤ _; exact Nat.le_of_eq rfl) (hb hby at_346) (fun _ _ => ⟨rfl, e226, (by decide : 20 + 0 ≤ _), (by decide : 66 + 0 ≤ _)⟩)
  dsimp only [Pt.U, Pt.locs, Pt.cells, Pt.slots] at X233 l233 y233 z233 st233 hQ233
  subst l233 y233 z233
  obtain ⟨rfl, N233q, e233⟩ := hQ233
  have N233 := Fr.app N226 N233q
  refine Gen.on (b := T233.setTop (mkF m 349 #[.val (.int p1), .val (.int p2), .val (.int p3), .val (.int pp), .val (.int nsx), .val (.int c0), .val (.int c1), .val (.int e0), .val (.int e1), .val (.ref b3), .val (.ref b10), .val (.ref b18), .val (.ref b34), .val (.ref b54), .val (.ref b63), .val (.ref b76), .val (.ref b87), .val (.int (1 : Int32)), .val (.int sx), .val (.int ln), .val (.ref xr214), .unset] [(.int (own_lc ((fun j => own_b ((fun j => (own_y c0 c1) (sx + j)) j)) (0 : Int32))))])) ?_ (fun t k => st233.trans k)
  refine Gen.on (b := T233.setTop (mkF m 351 #[.val (.int p1), .val (.int p2), .val (.int p3), .val (.int pp), .val (.int nsx), .val (.int c0), .val (.int c1), .val (.int e0), .val (.int e1), .val (.ref b3), .val (.ref b10), .val (.ref b18), .val (.ref b34), .val (.ref b54), .val (.ref b63), .val (.ref b76), .val (.ref b87), .val (.int (1 : Int32)), .val (.int sx), .val (.int ln), .val (.ref xr214), .unset] [(.ref b10), (.int (own_lc ((fun j => own_b ((fun j => (own_y c0 c1) (sx + j)) j)) (0 : Int32))))])) ?_ (fun t k => XS.aload X233.here hx rfl (hb hby at_349) rfl rfl k)
  refine Gen.on (b := T233.setTop (mkF m 353 #[.val (.int p1), .val (.int p2), .val (.int p3), .val (.int pp), .val (.int nsx), .val (.int c0), .val (.int c1), .val (.int e0), .val (.int e1), .val (.ref b3), .val (.ref b10), .val (.ref b18), .val (.ref b34), .val (.ref b54), .val (.ref b63), .val (.ref b76), .val (.ref b87), .val (.int (1 : Int32)), .val (.int sx), .val (.int ln), .val (.ref xr214), .unset] [(.int sx), (.ref b10), (.int (own_lc ((fun j => own_b ((fun j => (own_y c0 c1) (sx + j)) j)) (0 : Int32))))])) ?_ (fun t k => XS.iload X233.here hx rfl (hb hby at_351) rfl k)
  have fa234 := (fa216.keep Kc214 (ninS ne_b10_m6_97 nin0))
  obtain ⟨cl235, Ar235, SA235, NA235, HA235⟩ := id fa234
  have hin235 : ¬ (sx < 0 ∨ cl235.slots.size ≤ (sx).toNatClampNeg) := inb_of SA235 ⟨(own_s0 k_kl), (own_s2 k_kl)⟩
  refine Gen.on (b := T233.setTop (mkF m 354 #[.val (.int p1), .val (.int p2), .val (.int p3), .val (.int pp), .val (.int nsx), .val (.int c0), .val (.int c1), .val (.int e0), .val (.int e1), .val (.ref b3), .val (.ref b10), .val (.ref b18), .val (.ref b34), .val (.ref b54), .val (.ref b63), .val (.ref b76), .val (.ref b87), .val (.int (1 : Int32)), .val (.int sx), .val (.int ln), .val (.ref xr214), .unset] [(.int ((own_y c0 c1) sx)), (.int (own_lc ((fun j => own_b ((fun j => (own_y c0 c1) (sx + j)) j)) (0 : Int32))))])) ?_ (fun t k => X233.caload hx (j := sx) (v := (.int ((own_y c0 c1) sx))) (by rw [e233]; exact Ar235.1) (State.isArrayOf_alike hZ.alike Ar235.2.1) Ar235.2.2 hin235 (HA235 _ hin235) (g := (mkF m 353 #[.val (.int p1), .val (.int p2), .val (.int p3), .val (.int pp), .val (.int nsx), .val (.int c0), .val (.int c1), .val (.int e0), .val (.int e1), .val (.ref b3), .val (.ref b10), .val (.ref b18), .val (.ref b34), .val (.ref b54), .val (.ref b63), .val (.ref b76), .val (.ref b87), .val (.int (1 : Int32)), .val (.int sx), .val (.int ln), .val (.ref xr214), .unset] [(.int sx), (.ref b10), (.int (own_lc ((fun j => own_b ((fun j => (own_y c0 c1) (sx + j)) j)) (0 : Int32))))])) rfl rfl (hb hby at_353) t k)
  refine Gen.on (b := T233.setTop (mkF m 357 #[.val (.int p1), .val (.int p2), .val (.int p3), .val (.int pp), .val (.int nsx), .val (.int c0), .val (.int c1), .val (.int e0), .val (.int e1), .val (.ref b3), .val (.ref b10), .val (.ref b18), .val (.ref b34), .val (.ref b54), .val (.ref b63), .val (.ref b76), .val (.ref b87), .val (.int (1 : Int32)), .val (.int sx), .val (.int ln), .val (.ref xr214), .unset] [])) ?_ (fun t k => XS.icmpNo X233.here hx rfl (hb hby at_354) rfl (teq (own_chr0 k_c0 k_c1 sx : (own_lc ((fun j => own_b ((fun j => (own_y c0 c1) (sx + j)) j)) (0 : Int32))) = ((own_y c0 c1) sx))).2 k)
  refine Gen.on (b := T233.setTop (mkF m 359 #[.val (.int p1), .val (.int p2), .val (.int p3), .val (.int pp), .val (.int nsx), .val (.int c0), .val (.int c1), .val (.int e0), .val (.int e1), .val (.ref b3), .val (.ref b10), .val (.ref b18), .val (.ref b34), .val (.ref b54), .val (.ref b63), .val (.ref b76), .val (.ref b87), .val (.int (1 : Int32)), .val (.int sx), .val (.int ln), .val (.ref xr214), .unset] [(.int ln)])) ?_ (fun t k => XS.iload X233.here hx rfl (hb hby at_357) rfl k)
  refine Gen.on (b := T233.setTop (mkF m 360 #[.val (.int p1), .val (.int p2), .val (.int p3), .val (.int pp), .val (.int nsx), .val (.int c0), .val (.int c1), .val (.int e0), .val (.int e1), .val (.ref b3), .val (.ref b10), .val (.ref b18), .val (.ref b34), .val (.ref b54), .val (.ref b63), .val (.ref b76), .val (.ref b87), .val (.int (1 : Int32)), .val (.int sx), .val (.int ln), .val (.ref xr214), .unset] [(.int (2 : Int32)), (.int ln)])) ?_ (fun t k => XS.iconst X233.here hx rfl (hb hby at_359) k)
  by_cases c360_6 : ln < (2 : Int32)
  · refine Gen.on (b := T233.setTop (mkF m 379 #[.val (.int p1), .val (.int p2), .val (.int p3), .val (.int pp), .val (.int nsx), .val (.int c0), .val (.int c1), .val (.int e0), .val (.int e1), .val (.ref b3), .val (.ref b10), .val (.ref b18), .val (.ref b34), .val (.ref b54), .val (.ref b63), .val (.ref b76), .val (.ref b87), .val (.int (1 : Int32)), .val (.int sx), .val (.int ln), .val (.ref xr214), .unset] [])) ?_ (fun t k => XS.icmpYes X233.here hx rfl (pc0 := 360) (pc' := 379) rfl (hb hby at_360) rfl (tlt c360_6).1 (by decide) (by decide) k)
    refine Gen.on (b := T233.setTop (mkF m 380 #[.val (.int p1), .val (.int p2), .val (.int p3), .val (.int pp), .val (.int nsx), .val (.int c0), .val (.int c1), .val (.int e0), .val (.int e1), .val (.ref b3), .val (.ref b10), .val (.ref b18), .val (.ref b34), .val (.ref b54), .val (.ref b63), .val (.ref b76), .val (.ref b87), .val (.int (1 : Int32)), .val (.int sx), .val (.int ln), .val (.ref xr214), .unset] [(.int (1 : Int32))])) ?_ (fun t k => XS.iconst X233.here hx rfl (hb hby at_379) k)
    refine Gen.on (b := T233.setTop (mkF m 384 #[.val (.int p1), .val (.int p2), .val (.int p3), .val (.int pp), .val (.int nsx), .val (.int c0), .val (.int c1), .val (.int e0), .val (.int e1), .val (.ref b3), .val (.ref b10), .val (.ref b18), .val (.ref b34), .val (.ref b54), .val (.ref b63), .val (.ref b76), .val (.ref b87), .val (.int (1 : Int32)), .val (.int sx), .val (.int ln), .val (.ref xr214), .unset] [(.int (1 : Int32))])) ?_ (fun t k => XS.goto X233.here hx rfl (pc0 := 380) (pc' := 384) rfl (hb hby at_380) (by decide) (by decide) k)
    refine Gen.on (b := T233.setTop (mkF m 386 #[.val (.int p1), .val (.int p2), .val (.int p3), .val (.int pp), .val (.int nsx), .val (.int c0), .val (.int c1), .val (.int e0), .val (.int e1), .val (.ref b3), .val (.ref b10), .val (.ref b18), .val (.ref b34), .val (.ref b54), .val (.ref b63), .val (.ref b76), .val (.ref b87), .val (.int (1 : Int32)), .val (.int sx), .val (.int ln), .val (.ref xr214), .val (.int (1 : Int32))] [])) ?_ (fun t k => XS.istore X233.here hx rfl (hb hby at_384) rfl (l' := #[.val (.int p1), .val (.int p2), .val (.int p3), .val (.int pp), .val (.int nsx), .val (.int c0), .val (.int c1), .val (.int e0), .val (.int e1), .val (.ref b3), .val (.ref b10), .val (.ref b18), .val (.ref b34), .val (.ref b54), .val (.ref b63), .val (.ref b76), .val (.ref b87), .val (.int (1 : Int32)), .val (.int sx), .val (.int ln), .val (.ref xr214), .val (.int (1 : Int32))]) rfl k)
    refine Gen.on (b := T233.setTop (mkF m 388 #[.val (.int p1), .val (.int p2), .val (.int p3), .val (.int pp), .val (.int nsx), .val (.int c0), .val (.int c1), .val (.int e0), .val (.int e1), .val (.ref b3), .val (.ref b10), .val (.ref b18), .val (.ref b34), .val (.ref b54), .val (.ref b63), .val (.ref b76), .val (.ref b87), .val (.int (1 : Int32)), .val (.int sx), .val (.int ln), .val (.ref xr214), .val (.int (1 : Int32))] [(.int (1 : Int32))])) ?_ (fun t k => XS.iload X233.here hx rfl (hb hby at_386) rfl k)
    refine Gen.on (b := T233.setTop (mkF m 391 #[.val (.int p1), .val (.int p2), .val (.int p3), .val (.int pp), .val (.int nsx), .val (.int c0), .val (.int c1), .val (.int e0), .val (.int e1), .val (.ref b3), .val (.ref b10), .val (.ref b18), .val (.ref b34), .val (.ref b54), .val (.ref b63), .val (.ref b76), .val (.ref b87), .val (.int (1 : Int32)), .val (.int sx), .val (.int ln), .val (.ref xr214), .val (.int (1 : Int32))] [])) ?_ (fun t k => XS.ifNo X233.here hx rfl (hb hby at_388) rfl ((if0 _ _).trans (feq (by decide : ¬ ((1 : Int32) = (0 : Int32)))).1) k)
    refine Gen.on (b := T233.setTop (mkF m 393 #[.val (.int p1), .val (.int p2), .val (.int p3), .val (.int pp), .val (.int nsx), .val (.int c0), .val (.int c1), .val (.int e0), .val (.int e1), .val (.ref b3), .val (.ref b10), .val (.ref b18), .val (.ref b34), .val (.ref b54), .val (.ref b63), .val (.ref b76), .val (.ref b87), .val (.int (1 : Int32)), .val (.int sx), .val (.int ln), .val (.ref xr214), .val (.int (1 : Int32))] [(.int (1 : Int32))])) ?_ (fun t k => XS.iload X233.here hx rfl (hb hby at_391) rfl k)
    refine Gen.on (b := T233.setTop (mkF m 396 #[.val (.int p1), .val (.int p2), .val (.int p3), .val (.int pp), .val (.int nsx), .val (.int c0), .val (.int c1), .val (.int e0), .val (.int e1), .val (.ref b3), .val (.ref b10), .val (.ref b18), .val (.ref b34), .val (.ref b54), .val (.ref b63), .val (.ref b76), .val (.ref b87), .val (.int (1 : Int32)), .val (.int sx), .val (.int ln), .val (.ref xr214), .val (.int (1 : Int32))] [])) ?_ (fun t k => XS.ifNo X233.here hx rfl (hb hby at_393) rfl ((if0 _ _).trans (feq (by decide : ¬ ((1 : Int32) = (0 : Int32)))).1) k)
    refine Gen.on (b := T233.setTop (mkF m 398 #[.val (.int p1), .val (.int p2), .val (.int p3), .val (.int pp), .val (.int nsx), .val (.int c0), .val (.int c1), .val (.int e0), .val (.int e1), .val (.ref b3), .val (.ref b10), .val (.ref b18), .val (.ref b34), .val (.ref b54), .val (.ref b63), .val (.ref b76), .val (.ref b87), .val (.int (1 : Int32)), .val (.int sx), .val (.int ln), .val (.ref xr214), .val (.int (1 : Int32))] [(.ref b87)])) ?_ (fun t k => XS.aload X233.here hx rfl (hb hby at_396) rfl rfl k)
    have fa237 := (hf212_0.keep Kc214)
    have fa238 := (hf212_5.keep Kc214 (ninS ne_b87_m6_97 nin0))
    obtain ⟨cq236, kq236, q236a, q236b, q236c⟩ := isOf hZ e233 fa237
    obtain ⟨_, _, ⟨T236, L236, k236, n236⟩, -, X236, ⟨Lc236, hQ236, l236, y236, z236⟩, st236⟩ := X233.virtualBack hx (y := (⟨"com/example/scheherazade/scheherazade/reader/TagParts", "getAttributeCount", "()I"⟩ : MethodName)) (z := (⟨"com/example/scheherazade/scheherazade/reader/TagParts", "getAttributeCount", "()I"⟩ : MethodName)) hown (mvT hZ (hw _ (List.mem_of_getElem? (i := 91) rfl))) (mvT hZ (hw _ (List.mem_of_getElem? (i := 92) rfl))) (notFace_of_selects (args := #[]) (mvT hZ (hw _ (List.mem_of_getElem? (i := 94) rfl)))) (mvT hZ (hw _ (List.mem_of_getElem? (i := 94) rfl))) (mvT hZ (hw _ (List.mem_of_getElem? (i := 93) rfl))) (by decide) (backOf (W := 0) (rm13 l Z a0 hw [] b87 ((0 : Int32) + (1 : Int32)) T214.heap n0 Z214 fa237 fa238) hZ (hw _ (List.mem_of_getElem? (i := 95) rfl)) (hw _ (List.mem_of_getElem? (i := 32) rfl)) (by decide) (by decide)) q236a q236c (g := (mkF m 398 #[.val (.int p1), .val (.int p2), .val (.int p3), .val (.int pp), .val (.int nsx), .val (.int c0), .val (.int c1), .val (.int e0), .val (.int e1), .val (.ref b3), .val (.ref b10), .val (.ref b18), .val (.ref b34), .val (.ref b54), .val (.ref b63), .val (.ref b76), .val (.ref b87), .val (.int (1 : Int32)), .val (.int sx), .val (.int ln), .val (.ref xr214), .val (.int (1 : Int32))] [(.ref b87)])) rfl (by rw [hml]; rfl) (Steps.refl _) (argsL := []) (rest := []) (lenOf pd_0_7 rfl) rfl (by show 2 * 0 + _ ≤ _; exact Nat.le_of_eq rfl) (hb hby at_398) (fun _ _ => ⟨rfl, e233, (by decide : 20 + 0 ≤ _), (by decide : 66 + 0 ≤ _)⟩)
    dsimp only [Pt.U, Pt.locs, Pt.cells, Pt.slots] at X236 l236 y236 z236 st236 hQ236
    subst l236 y236 z236
    obtain ⟨rfl, N236q, e236⟩ := hQ236
    have N236 := Fr.app N233 N236q
    refine Gen.on (b := T236.setTop (mkF m 401 #[.val (.int p1), .val (.int p2), .val (.int p3), .val (.int pp), .val (.int nsx), .val (.int c0), .val (.int c1), .val (.int e0), .val (.int e1), .val (.ref b3), .val (.ref b10), .val (.ref b18), .val (.ref b34), .val (.ref b54), .val (.ref b63), .val (.ref b76), .val (.ref b87), .val (.int (1 : Int32)), .val (.int sx), .val (.int ln), .val (.ref xr214), .val (.int (1 : Int32))] [(.int ((0 : Int32) + (1 : Int32)))])) ?_ (fun t k => st236.trans k)
    refine Gen.on (b := T236.setTop (mkF m 402 #[.val (.int p1), .val (.int p2), .val (.int p3), .val (.int pp), .val (.int nsx), .val (.int c0), .val (.int c1), .val (.int e0), .val (.int e1), .val (.ref b3), .val (.ref b10), .val (.ref b18), .val (.ref b34), .val (.ref b54), .val (.ref b63), .val (.ref b76), .val (.ref b87), .val (.int (1 : Int32)), .val (.int sx), .val (.int ln), .val (.ref xr214), .val (.int (1 : Int32))] [(.int (1 : Int32)), (.int ((0 : Int32) + (1 : Int32)))])) ?_ (fun t k => XS.iconst X236.here hx rfl (hb hby at_401) k)
    refine Gen.on (b := T236.setTop (mkF m 405 #[.val (.int p1), .val (.int p2), .val (.int p3), .val (.int pp), .val (.int nsx), .val (.int c0), .val (.int c1), .val (.int e0), .val (.int e1), .val (.ref b3), .val (.ref b10), .val (.ref b18), .val (.ref b34), .val (.ref b54), .val (.ref b63), .val (.ref b76), .val (.ref b87), .val (.int (1 : Int32)), .val (.int sx), .val (.int ln), .val (.ref xr214), .val (.int (1 : Int32))] [])) ?_ (fun t k => XS.icmpNo X236.here hx rfl (hb hby at_402) rfl (teq (by decide : ((0 : Int32) + (1 : Int32)) = (1 : Int32))).2 k)
    refine Gen.on (b := T236.setTop (mkF m 406 #[.val (.int p1), .val (.int p2), .val (.int p3), .val (.int pp), .val (.int nsx), .val (.int c0), .val (.int c1), .val (.int e0), .val (.int e1), .val (.ref b3), .val (.ref b10), .val (.ref b18), .val (.ref b34), .val (.ref b54), .val (.ref b63), .val (.ref b76), .val (.ref b87), .val (.int (1 : Int32)), .val (.int sx), .val (.int ln), .val (.ref xr214), .val (.int (1 : Int32))] [(.int (1 : Int32))])) ?_ (fun t k => XS.iconst X236.here hx rfl (hb hby at_405) k)
    refine Gen.on (b := T236.setTop (mkF m 410 #[.val (.int p1), .val (.int p2), .val (.int p3), .val (.int pp), .val (.int nsx), .val (.int c0), .val (.int c1), .val (.int e0), .val (.int e1), .val (.ref b3), .val (.ref b10), .val (.ref b18), .val (.ref b34), .val (.ref b54), .val (.ref b63), .val (.ref b76), .val (.ref b87), .val (.int (1 : Int32)), .val (.int sx), .val (.int ln), .val (.ref xr214), .val (.int (1 : Int32))] [(.int (1 : Int32))])) ?_ (fun t k => XS.goto X236.here hx rfl (pc0 := 406) (pc' := 410) rfl (hb hby at_406) (by decide) (by decide) k)
    refine ownS_retN (t := .boolean) X236 hh hS0 e236 hk225 hZ hEL CH225 hx hret (by simp) (by decide) (hb hby at_410) (by decide) (by decide) ?_
    exact ⟨rfl, N236⟩
  · refine Gen.on (b := T233.setTop (mkF m 363 #[.val (.int p1), .val (.int p2), .val (.int p3), .val (.int pp), .val (.int nsx), .val (.int c0), .val (.int c1), .val (.int e0), .val (.int e1), .val (.ref b3), .val (.ref b10), .val (.ref b18), .val (.ref b34), .val (.ref b54), .val (.ref b63), .val (.ref b76), .val (.ref b87), .val (.int (1 : Int32)), .val (.int sx), .val (.int ln), .val (.ref xr214), .unset] [])) ?_ (fun t k => XS.icmpNo X233.here hx rfl (hb hby at_360) rfl (flt c360_6).1 k)
    refine Gen.on (b := T233.setTop (mkF m 365 #[.val (.int p1), .val (.int p2), .val (.int p3), .val (.int pp), .val (.int nsx), .val (.int c0), .val (.int c1), .val (.int e0), .val (.int e1), .val (.ref b3), .val (.ref b10), .val (.ref b18), .val (.ref b34), .val (.ref b54), .val (.ref b63), .val (.ref b76), .val (.ref b87), .val (.int (1 : Int32)), .val (.int sx), .val (.int ln), .val (.ref xr214), .unset] [(.ref xr214)])) ?_ (fun t k => XS.aload X233.here hx rfl (hb hby at_363) rfl rfl k)
    refine Gen.on (b := T233.setTop (mkF m 366 #[.val (.int p1), .val (.int p2), .val (.int p3), .val (.int pp), .val (.int nsx), .val (.int c0), .val (.int c1), .val (.int e0), .val (.int e1), .val (.ref b3), .val (.ref b10), .val (.ref b18), .val (.ref b34), .val (.ref b54), .val (.ref b63), .val (.ref b76), .val (.ref b87), .val (.int (1 : Int32)), .val (.int sx), .val (.int ln), .val (.ref xr214), .unset] [(.int (1 : Int32)), (.ref xr214)])) ?_ (fun t k => XS.iconst X233.here hx rfl (hb hby at_365) k)
    obtain ⟨cq239, kq239, q239a, q239b, q239c⟩ := isOf hZ e233 hf214_0
    obtain ⟨_, _, ⟨T239, L239, k239, n239⟩, -, X239, ⟨Lc239, hQ239, l239, y239, z239⟩, st239⟩ := X233.virtualBack hx (y := (⟨"java/lang/String", "charAt", "(I)C"⟩ : MethodName)) (z := (⟨"java/lang/String", "charAt", "(I)C"⟩ : MethodName)) hown (mvT hZ (hw _ (List.mem_of_getElem? (i := 133) rfl))) (mvT hZ (hw _ (List.mem_of_getElem? (i := 134) rfl))) (notFace_of_selects (args := #[]) (mvT hZ (hw _ (List.mem_of_getElem? (i := 136) rfl)))) (mvT hZ (hw _ (List.mem_of_getElem? (i := 136) rfl))) (mvT hZ (hw _ (List.mem_of_getElem? (i := 135) rfl))) (by decide) (backOf (W := 0) (rm22 l Z a0 hw [] xr214 (1 : Int32) xb214 ln (fun j => own_b ((fun j => (own_y c0 c1) (sx + j)) j)) w0 f0 T214.heap n0 Z214 hf214_0 xv214 xk214 xy214 fa232 (by decide) (own_p1 k_kl c360_6) (sts)) hZ (hw _ (List.mem_of_getElem? (i := 137) rfl)) (hw _ (List.mem_of_getElem? (i := 3) rfl)) (by decide) (by decide)) q239a q239c (g := (mkF m 366 #[.val (.int p1), .val (.int p2), .val (.int p3), .val (.int pp), .val (.int nsx), .val (.int c0), .val (.int c1), .val (.int e0), .val (.int e1), .val (.ref b3), .val (.ref b10), .val (.ref b18), .val (.ref b34), .val (.ref b54), .val (.ref b63), .val (.ref b76), .val (.ref b87), .val (.int (1 : Int32)), .val (.int sx), .val (.int ln), .val (.ref xr214), .unset] [(.int (1 : Int32)), (.ref xr214)])) rfl (by rw [hml]; rfl) (Steps.refl _) (argsL := [(.int (1 : Int32))]) (rest := []) (lenOf pd_0_10 rfl) rfl (by show 2 * 0 + _ ≤ _; exact Nat.le_of_eq rfl) (hb hby at_366) (fun _ _ => ⟨rfl, e233, (by decide : 20 + 0 ≤ _), (by decide : 66 + 0 ≤ _)⟩)
    dsimp only [Pt.U, Pt.locs, Pt.cells, Pt.slots] at X239 l239 y239 z239 st239 hQ239
    subst l239 y239 z239
    obtain ⟨rfl, N239q, e239⟩ := hQ239
    have N239 := Fr.app N233 N239q
    refine Gen.on (b := T239.setTop (mkF m 369 #[.val (.int p1), .val (.int p2), .val (.int p3), .val (.int pp), .val (.int nsx), .val (.int c0), .val (.int c1), .val (.int e0), .val (.int e1), .val (.ref b3), .val (.ref b10), .val (.ref b18), .val (.ref b34), .val (.ref b54), .val (.ref b63), .val (.ref b76), .val (.ref b87), .val (.int (1 : Int32)), .val (.int sx), .val (.int ln), .val (.ref xr214), .unset] [(.int (own_lc ((fun j => own_b ((fun j => (own_y c0 c1) (sx + j)) j)) (1 : Int32))))])) ?_ (fun t k => st239.trans k)
    refine Gen.on (b := T239.setTop (mkF m 371 #[.val (.int p1), .val (.int p2), .val (.int p3), .val (.int pp), .val (.int nsx), .val (.int c0), .val (.int c1), .val (.int e0), .val (.int e1), .val (.ref b3), .val (.ref b10), .val (.ref b18), .val (.ref b34), .val (.ref b54), .val (.ref b63), .val (.ref b76), .val (.ref b87), .val (.int (1 : Int32)), .val (.int sx), .val (.int ln), .val (.ref xr214), .unset] [(.ref b10), (.int (own_lc ((fun j => own_b ((fun j => (own_y c0 c1) (sx + j)) j)) (1 : Int32))))])) ?_ (fun t k => XS.aload X239.here hx rfl (hb hby at_369) rfl rfl k)
    refine Gen.on (b := T239.setTop (mkF m 373 #[.val (.int p1), .val (.int p2), .val (.int p3), .val (.int pp), .val (.int nsx), .val (.int c0), .val (.int c1), .val (.int e0), .val (.int e1), .val (.ref b3), .val (.ref b10), .val (.ref b18), .val (.ref b34), .val (.ref b54), .val (.ref b63), .val (.ref b76), .val (.ref b87), .val (.int (1 : Int32)), .val (.int sx), .val (.int ln), .val (.ref xr214), .unset] [(.int sx), (.ref b10), (.int (own_lc ((fun j => own_b ((fun j => (own_y c0 c1) (sx + j)) j)) (1 : Int32))))])) ?_ (fun t k => XS.iload X239.here hx rfl (hb hby at_371) rfl k)
    refine Gen.on (b := T239.setTop (mkF m 374 #[.val (.int p1), .val (.int p2), .val (.int p3), .val (.int pp), .val (.int nsx), .val (.int c0), .val (.int c1), .val (.int e0), .val (.int e1), .val (.ref b3), .val (.ref b10), .val (.ref b18), .val (.ref b34), .val (.ref b54), .val (.ref b63), .val (.ref b76), .val (.ref b87), .val (.int (1 : Int32)), .val (.int sx), .val (.int ln), .val (.ref xr214), .unset] [(.int (1 : Int32)), (.int sx), (.ref b10), (.int (own_lc ((fun j => own_b ((fun j => (own_y c0 c1) (sx + j)) j)) (1 : Int32))))])) ?_ (fun t k => XS.iconst X239.here hx rfl (hb hby at_373) k)
    refine Gen.on (b := T239.setTop (mkF m 375 #[.val (.int p1), .val (.int p2), .val (.int p3), .val (.int pp), .val (.int nsx), .val (.int c0), .val (.int c1), .val (.int e0), .val (.int e1), .val (.ref b3), .val (.ref b10), .val (.ref b18), .val (.ref b34), .val (.ref b54), .val (.ref b63), .val (.ref b76), .val (.ref b87), .val (.int (1 : Int32)), .val (.int sx), .val (.int ln), .val (.ref xr214), .unset] [(.int (sx + (1 : Int32))), (.ref b10), (.int (own_lc ((fun j => own_b ((fun j => (own_y c0 c1) (sx + j)) j)) (1 : Int32))))])) ?_ (fun t k => XS.iadd X239.here hx rfl (hb hby at_374) rfl k)
    obtain ⟨cl240, Ar240, SA240, NA240, HA240⟩ := id fa234
    have hin240 : ¬ ((sx + (1 : Int32)) < 0 ∨ cl240.slots.size ≤ ((sx + (1 : Int32))).toNatClampNeg) := inb_of SA240 ⟨(own_t0 k_kl c360_6).1, (own_t0 k_kl c360_6).2⟩
    refine Gen.on (b := T239.setTop (mkF m 376 #[.val (.int p1), .val (.int p2), .val (.int p3), .val (.int pp), .val (.int nsx), .val (.int c0), .val (.int c1), .val (.int e0), .val (.int e1), .val (.ref b3), .val (.ref b10), .val (.ref b18), .val (.ref b34), .val (.ref b54), .val (.ref b63), .val (.ref b76), .val (.ref b87), .val (.int (1 : Int32)), .val (.int sx), .val (.int ln), .val (.ref xr214), .unset] [(.int ((own_y c0 c1) (sx + (1 : Int32)))), (.int (own_lc ((fun j => own_b ((fun j => (own_y c0 c1) (sx + j)) j)) (1 : Int32))))])) ?_ (fun t k => X239.caload hx (j := (sx + (1 : Int32))) (v := (.int ((own_y c0 c1) (sx + (1 : Int32))))) (by rw [e239]; exact Ar240.1) (State.isArrayOf_alike hZ.alike Ar240.2.1) Ar240.2.2 hin240 (HA240 _ hin240) (g := (mkF m 375 #[.val (.int p1), .val (.int p2), .val (.int p3), .val (.int pp), .val (.int nsx), .val (.int c0), .val (.int c1), .val (.int e0), .val (.int e1), .val (.ref b3), .val (.ref b10), .val (.ref b18), .val (.ref b34), .val (.ref b54), .val (.ref b63), .val (.ref b76), .val (.ref b87), .val (.int (1 : Int32)), .val (.int sx), .val (.int ln), .val (.ref xr214), .unset] [(.int (sx + (1 : Int32))), (.ref b10), (.int (own_lc ((fun j => own_b ((fun j => (own_y c0 c1) (sx + j)) j)) (1 : Int32))))])) rfl rfl (hb hby at_375) t k)
    refine Gen.on (b := T239.setTop (mkF m 379 #[.val (.int p1), .val (.int p2), .val (.int p3), .val (.int pp), .val (.int nsx), .val (.int c0), .val (.int c1), .val (.int e0), .val (.int e1), .val (.ref b3), .val (.ref b10), .val (.ref b18), .val (.ref b34), .val (.ref b54), .val (.ref b63), .val (.ref b76), .val (.ref b87), .val (.int (1 : Int32)), .val (.int sx), .val (.int ln), .val (.ref xr214), .unset] [])) ?_ (fun t k => XS.icmpNo X239.here hx rfl (hb hby at_376) rfl (teq (own_chr1 k_c0 k_c1 sx : (own_lc ((fun j => own_b ((fun j => (own_y c0 c1) (sx + j)) j)) (1 : Int32))) = ((own_y c0 c1) (sx + (1 : Int32))))).2 k)
    refine Gen.on (b := T239.setTop (mkF m 380 #[.val (.int p1), .val (.int p2), .val (.int p3), .val (.int pp), .val (.int nsx), .val (.int c0), .val (.int c1), .val (.int e0), .val (.int e1), .val (.ref b3), .val (.ref b10), .val (.ref b18), .val (.ref b34), .val (.ref b54), .val (.ref b63), .val (.ref b76), .val (.ref b87), .val (.int (1 : Int32)), .val (.int sx), .val (.int ln), .val (.ref xr214), .unset] [(.int (1 : Int32))])) ?_ (fun t k => XS.iconst X239.here hx rfl (hb hby at_379) k)
    refine Gen.on (b := T239.setTop (mkF m 384 #[.val (.int p1), .val (.int p2), .val (.int p3), .val (.int pp), .val (.int nsx), .val (.int c0), .val (.int c1), .val (.int e0), .val (.int e1), .val (.ref b3), .val (.ref b10), .val (.ref b18), .val (.ref b34), .val (.ref b54), .val (.ref b63), .val (.ref b76), .val (.ref b87), .val (.int (1 : Int32)), .val (.int sx), .val (.int ln), .val (.ref xr214), .unset] [(.int (1 : Int32))])) ?_ (fun t k => XS.goto X239.here hx rfl (pc0 := 380) (pc' := 384) rfl (hb hby at_380) (by decide) (by decide) k)
    refine Gen.on (b := T239.setTop (mkF m 386 #[.val (.int p1), .val (.int p2), .val (.int p3), .val (.int pp), .val (.int nsx), .val (.int c0), .val (.int c1), .val (.int e0), .val (.int e1), .val (.ref b3), .val (.ref b10), .val (.ref b18), .val (.ref b34), .val (.ref b54), .val (.ref b63), .val (.ref b76), .val (.ref b87), .val (.int (1 : Int32)), .val (.int sx), .val (.int ln), .val (.ref xr214), .val (.int (1 : Int32))] [])) ?_ (fun t k => XS.istore X239.here hx rfl (hb hby at_384) rfl (l' := #[.val (.int p1), .val (.int p2), .val (.int p3), .val (.int pp), .val (.int nsx), .val (.int c0), .val (.int c1), .val (.int e0), .val (.int e1), .val (.ref b3), .val (.ref b10), .val (.ref b18), .val (.ref b34), .val (.ref b54), .val (.ref b63), .val (.ref b76), .val (.ref b87), .val (.int (1 : Int32)), .val (.int sx), .val (.int ln), .val (.ref xr214), .val (.int (1 : Int32))]) rfl k)
    refine Gen.on (b := T239.setTop (mkF m 388 #[.val (.int p1), .val (.int p2), .val (.int p3), .val (.int pp), .val (.int nsx), .val (.int c0), .val (.int c1), .val (.int e0), .val (.int e1), .val (.ref b3), .val (.ref b10), .val (.ref b18), .val (.ref b34), .val (.ref b54), .val (.ref b63), .val (.ref b76), .val (.ref b87), .val (.int (1 : Int32)), .val (.int sx), .val (.int ln), .val (.ref xr214), .val (.int (1 : Int32))] [(.int (1 : Int32))])) ?_ (fun t k => XS.iload X239.here hx rfl (hb hby at_386) rfl k)
    refine Gen.on (b := T239.setTop (mkF m 391 #[.val (.int p1), .val (.int p2), .val (.int p3), .val (.int pp), .val (.int nsx), .val (.int c0), .val (.int c1), .val (.int e0), .val (.int e1), .val (.ref b3), .val (.ref b10), .val (.ref b18), .val (.ref b34), .val (.ref b54), .val (.ref b63), .val (.ref b76), .val (.ref b87), .val (.int (1 : Int32)), .val (.int sx), .val (.int ln), .val (.ref xr214), .val (.int (1 : Int32))] [])) ?_ (fun t k => XS.ifNo X239.here hx rfl (hb hby at_388) rfl ((if0 _ _).trans (feq (by decide : ¬ ((1 : Int32) = (0 : Int32)))).1) k)
    refine Gen.on (b := T239.setTop (mkF m 393 #[.val (.int p1), .val (.int p2), .val (.int p3), .val (.int pp), .val (.int nsx), .val (.int c0), .val (.int c1), .val (.int e0), .val (.int e1), .val (.ref b3), .val (.ref b10), .val (.ref b18), .val (.ref b34), .val (.ref b54), .val (.ref b63), .val (.ref b76), .val (.ref b87), .val (.int (1 : Int32)), .val (.int sx), .val (.int ln), .val (.ref xr214), .val (.int (1 : Int32))] [(.int (1 : Int32))])) ?_ (fun t k => XS.iload X239.here hx rfl (hb hby at_391) rfl k)
    refine Gen.on (b := T239.setTop (mkF m 396 #[.val (.int p1), .val (.int p2), .val (.int p3), .val (.int pp), .val (.int nsx), .val (.int c0), .val (.int c1), .val (.int e0), .val (.int e1), .val (.ref b3), .val (.ref b10), .val (.ref b18), .val (.ref b34), .val (.ref b54), .val (.ref b63), .val (.ref b76), .val (.ref b87), .val (.int (1 : Int32)), .val (.int sx), .val (.int ln), .val (.ref xr214), .val (.int (1 : Int32))] [])) ?_ (fun t k => XS.ifNo X239.here hx rfl (hb hby at_393) rfl ((if0 _ _).trans (feq (by decide : ¬ ((1 : Int32) = (0 : Int32)))).1) k)
    refine Gen.on (b := T239.setTop (mkF m 398 #[.val (.int p1), .val (.int p2), .val (.int p3), .val (.int pp), .val (.int nsx), .val (.int c0), .val (.int c1), .val (.int e0), .val (.int e1), .val (.ref b3), .val (.ref b10), .val (.ref b18), .val (.ref b34), .val (.ref b54), .val (.ref b63), .val (.ref b76), .val (.ref b87), .val (.int (1 : Int32)), .val (.int sx), .val (.int ln), .val (.ref xr214), .val (.int (1 : Int32))] [(.ref b87)])) ?_ (fun t k => XS.aload X239.here hx rfl (hb hby at_396) rfl rfl k)
    have fa242 := (hf212_0.keep Kc214)
    have fa243 := (hf212_5.keep Kc214 (ninS ne_b87_m6_97 nin0))
    obtain ⟨cq241, kq241, q241a, q241b, q241c⟩ := isOf hZ e239 fa242
    obtain ⟨_, _, ⟨T241, L241, k241, n241⟩, -, X241, ⟨Lc241, hQ241, l241, y241, z241⟩, st241⟩ := X239.virtualBack hx (y := (⟨"com/example/scheherazade/scheherazade/reader/TagParts", "getAttributeCount", "()I"⟩ : MethodName)) (z := (⟨"com/example/scheherazade/scheherazade/reader/TagParts", "getAttributeCount", "()I"⟩ : MethodName)) hown (mvT hZ (hw _ (List.mem_of_getElem? (i := 91) rfl))) (mvT hZ (hw _ (List.mem_of_getElem? (i := 92) rfl))) (notFace_of_selects (args := #[]) (mvT hZ (hw _ (List.mem_of_getElem? (i := 94) rfl)))) (mvT hZ (hw _ (List.mem_of_getElem? (i := 94) rfl))) (mvT hZ (hw _ (List.mem_of_getElem? (i := 93) rfl))) (by decide) (backOf (W := 0) (rm13 l Z a0 hw [] b87 ((0 : Int32) + (1 : Int32)) T214.heap n0 Z214 fa242 fa243) hZ (hw _ (List.mem_of_getElem? (i := 95) rfl)) (hw _ (List.mem_of_getElem? (i := 32) rfl)) (by decide) (by decide)) q241a q241c (g := (mkF m 398 #[.val (.int p1), .val (.int p2), .val (.int p3), .val (.int pp), .val (.int nsx), .val (.int c0), .val (.int c1), .val (.int e0), .val (.int e1), .val (.ref b3), .val (.ref b10), .val (.ref b18), .val (.ref b34), .val (.ref b54), .val (.ref b63), .val (.ref b76), .val (.ref b87), .val (.int (1 : Int32)), .val (.int sx), .val (.int ln), .val (.ref xr214), .val (.int (1 : Int32))] [(.ref b87)])) rfl (by rw [hml]; rfl) (Steps.refl _) (argsL := []) (rest := []) (lenOf pd_0_7 rfl) rfl (by show 2 * 0 + _ ≤ _; exact Nat.le_of_eq rfl) (hb hby at_398) (fun _ _ => ⟨rfl, e239, (by decide : 20 + 0 ≤ _), (by decide : 66 + 0 ≤ _)⟩)
    dsimp only [Pt.U, Pt.locs, Pt.cells, Pt.slots] at X241 l241 y241 z241 st241 hQ241
    subst l241 y241 z241
    obtain ⟨rfl, N241q, e241⟩ := hQ241
    have N241 := Fr.app N239 N241q
    refine Gen.on (b := T241.setTop (mkF m 401 #[.val (.int p1), .val (.int p2), .val (.int p3), .val (.int pp), .val (.int nsx), .val (.int c0), .val (.int c1), .val (.int e0), .val (.int e1), .val (.ref b3), .val (.ref b10), .val (.ref b18), .val (.ref b34), .val (.ref b54), .val (.ref b63), .val (.ref b76), .val (.ref b87), .val (.int (1 : Int32)), .val (.int sx), .val (.int ln), .val (.ref xr214), .val (.int (1 : Int32))] [(.int ((0 : Int32) + (1 : Int32)))])) ?_ (fun t k => st241.trans k)
    refine Gen.on (b := T241.setTop (mkF m 402 #[.val (.int p1), .val (.int p2), .val (.int p3), .val (.int pp), .val (.int nsx), .val (.int c0), .val (.int c1), .val (.int e0), .val (.int e1), .val (.ref b3), .val (.ref b10), .val (.ref b18), .val (.ref b34), .val (.ref b54), .val (.ref b63), .val (.ref b76), .val (.ref b87), .val (.int (1 : Int32)), .val (.int sx), .val (.int ln), .val (.ref xr214), .val (.int (1 : Int32))] [(.int (1 : Int32)), (.int ((0 : Int32) + (1 : Int32)))])) ?_ (fun t k => XS.iconst X241.here hx rfl (hb hby at_401) k)
    refine Gen.on (b := T241.setTop (mkF m 405 #[.val (.int p1), .val (.int p2), .val (.int p3), .val (.int pp), .val (.int nsx), .val (.int c0), .val (.int c1), .val (.int e0), .val (.int e1), .val (.ref b3), .val (.ref b10), .val (.ref b18), .val (.ref b34), .val (.ref b54), .val (.ref b63), .val (.ref b76), .val (.ref b87), .val (.int (1 : Int32)), .val (.int sx), .val (.int ln), .val (.ref xr214), .val (.int (1 : Int32))] [])) ?_ (fun t k => XS.icmpNo X241.here hx rfl (hb hby at_402) rfl (teq (by decide : ((0 : Int32) + (1 : Int32)) = (1 : Int32))).2 k)
    refine Gen.on (b := T241.setTop (mkF m 406 #[.val (.int p1), .val (.int p2), .val (.int p3), .val (.int pp), .val (.int nsx), .val (.int c0), .val (.int c1), .val (.int e0), .val (.int e1), .val (.ref b3), .val (.ref b10), .val (.ref b18), .val (.ref b34), .val (.ref b54), .val (.ref b63), .val (.ref b76), .val (.ref b87), .val (.int (1 : Int32)), .val (.int sx), .val (.int ln), .val (.ref xr214), .val (.int (1 : Int32))] [(.int (1 : Int32))])) ?_ (fun t k => XS.iconst X241.here hx rfl (hb hby at_405) k)
    refine Gen.on (b := T241.setTop (mkF m 410 #[.val (.int p1), .val (.int p2), .val (.int p3), .val (.int pp), .val (.int nsx), .val (.int c0), .val (.int c1), .val (.int e0), .val (.int e1), .val (.ref b3), .val (.ref b10), .val (.ref b18), .val (.ref b34), .val (.ref b54), .val (.ref b63), .val (.ref b76), .val (.ref b87), .val (.int (1 : Int32)), .val (.int sx), .val (.int ln), .val (.ref xr214), .val (.int (1 : Int32))] [(.int (1 : Int32))])) ?_ (fun t k => XS.goto X241.here hx rfl (pc0 := 406) (pc' := 410) rfl (hb hby at_406) (by decide) (by decide) k)
    refine ownS_retN (t := .boolean) X241 hh hS0 e241 hk225 hZ hEL CH225 hx hret (by simp) (by decide) (hb hby at_410) (by decide) (by decide) ?_
    exact ⟨rfl, N241⟩
set_option maxRecDepth 65536 in
set_option maxHeartbeats 40000000 in
theorem seg125 {p : Program} {l : Launch} {e : Env} {s : State} {m : MethodId} {below : List Frame} {meth : Method} {c : Code} {Z : State} {a0 : Array Value} {locs : List Loc} {kS n0 : Nat} {f0 : Value} {h0 : Heap} {w0 : Int32} {p1 : Int32} {p2 : Int32} {p3 : Int32} {T97 : State} {b3 : Addr} {e0 : Int32} {e1 : Int32} {b10 : Addr} {c0 : Int32} {c1 : Int32} {b18 : Addr} {b21 : Addr} {b34 : Addr} {b39 : Addr} {b54 : Addr} {b63 : Addr} {b76 : Addr} {b87 : Addr} {m1_97 : Addr} {m2_97 : Addr} {m3_97 : Addr} {m4_97 : Addr} {m5_97 : Addr} {m6_97 : Addr} {kq1_97 : ClassId} {kq2_97 : ClassId} {kq3_97 : ClassId} {kq4_97 : ClassId} {kq5_97 : ClassId} {kq6_97 : ClassId} {pp : Int32} {nsx : Int32} (hw : ∀ d ∈ tables_1, d.before a0 Z = true) (hx : p.tables.exec = Jvm.exec) (hby : c.code = code) (hml : c.maxLocals = 22) (hret : meth.sig.returnType = ret) (hlocks : meth.locks = false) (hh : s.heap = h0) (sts : Sts Z w0 f0) (hZ : Z.Warmed39 (s.setVm s.vm).vm) (hown : (s.setVm s.vm).vm.findClass "com/example/scheherazade/scheherazade/reader/TagPartsStartPinLaw" = some m.cls) (X97 : Stand p l e room_1 (s.setVm s.vm) m #[(.int p1), (.int p2), (.int p3)] below meth c T97 locs 18 60) (N97 : Fr n0 locs) (Z97 : n0 ≤ T97.heap.size) (hS0 : s.Since s.vm kS) (hk107 : kS ≤ T97.heap.size) (CH107 : CHr Z consts_1 s.vm h0 s.vm T97.heap) (fa108 : Old Z n0 T97.heap) (fa109 : Afn Z T97.heap b3 .char (2 : Int32) (own_upd (own_upd (fun _ => 0) (0 : Int32) (nar .char e0)) (1 : Int32) (nar .char e1))) (fa110 : Exa Z T97.heap b3 "[C") (fa111 : Afn Z T97.heap b10 .char (2 : Int32) (own_y c0 c1)) (fa112 : Exa Z T97.heap b10 "[C") (fa113 : Exa Z T97.heap b18 "java/lang/String") (fa114 : Afn Z T97.heap b21 .char (1 : Int32) (own_y e0 e0)) (fa115 : Exa Z T97.heap b21 "[C") (fa116 : Exa Z T97.heap b34 "java/lang/String") (fa117 : Afn Z T97.heap b39 .char (1 : Int32) (own_y c0 c0)) (fa118 : Exa Z T97.heap b39 "[C") (fa119 : Afn Z T97.heap b54 .char (1 : Int32) (own_upd (fun _ => 0) (0 : Int32) (nar .char e0))) (fa120 : Exa Z T97.heap b54 "[C") (fa121 : Afn Z T97.heap b63 .char (2 : Int32) (own_upd (own_upd (fun _ => 0) (0 : Int32) (nar .char c0)) (1 : Int32) (nar .char c1))) (fa122 : Exa Z T97.heap b63 "[C") (fa123 : Afn Z T97.heap b76 .char (1 : Int32) (own_upd (fun _ => 0) (0 : Int32) (nar .char e1))) (fa124 : Exa Z T97.heap b76 "[C") (hf97_0 : Exa Z T97.heap b87 "com/example/scheherazade/scheherazade/reader/TagParts") (hf97_1 : Fld Z T97.heap b87 "com/example/scheherazade/scheherazade/reader/TagParts" "name" "Ljava/lang/String;" .null) (hf97_2 : Fld Z T97.heap b87 "com/example/scheherazade/scheherazade/reader/TagParts" "prefixed" "Z" (.int (0 : Int32))) (hf97_3 : Fld Z T97.heap b87 "com/example/scheherazade/scheherazade/reader/TagParts" "nameSpelling" "[C" .null) (hf97_4 : Fld Z T97.heap b87 "com/example/scheherazade/scheherazade/reader/TagParts" "source" "[C" .null) (hf97_5 : Fld Z T97.heap b87 "com/example/scheherazade/scheherazade/reader/TagParts" "attributeCount" "I" (.int (0 : Int32))) (hf97_6 : Fld Z T97.heap b87 "com/example/scheherazade/scheherazade/reader/TagParts" "attributeNames" "[Ljava/lang/String;" (.ref m1_97)) (hf97_7 : Fld Z T97.heap b87 "com/example/scheherazade/scheherazade/reader/TagParts" "attributePrefixes" "[Z" (.ref m2_97)) (hf97_8 : Fld Z T97.heap b87 "com/example/scheherazade/scheherazade/reader/TagParts" "attributeSpellings" "[[C" (.ref m3_97)) (hf97_9 : Fld Z T97.heap b87 "com/example/scheherazade/scheherazade/reader/TagParts" "valueStarts" "[I" (.ref m4_97)) (hf97_10 : Fld Z T97.heap b87 "com/example/scheherazade/scheherazade/reader/TagParts" "valueLengths" "[I" (.ref m5_97)) (hf97_11 : Fld Z T97.heap b87 "com/example/scheherazade/scheherazade/reader/TagParts" "attributeValues" "[Ljava/lang/String;" (.ref m6_97)) (hf97_12 : Arv Z T97.heap m1_97 kq1_97 (.object "java/lang/String") (4 : Int32) [.null, .null, .null, .null] .null) (hf97_13 : Arv Z T97.heap m2_97 kq2_97 .boolean (4 : Int32) [(.int (0 : Int32)), (.int (0 : Int32)), (.int (0 : Int32)), (.int (0 : Int32))] (.int (0 : Int32))) (hf97_14 : Arv Z T97.heap m3_97 kq3_97 (.array .char) (4 : Int32) [.null, .null, .null, .null] .null) (hf97_15 : Arv Z T97.heap m4_97 kq4_97 .int (4 : Int32) [(.int (0 : Int32)), (.int (0 : Int32)), (.int (0 : Int32)), (.int (0 : Int32))] (.int (0 : Int32))) (hf97_16 : Arv Z T97.heap m5_97 kq5_97 .int (4 : Int32) [(.int (0 : Int32)), (.int (0 : Int32)), (.int (0 : Int32)), (.int (0 : Int32))] (.int (0 : Int32))) (hf97_17 : Arv Z T97.heap m6_97 kq6_97 (.object "java/lang/String") (4 : Int32) [.null, .null, .null, .null] .null) (sf107_b18 : Safe Z consts_1 s.vm T97.heap b18) (sf107_b34 : Safe Z consts_1 s.vm T97.heap b34) (ne_b3_b87 : b3 ≠ b87) (ne_b10_b87 : b10 ≠ b87) (ne_b21_b87 : b21 ≠ b87) (ne_b39_b87 : b39 ≠ b87) (ne_b54_b87 : b54 ≠ b87) (ne_b63_b87 : b63 ≠ b87) (ne_b76_b87 : b76 ≠ b87) (ne_b3_m1_97 : b3 ≠ m1_97) (ne_b10_m1_97 : b10 ≠ m1_97) (ne_b21_m1_97 : b21 ≠ m1_97) (ne_b39_m1_97 : b39 ≠ m1_97) (ne_b54_m1_97 : b54 ≠ m1_97) (ne_b63_m1_97 : b63 ≠ m1_97) (ne_b76_m1_97 : b76 ≠ m1_97) (ne_b87_m1_97 : b87 ≠ m1_97) (ne_b3_m2_97 : b3 ≠ m2_97) (ne_b10_m2_97 : b10 ≠ m2_97) (ne_b21_m2_97 : b21 ≠ m2_97) (ne_b39_m2_97 : b39 ≠ m2_97) (ne_b54_m2_97 : b54 ≠ m2_97) (ne_b63_m2_97 : b63 ≠ m2_97) (ne_b76_m2_97 : b76 ≠ m2_97) (ne_b87_m2_97 : b87 ≠ m2_97) (ne_b3_m3_97 : b3 ≠ m3_97) (ne_b10_m3_97 : b10 ≠ m3_97) (ne_b21_m3_97 : b21 ≠ m3_97) (ne_b39_m3_97 : b39 ≠ m3_97) (ne_b54_m3_97 : b54 ≠ m3_97) (ne_b63_m3_97 : b63 ≠ m3_97) (ne_b76_m3_97 : b76 ≠ m3_97) (ne_b87_m3_97 : b87 ≠ m3_97) (ne_b3_m4_97 : b3 ≠ m4_97) (ne_b10_m4_97 : b10 ≠ m4_97) (ne_b21_m4_97 : b21 ≠ m4_97) (ne_b39_m4_97 : b39 ≠ m4_97) (ne_b54_m4_97 : b54 ≠ m4_97) (ne_b63_m4_97 : b63 ≠ m4_97) (ne_b76_m4_97 : b76 ≠ m4_97) (ne_b87_m4_97 : b87 ≠ m4_97) (ne_b3_m5_97 : b3 ≠ m5_97) (ne_b10_m5_97 : b10 ≠ m5_97) (ne_b21_m5_97 : b21 ≠ m5_97) (ne_b39_m5_97 : b39 ≠ m5_97) (ne_b54_m5_97 : b54 ≠ m5_97) (ne_b63_m5_97 : b63 ≠ m5_97) (ne_b76_m5_97 : b76 ≠ m5_97) (ne_b87_m5_97 : b87 ≠ m5_97) (ne_b3_m6_97 : b3 ≠ m6_97) (ne_b10_m6_97 : b10 ≠ m6_97) (ne_b21_m6_97 : b21 ≠ m6_97) (ne_b39_m6_97 : b39 ≠ m6_97) (ne_b54_m6_97 : b54 ≠ m6_97) (ne_b63_m6_97 : b63 ≠ m6_97) (ne_b76_m6_97 : b76 ≠ m6_97) (ne_b87_m6_97 : b87 ≠ m6_97) (ne_m1_97_m2_97 : m1_97 ≠ m2_97) (ne_m1_97_m3_97 : m1_97 ≠ m3_97) (ne_m1_97_m4_97 : m1_97 ≠ m4_97) (ne_m1_97_m5_97 : m1_97 ≠ m5_97) (ne_m1_97_m6_97 : m1_97 ≠ m6_97) (ne_m2_97_m3_97 : m2_97 ≠ m3_97) (ne_m2_97_m4_97 : m2_97 ≠ m4_97) (ne_m2_97_m5_97 : m2_97 ≠ m5_97) (ne_m2_97_m6_97 : m2_97 ≠ m6_97) (ne_m3_97_m4_97 : m3_97 ≠ m4_97) (ne_m3_97_m5_97 : m3_97 ≠ m5_97) (ne_m3_97_m6_97 : m3_97 ≠ m6_97) (ne_m4_97_m5_97 : m4_97 ≠ m5_97) (ne_m4_97_m6_97 : m4_97 ≠ m6_97) (ne_m5_97_m6_97 : m5_97 ≠ m6_97) (g_b87 : n0 ≤ b87) (g_m1_97 : n0 ≤ m1_97) (g_m2_97 : n0 ≤ m2_97) (g_m3_97 : n0 ≤ m3_97) (g_m4_97 : n0 ≤ m4_97) (g_m5_97 : n0 ≤ m5_97) (g_m6_97 : n0 ≤ m6_97) (ov1_97 : Ovr Z kq1_97 "java/lang/String") (ov3_97 : OvrA Z kq3_97 .char "[C") (ov6_97 : Ovr Z kq6_97 "java/lang/String") (k_pp : nar .boolean pp = pp) (k_c0 : own_c8 c0) (k_c1 : own_c8 c1) :
    OwnS Z consts_1 p e below s (Q0 n0) room_1.cells room_1.slots (T97.setTop (mkF m 180 #[.val (.int p1), .val (.int p2), .val (.int p3), .val (.int pp), .val (.int nsx), .val (.int c0), .val (.int c1), .val (.int e0), .val (.int e1), .val (.ref b3), .val (.ref b10), .val (.ref b18), .val (.ref b34), .val (.ref b54), .val (.ref b63), .val (.ref b76), .val (.ref b87), .unset, .unset, .unset, .unset, .unset] [])) := by
  obtain ⟨SC, hw0, SF, hf0⟩ := id sts
  have hEL : EW Z a0 consts_1 := own_hEL hw
  have wS := own_wS hw
  refine Gen.on (b := T97.setTop (mkF m 182 #[.val (.int p1), .val (.int p2), .val (.int p3), .val (.int pp), .val (.int nsx), .val (.int c0), .val (.int c1), .val (.int e0), .val (.int e1), .val (.ref b3), .val (.ref b10), .val (.ref b18), .val (.ref b34), .val (.ref b54), .val (.ref b63), .val (.ref b76), .val (.ref b87), .unset, .unset, .unset, .unset, .unset] [(.ref b87)])) ?_ (fun t k => XS.aload X97.here hx rfl (hb hby at_180) rfl rfl k)
  refine Gen.on (b := T97.setTop (mkF m 184 #[.val (.int p1), .val (.int p2), .val (.int p3), .val (.int pp), .val (.int nsx), .val (.int c0), .val (.int c1), .val (.int e0), .val (.int e1), .val (.ref b3), .val (.ref b10), .val (.ref b18), .val (.ref b34), .val (.ref b54), .val (.ref b63), .val (.ref b76), .val (.ref b87), .unset, .unset, .unset, .unset, .unset] [(.ref b18), (.ref b87)])) ?_ (fun t k => XS.aload X97.here hx rfl (hb hby at_182) rfl rfl k)
  obtain ⟨_, st126, T126, X126, e126, rfl⟩ : Gen p e below (own_at X97 T97.heap (mkF m 193 #[.val (.int p1), .val (.int p2), .val (.int p3), .val (.int pp), .val (.int nsx), .val (.int c0), .val (.int c1), .val (.int e0), .val (.int e1), .val (.ref b3), .val (.ref b10), .val (.ref b18), .val (.ref b34), .val (.ref b54), .val (.ref b63), .val (.ref b76), .val (.ref b87), .unset, .unset, .unset, .unset, .unset] [(.int (if pp = (0 : Int32) then (1 : Int32) else (0 : Int32))), (.ref b18), (.ref b87)])) (T97.setTop (mkF m 184 #[.val (.int p1), .val (.int p2), .val (.int p3), .val (.int pp), .val (.int nsx), .val (.int c0), .val (.int c1), .val (.int e0), .val (.int e1), .val (.ref b3), .val (.ref b10), .val (.ref b18), .val (.ref b34), .val (.ref b54), .val (.ref b63), .val (.ref b76), .val (.ref b87), .unset, .unset, .unset, .unset, .unset] [(.ref b18), (.ref b87)])) := by
    refine Gen.on (b := T97.setTop (mkF m 185 #[.val (.int p1), .val (.int p2), .val (.int p3), .val (.int pp), .val (.int nsx), .val (.int c0), .val (.int c1), .val (.int e0), .val (.int e1), .val (.ref b3), .val (.ref b10), .val (.ref b18), .val (.ref b34), .val (.ref b54), .val (.ref b63), .val (.ref b76), .val (.ref b87), .unset, .unset, .unset, .unset, .unset] [(.int pp), (.ref b18), (.ref b87)])) ?_ (fun t k => XS.iloadN X97.here hx rfl (hb hby at_184) rfl k)
    by_cases c185_4 : pp = (0 : Int32)
    · refine Gen.on (b := T97.setTop (mkF m 188 #[.val (.int p1), .val (.int p2), .val (.int p3), .val (.int pp), .val (.int nsx), .val (.int c0), .val (.int c1), .val (.int e0), .val (.int e1), .val (.ref b3), .val (.ref b10), .val (.ref b18), .val (.ref b34), .val (.ref b54), .val (.ref b63), .val (.ref b76), .val (.ref b87), .unset, .unset, .unset, .unset, .unset] [(.ref b18), (.ref b87)])) ?_ (fun t k => XS.ifNo X97.here hx rfl (hb hby at_185) rfl ((if0 _ _).trans (teq c185_4).2) k)
      refine Gen.on (b := T97.setTop (mkF m 189 #[.val (.int p1), .val (.int p2), .val (.int p3), .val (.int pp), .val (.int nsx), .val (.int c0), .val (.int c1), .val (.int e0), .val (.int e1), .val (.ref b3), .val (.ref b10), .val (.ref b18), .val (.ref b34), .val (.ref b54), .val (.ref b63), .val (.ref b76), .val (.ref b87), .unset, .unset, .unset, .unset, .unset] [(.int (1 : Int32)), (.ref b18), (.ref b87)])) ?_ (fun t k => XS.iconst X97.here hx rfl (hb hby at_188) k)
      refine Gen.on (b := T97.setTop (mkF m 193 #[.val (.int p1), .val (.int p2), .val (.int p3), .val (.int pp), .val (.int nsx), .val (.int c0), .val (.int c1), .val (.int e0), .val (.int e1), .val (.ref b3), .val (.ref b10), .val (.ref b18), .val (.ref b34), .val (.ref b54), .val (.ref b63), .val (.ref b76), .val (.ref b87), .unset, .unset, .unset, .unset, .unset] [(.int (1 : Int32)), (.ref b18), (.ref b87)])) ?_ (fun t k => XS.goto X97.here hx rfl (pc0 := 189) (pc' := 193) rfl (hb hby at_189) (by decide) (by decide) k)
      exact ⟨_, Steps.refl _, T97, X97, rfl, by simp only [if_pos c185_4]⟩
    · refine Gen.on (b := T97.setTop (mkF m 192 #[.val (.int p1), .val (.int p2), .val (.int p3), .val (.int pp), .val (.int nsx), .val (.int c0), .val (.int c1), .val (.int e0), .val (.int e1), .val (.ref b3), .val (.ref b10), .val (.ref b18), .val (.ref b34), .val (.ref b54), .val (.ref b63), .val (.ref b76), .val (.ref b87), .unset, .unset, .unset, .unset, .unset] [(.ref b18), (.ref b87)])) ?_ (fun t k => XS.ifYes X97.here hx rfl (pc0 := 185) (pc' := 192) rfl (hb hby at_185) rfl ((if0 _ _).trans (feq c185_4).2) (by decide) (by decide) k)
      refine Gen.on (b := T97.setTop (mkF m 193 #[.val (.int p1), .val (.int p2), .val (.int p3), .val (.int pp), .val (.int nsx), .val (.int c0), .val (.int c1), .val (.int e0), .val (.int e1), .val (.ref b3), .val (.ref b10), .val (.ref b18), .val (.ref b34), .val (.ref b54), .val (.ref b63), .val (.ref b76), .val (.ref b87), .unset, .unset, .unset, .unset, .unset] [(.int (0 : Int32)), (.ref b18), (.ref b87)])) ?_ (fun t k => XS.iconst X97.here hx rfl (hb hby at_192) k)
      exact ⟨_, Steps.refl _, T97, X97, rfl, by simp only [if_neg c185_4]⟩
  refine Gen.on (b := T126.setTop (mkF m 193 #[.val (.int p1), .val (.int p2), .val (.int p3), .val (.int pp), .val (.int nsx), .val (.int c0), .val (.int c1), .val (.int e0), .val (.int e1), .val (.ref b3), .val (.ref b10), .val (.ref b18), .val (.ref b34), .val (.ref b54), .val (.ref b63), .val (.ref b76), .val (.ref b87), .unset, .unset, .unset, .unset, .unset] [(.int (if pp = (0 : Int32) then (1 : Int32) else (0 : Int32))), (.ref b18), (.ref b87)])) ?_ (fun t k => st126.trans k)
  refine Gen.on (b := T126.setTop (mkF m 195 #[.val (.int p1), .val (.int p2), .val (.int p3), .val (.int pp), .val (.int nsx), .val (.int c0), .val (.int c1), .val (.int e0), .val (.int e1), .val (.ref b3), .val (.ref b10), .val (.ref b18), .val (.ref b34), .val (.ref b54), .val (.ref b63), .val (.ref b76), .val (.ref b87), .unset, .unset, .unset, .unset, .unset] [(.ref b54), (.int (if pp = (0 : Int32) then (1 : Int32) else (0 : Int32))), (.ref b18), (.ref b87)])) ?_ (fun t k => XS.aload X126.here hx rfl (hb hby at_193) rfl rfl k)
  refine Gen.on (b := T126.setTop (mkF m 197 #[.val (.int p1), .val (.int p2), .val (.int p3), .val (.int pp), .val (.int nsx), .val (.int c0), .val (.int c1), .val (.int e0), .val (.int e1), .val (.ref b3), .val (.ref b10), .val (.ref b18), .val (.ref b34), .val (.ref b54), .val (.ref b63), .val (.ref b76), .val (.ref b87), .unset, .unset, .unset, .unset, .unset] [(.ref b3), (.ref b54), (.int (if pp = (0 : Int32) then (1 : Int32) else (0 : Int32))), (.ref b18), (.ref b87)])) ?_ (fun t k => XS.aload X126.here hx rfl (hb hby at_195) rfl rfl k)
  obtain ⟨cq127, kq127, q127a, q127b, q127c⟩ := isOf hZ e126 hf97_0
  obtain ⟨_, _, ⟨T127, L127, k127, n127⟩, -, X127, ⟨Lc127, hQ127, l127, y127, z127⟩, st127⟩ := X126.virtualBack hx (y := (⟨"com/example/scheherazade/scheherazade/reader/TagParts", "start", "(Ljava/lang/String;Z[C[C)V"⟩ : MethodName)) (z := (⟨"com/example/scheherazade/scheherazade/reader/TagParts", "start", "(Ljava/lang/String;Z[C[C)V"⟩ : MethodName)) hown (mvT hZ (hw _ (List.mem_of_getElem? (i := 55) rfl))) (mvT hZ (hw _ (List.mem_of_getElem? (i := 56) rfl))) (notFace_of_selects (args := #[]) (mvT hZ (hw _ (List.mem_of_getElem? (i := 58) rfl)))) (mvT hZ (hw _ (List.mem_of_getElem? (i := 58) rfl))) (mvT hZ (hw _ (List.mem_of_getElem? (i := 57) rfl))) (by decide) (backOf (W := 0) (rm8 l Z a0 hw [] b87 b18 (if pp = (0 : Int32) then (1 : Int32) else (0 : Int32)) b54 b3 .null (.int (0 : Int32)) .null .null (.int (0 : Int32)) m1_97 m2_97 m3_97 m4_97 m5_97 m6_97 T97.heap n0 Z97 hf97_0 hf97_1 hf97_2 hf97_3 hf97_4 hf97_5 hf97_6 hf97_7 hf97_8 hf97_9 hf97_10 hf97_11 g_b87) hZ (hw _ (List.mem_of_getElem? (i := 59) rfl)) (hw _ (List.mem_of_getElem? (i := 32) rfl)) (by decide) (by decide)) q127a q127c (g := (mkF m 197 #[.val (.int p1), .val (.int p2), .val (.int p3), .val (.int pp), .val (.int nsx), .val (.int c0), .val (.int c1), .val (.int e0), .val (.int e1), .val (.ref b3), .val (.ref b10), .val (.ref b18), .val (.ref b34), .val (.ref b54), .val (.ref b63), .val (.ref b76), .val (.ref b87), .unset, .unset, .unset, .unset, .unset] [(.ref b3), (.ref b54), (.int (if pp = (0 : Int32) then (1 : Int32) else (0 : Int32))), (.ref b18), (.ref b87)])) rfl (by rw [hml]; rfl) (Steps.refl _) (argsL := [(.ref b18), (.int (if pp = (0 : Int32) then (1 : Int32) else (0 : Int32))), (.ref b54), (.ref b3)]) (rest := []) (lenOf pd_0_2 rfl) rfl (by show 2 * 0 + _ ≤ _; exact Nat.le_of_eq rfl) (hb hby at_197) (fun _ _ => ⟨rfl, e126, (by decide : 18 + 0 ≤ _), (by decide : 60 + 0 ≤ _)⟩)
  dsimp only [Pt.U, Pt.locs, Pt.cells, Pt.slots] at X127 l127 y127 z127 st127 hQ127
  subst l127 y127 z127
  obtain ⟨rfl, N127q, Kc127, hf127_0, hf127_1, hf127_2, hf127_3, hf127_4, hf127_5, hf127_6, hf127_7, hf127_8, hf127_9, hf127_10, hf127_11⟩ := hQ127
  have N127 := Fr.app N97 N127q
  have sf128_b18 := Safe.keep Kc127 (sfS (Safe.exa hZ.alike hf97_0 (by decide) (by decide)) sf0) CH107.1 sf107_b18
  have sf128_b34 := Safe.keep Kc127 (sfS (Safe.exa hZ.alike hf97_0 (by decide) (by decide)) sf0) CH107.1 sf107_b34
  have CH128 := CHr.trans CH107 (CHr.keep Kc127 (sfS (Safe.exa hZ.alike hf97_0 (by decide) (by decide)) sf0) CH107.1)
  have hk128 := Nat.le_trans hk107 Kc127.1
  have Z127 : n0 ≤ T127.heap.size := Nat.le_trans Z97 Kc127.1
  refine Gen.on (b := T127.setTop (mkF m 200 #[.val (.int p1), .val (.int p2), .val (.int p3), .val (.int pp), .val (.int nsx), .val (.int c0), .val (.int c1), .val (.int e0), .val (.int e1), .val (.ref b3), .val (.ref b10), .val (.ref b18), .val (.ref b34), .val (.ref b54), .val (.ref b63), .val (.ref b76), .val (.ref b87), .unset, .unset, .unset, .unset, .unset] [])) ?_ (fun t k => st127.trans k)
  refine Gen.on (b := T127.setTop (mkF m 202 #[.val (.int p1), .val (.int p2), .val (.int p3), .val (.int pp), .val (.int nsx), .val (.int c0), .val (.int c1), .val (.int e0), .val (.int e1), .val (.ref b3), .val (.ref b10), .val (.ref b18), .val (.ref b34), .val (.ref b54), .val (.ref b63), .val (.ref b76), .val (.ref b87), .unset, .unset, .unset, .unset, .unset] [(.ref b87)])) ?_ (fun t k => XS.aload X127.here hx rfl (hb hby at_200) rfl rfl k)
  refine Gen.on (b := T127.setTop (mkF m 204 #[.val (.int p1), .val (.int p2), .val (.int p3), .val (.int pp), .val (.int nsx), .val (.int c0), .val (.int c1), .val (.int e0), .val (.int e1), .val (.ref b3), .val (.ref b10), .val (.ref b18), .val (.ref b34), .val (.ref b54), .val (.ref b63), .val (.ref b76), .val (.ref b87), .unset, .unset, .unset, .unset, .unset] [(.ref b18), (.ref b87)])) ?_ (fun t k => XS.aload X127.here hx rfl (hb hby at_202) rfl rfl k)
  obtain ⟨_, st129, T129, X129, e129, rfl⟩ : Gen p e below (own_at X127 T127.heap (mkF m 213 #[.val (.int p1), .val (.int p2), .val (.int p3), .val (.int pp), .val (.int nsx), .val (.int c0), .val (.int c1), .val (.int e0), .val (.int e1), .val (.ref b3), .val (.ref b10), .val (.ref b18), .val (.ref b34), .val (.ref b54), .val (.ref b63), .val (.ref b76), .val (.ref b87), .unset, .unset, .unset, .unset, .unset] [(.int (if pp = (0 : Int32) then (1 : Int32) else (0 : Int32))), (.ref b18), (.ref b87)])) (T127.setTop (mkF m 204 #[.val (.int p1), .val (.int p2), .val (.int p3), .val (.int pp), .val (.int nsx), .val (.int c0), .val (.int c1), .val (.int e0), .val (.int e1), .val (.ref b3), .val (.ref b10), .val (.ref b18), .val (.ref b34), .val (.ref b54), .val (.ref b63), .val (.ref b76), .val (.ref b87), .unset, .unset, .unset, .unset, .unset] [(.ref b18), (.ref b87)])) := by
    refine Gen.on (b := T127.setTop (mkF m 205 #[.val (.int p1), .val (.int p2), .val (.int p3), .val (.int pp), .val (.int nsx), .val (.int c0), .val (.int c1), .val (.int e0), .val (.int e1), .val (.ref b3), .val (.ref b10), .val (.ref b18), .val (.ref b34), .val (.ref b54), .val (.ref b63), .val (.ref b76), .val (.ref b87), .unset, .unset, .unset, .unset, .unset] [(.int pp), (.ref b18), (.ref b87)])) ?_ (fun t k => XS.iloadN X127.here hx rfl (hb hby at_204) rfl k)
    by_cases c205_5 : pp = (0 : Int32)
    · refine Gen.on (b := T127.setTop (mkF m 208 #[.val (.int p1), .val (.int p2), .val (.int p3), .val (.int pp), .val (.int nsx), .val (.int c0), .val (.int c1), .val (.int e0), .val (.int e1), .val (.ref b3), .val (.ref b10), .val (.ref b18), .val (.ref b34), .val (.ref b54), .val (.ref b63), .val (.ref b76), .val (.ref b87), .unset, .unset, .unset, .unset, .unset] [(.ref b18), (.ref b87)])) ?_ (fun t k => XS.ifNo X127.here hx rfl (hb hby at_205) rfl ((if0 _ _).trans (teq c205_5).2) k)
      refine Gen.on (b := T127.setTop (mkF m 209 #[.val (.int p1), .val (.int p2), .val (.int p3), .val (.int pp), .val (.int nsx), .val (.int c0), .val (.int c1), .val (.int e0), .val (.int e1), .val (.ref b3), .val (.ref b10), .val (.ref b18), .val (.ref b34), .val (.ref b54), .val (.ref b63), .val (.ref b76), .val (.ref b87), .unset, .unset, .unset, .unset, .unset] [(.int (1 : Int32)), (.ref b18), (.ref b87)])) ?_ (fun t k => XS.iconst X127.here hx rfl (hb hby at_208) k)
      refine Gen.on (b := T127.setTop (mkF m 213 #[.val (.int p1), .val (.int p2), .val (.int p3), .val (.int pp), .val (.int nsx), .val (.int c0), .val (.int c1), .val (.int e0), .val (.int e1), .val (.ref b3), .val (.ref b10), .val (.ref b18), .val (.ref b34), .val (.ref b54), .val (.ref b63), .val (.ref b76), .val (.ref b87), .unset, .unset, .unset, .unset, .unset] [(.int (1 : Int32)), (.ref b18), (.ref b87)])) ?_ (fun t k => XS.goto X127.here hx rfl (pc0 := 209) (pc' := 213) rfl (hb hby at_209) (by decide) (by decide) k)
      exact ⟨_, Steps.refl _, T127, X127, rfl, by simp only [if_pos c205_5]⟩
    · refine Gen.on (b := T127.setTop (mkF m 212 #[.val (.int p1), .val (.int p2), .val (.int p3), .val (.int pp), .val (.int nsx), .val (.int c0), .val (.int c1), .val (.int e0), .val (.int e1), .val (.ref b3), .val (.ref b10), .val (.ref b18), .val (.ref b34), .val (.ref b54), .val (.ref b63), .val (.ref b76), .val (.ref b87), .unset, .unset, .unset, .unset, .unset] [(.ref b18), (.ref b87)])) ?_ (fun t k => XS.ifYes X127.here hx rfl (pc0 := 205) (pc' := 212) rfl (hb hby at_205) rfl ((if0 _ _).trans (feq c205_5).2) (by decide) (by decide) k)
      refine Gen.on (b := T127.setTop (mkF m 213 #[.val (.int p1), .val (.int p2), .val (.int p3), .val (.int pp), .val (.int nsx), .val (.int c0), .val (.int c1), .val (.int e0), .val (.int e1), .val (.ref b3), .val (.ref b10), .val (.ref b18), .val (.ref b34), .val (.ref b54), .val (.ref b63), .val (.ref b76), .val (.ref b87), .unset, .unset, .unset, .unset, .unset] [(.int (0 : Int32)), (.ref b18), (.ref b87)])) ?_ (fun t k => XS.iconst X127.here hx rfl (hb hby at_212) k)
      exact ⟨_, Steps.refl _, T127, X127, rfl, by simp only [if_neg c205_5]⟩
  refine Gen.on (b := T129.setTop (mkF m 213 #[.val (.int p1), .val (.int p2), .val (.int p3), .val (.int pp), .val (.int nsx), .val (.int c0), .val (.int c1), .val (.int e0), .val (.int e1), .val (.ref b3), .val (.ref b10), .val (.ref b18), .val (.ref b34), .val (.ref b54), .val (.ref b63), .val (.ref b76), .val (.ref b87), .unset, .unset, .unset, .unset, .unset] [(.int (if pp = (0 : Int32) then (1 : Int32) else (0 : Int32))), (.ref b18), (.ref b87)])) ?_ (fun t k => st129.trans k)
  refine Gen.on (b := T129.setTop (mkF m 215 #[.val (.int p1), .val (.int p2), .val (.int p3), .val (.int pp), .val (.int nsx), .val (.int c0), .val (.int c1), .val (.int e0), .val (.int e1), .val (.ref b3), .val (.ref b10), .val (.ref b18), .val (.ref b34), .val (.ref b54), .val (.ref b63), .val (.ref b76), .val (.ref b87), .unset, .unset, .unset, .unset, .unset] [(.ref b76), (.int (if pp = (0 : Int32) then (1 : Int32) else (0 : Int32))), (.ref b18), (.ref b87)])) ?_ (fun t k => XS.aload X129.here hx rfl (hb hby at_213) rfl rfl k)
  refine Gen.on (b := T129.setTop (mkF m 216 #[.val (.int p1), .val (.int p2), .val (.int p3), .val (.int pp), .val (.int nsx), .val (.int c0), .val (.int c1), .val (.int e0), .val (.int e1), .val (.ref b3), .val (.ref b10), .val (.ref b18), .val (.ref b34), .val (.ref b54), .val (.ref b63), .val (.ref b76), .val (.ref b87), .unset, .unset, .unset, .unset, .unset] [(.int (0 : Int32)), (.ref b76), (.int (if pp = (0 : Int32) then (1 : Int32) else (0 : Int32))), (.ref b18), (.ref b87)])) ?_ (fun t k => XS.iconst X129.here hx rfl (hb hby at_215) k)
  refine Gen.on (b := T129.setTop (mkF m 217 #[.val (.int p1), .val (.int p2), .val (.int p3), .val (.int pp), .val (.int nsx), .val (.int c0), .val (.int c1), .val (.int e0), .val (.int e1), .val (.ref b3), .val (.ref b10), .val (.ref b18), .val (.ref b34), .val (.ref b54), .val (.ref b63), .val (.ref b76), .val (.ref b87), .unset, .unset, .unset, .unset, .unset] [(.int (2 : Int32)), (.int (0 : Int32)), (.ref b76), (.int (if pp = (0 : Int32) then (1 : Int32) else (0 : Int32))), (.ref b18), (.ref b87)])) ?_ (fun t k => XS.iconst X129.here hx rfl (hb hby at_216) k)
  have fa131 := (hf97_12.keep Kc127 (ninS (Ne.symm ne_b87_m1_97) nin0))
  have fa132 := (hf97_13.keep Kc127 (ninS (Ne.symm ne_b87_m2_97) nin0))
  have fa133 := (hf97_14.keep Kc127 (ninS (Ne.symm ne_b87_m3_97) nin0))
  have fa134 := (hf97_15.keep Kc127 (ninS (Ne.symm ne_b87_m4_97) nin0))
  have fa135 := (hf97_16.keep Kc127 (ninS (Ne.symm ne_b87_m5_97) nin0))
  have fa136 := (hf97_17.keep Kc127 (ninS (Ne.symm ne_b87_m6_97) nin0))
  have fa137 := (fa113.keep Kc127)
  have fa138 := (fa124.keep Kc127)
  obtain ⟨cq130, kq130, q130a, q130b, q130c⟩ := isOf hZ e129 hf127_0
  obtain ⟨_, _, ⟨T130, L130, k130, n130⟩, -, X130, ⟨Lc130, hQ130, l130, y130, z130⟩, st130⟩ := X129.virtualBack hx (y := (⟨"com/example/scheherazade/scheherazade/reader/TagParts", "addAttribute", "(Ljava/lang/String;Z[CII)V"⟩ : MethodName)) (z := (⟨"com/example/scheherazade/scheherazade/reader/TagParts", "addAttribute", "(Ljava/lang/String;Z[CII)V"⟩ : MethodName)) hown (mvT hZ (hw _ (List.mem_of_getElem? (i := 70) rfl))) (mvT hZ (hw _ (List.mem_of_getElem? (i := 71) rfl))) (notFace_of_selects (args := #[]) (mvT hZ (hw _ (List.mem_of_getElem? (i := 73) rfl)))) (mvT hZ (hw _ (List.mem_of_getElem? (i := 73) rfl))) (mvT hZ (hw _ (List.mem_of_getElem? (i := 72) rfl))) (by decide) (backOf (W := 0) (rm9 l Z a0 hw [] b87 b18 (if pp = (0 : Int32) then (1 : Int32) else (0 : Int32)) b76 (0 : Int32) (2 : Int32) (.ref b18) (.int (nar .boolean (if pp = (0 : Int32) then (1 : Int32) else (0 : Int32)))) (.ref b54) (.ref b3) m1_97 m2_97 m3_97 m4_97 m5_97 m6_97 kq1_97 kq2_97 kq3_97 kq4_97 kq5_97 kq6_97 .null (0 : Int32) .null (0 : Int32) (0 : Int32) .null T127.heap n0 Z127 hf127_0 fa137 fa138 hf127_1 hf127_2 hf127_3 hf127_4 hf127_5 hf127_6 hf127_7 hf127_8 hf127_9 hf127_10 hf127_11 fa131 fa132 fa133 fa134 fa135 fa136 g_b87 g_m1_97 g_m2_97 g_m3_97 g_m4_97 g_m5_97 g_m6_97 ne_b87_m1_97 ne_b87_m2_97 ne_b87_m3_97 ne_b87_m4_97 ne_b87_m5_97 ne_b87_m6_97 ne_m1_97_m2_97 ne_m1_97_m3_97 ne_m1_97_m4_97 ne_m1_97_m5_97 ne_m1_97_m6_97 ne_m2_97_m3_97 ne_m2_97_m4_97 ne_m2_97_m5_97 ne_m2_97_m6_97 ne_m3_97_m4_97 ne_m3_97_m5_97 ne_m3_97_m6_97 ne_m4_97_m5_97 ne_m4_97_m6_97 ne_m5_97_m6_97 (ov1_97) (ov3_97) (ov6_97)) hZ (hw _ (List.mem_of_getElem? (i := 74) rfl)) (hw _ (List.mem_of_getElem? (i := 32) rfl)) (by decide) (by decide)) q130a q130c (g := (mkF m 217 #[.val (.int p1), .val (.int p2), .val (.int p3), .val (.int pp), .val (.int nsx), .val (.int c0), .val (.int c1), .val (.int e0), .val (.int e1), .val (.ref b3), .val (.ref b10), .val (.ref b18), .val (.ref b34), .val (.ref b54), .val (.ref b63), .val (.ref b76), .val (.ref b87), .unset, .unset, .unset, .unset, .unset] [(.int (2 : Int32)), (.int (0 : Int32)), (.ref b76), (.int (if pp = (0 : Int32) then (1 : Int32) else (0 : Int32))), (.ref b18), (.ref b87)])) rfl (by rw [hml]; rfl) (Steps.refl _) (argsL := [(.ref b18), (.int (if pp = (0 : Int32) then (1 : Int32) else (0 : Int32))), (.ref b76), (.int (0 : Int32)), (.int (2 : Int32))]) (rest := []) (lenOf pd_0_3 rfl) rfl (by show 2 * 0 + _ ≤ _; exact Nat.le_of_eq rfl) (hb hby at_217) (fun _ _ => ⟨rfl, e129, (by decide : 18 + 0 ≤ _), (by decide : 60 + 0 ≤ _)⟩)
  dsimp only [Pt.U, Pt.locs, Pt.cells, Pt.slots] at X130 l130 y130 z130 st130 hQ130
  subst l130 y130 z130
  obtain ⟨rfl, N130q, Kc130, hf130_0, hf130_1, hf130_2, hf130_3, hf130_4, hf130_5, hf130_6, hf130_7, hf130_8, hf130_9, hf130_10, hf130_11, hf130_12, hf130_13, hf130_14, hf130_15, hf130_16, hf130_17⟩ := hQ130
  have N130 := Fr.app N127 N130q
  have sf139_b18 := Safe.keep Kc130 (sfS (Safe.exa hZ.alike hf127_0 (by decide) (by decide)) (sfS (Safe.arv hZ.alike fa131 (by decide)) (sfS (Safe.arv hZ.alike fa132 (by decide)) (sfS (Safe.arv hZ.alike fa133 (by decide)) (sfS (Safe.arv hZ.alike fa134 (by decide)) (sfS (Safe.arv hZ.alike fa135 (by decide)) (sfS (Safe.arv hZ.alike fa136 (by decide)) sf0))))))) CH128.1 sf128_b18
  have sf139_b34 := Safe.keep Kc130 (sfS (Safe.exa hZ.alike hf127_0 (by decide) (by decide)) (sfS (Safe.arv hZ.alike fa131 (by decide)) (sfS (Safe.arv hZ.alike fa132 (by decide)) (sfS (Safe.arv hZ.alike fa133 (by decide)) (sfS (Safe.arv hZ.alike fa134 (by decide)) (sfS (Safe.arv hZ.alike fa135 (by decide)) (sfS (Safe.arv hZ.alike fa136 (by decide)) sf0))))))) CH128.1 sf128_b34
  have CH139 := CHr.trans CH128 (CHr.keep Kc130 (sfS (Safe.exa hZ.alike hf127_0 (by decide) (by decide)) (sfS (Safe.arv hZ.alike fa131 (by decide)) (sfS (Safe.arv hZ.alike fa132 (by decide)) (sfS (Safe.arv hZ.alike fa133 (by decide)) (sfS (Safe.arv hZ.alike fa134 (by decide)) (sfS (Safe.arv hZ.alike fa135 (by decide)) (sfS (Safe.arv hZ.alike fa136 (by decide)) sf0))))))) CH128.1)
  have hk139 := Nat.le_trans hk128 Kc130.1
  have Z130 : n0 ≤ T130.heap.size := Nat.le_trans Z127 Kc130.1
  refine Gen.on (b := T130.setTop (mkF m 220 #[.val (.int p1), .val (.int p2), .val (.int p3), .val (.int pp), .val (.int nsx), .val (.int c0), .val (.int c1), .val (.int e0), .val (.int e1), .val (.ref b3), .val (.ref b10), .val (.ref b18), .val (.ref b34), .val (.ref b54), .val (.ref b63), .val (.ref b76), .val (.ref b87), .unset, .unset, .unset, .unset, .unset] [])) ?_ (fun t k => st130.trans k)
  refine Gen.on (b := T130.setTop (mkF m 222 #[.val (.int p1), .val (.int p2), .val (.int p3), .val (.int pp), .val (.int nsx), .val (.int c0), .val (.int c1), .val (.int e0), .val (.int e1), .val (.ref b3), .val (.ref b10), .val (.ref b18), .val (.ref b34), .val (.ref b54), .val (.ref b63), .val (.ref b76), .val (.ref b87), .unset, .unset, .unset, .unset, .unset] [(.ref b87)])) ?_ (fun t k => XS.aload X130.here hx rfl (hb hby at_220) rfl rfl k)
  refine Gen.on (b := T130.setTop (mkF m 224 #[.val (.int p1), .val (.int p2), .val (.int p3), .val (.int pp), .val (.int nsx), .val (.int c0), .val (.int c1), .val (.int e0), .val (.int e1), .val (.ref b3), .val (.ref b10), .val (.ref b18), .val (.ref b34), .val (.ref b54), .val (.ref b63), .val (.ref b76), .val (.ref b87), .unset, .unset, .unset, .unset, .unset] [(.ref b34), (.ref b87)])) ?_ (fun t k => XS.aload X130.here hx rfl (hb hby at_222) rfl rfl k)
  refine Gen.on (b := T130.setTop (mkF m 225 #[.val (.int p1), .val (.int p2), .val (.int p3), .val (.int pp), .val (.int nsx), .val (.int c0), .val (.int c1), .val (.int e0), .val (.int e1), .val (.ref b3), .val (.ref b10), .val (.ref b18), .val (.ref b34), .val (.ref b54), .val (.ref b63), .val (.ref b76), .val (.ref b87), .unset, .unset, .unset, .unset, .unset] [(.int pp), (.ref b34), (.ref b87)])) ?_ (fun t k => XS.iloadN X130.here hx rfl (hb hby at_224) rfl k)
  refine Gen.on (b := T130.setTop (mkF m 227 #[.val (.int p1), .val (.int p2), .val (.int p3), .val (.int pp), .val (.int nsx), .val (.int c0), .val (.int c1), .val (.int e0), .val (.int e1), .val (.ref b3), .val (.ref b10), .val (.ref b18), .val (.ref b34), .val (.ref b54), .val (.ref b63), .val (.ref b76), .val (.ref b87), .unset, .unset, .unset, .unset, .unset] [(.ref b63), (.int pp), (.ref b34), (.ref b87)])) ?_ (fun t k => XS.aload X130.here hx rfl (hb hby at_225) rfl rfl k)
  refine Gen.on (b := T130.setTop (mkF m 229 #[.val (.int p1), .val (.int p2), .val (.int p3), .val (.int pp), .val (.int nsx), .val (.int c0), .val (.int c1), .val (.int e0), .val (.int e1), .val (.ref b3), .val (.ref b10), .val (.ref b18), .val (.ref b34), .val (.ref b54), .val (.ref b63), .val (.ref b76), .val (.ref b87), .unset, .unset, .unset, .unset, .unset] [(.ref b10), (.ref b63), (.int pp), (.ref b34), (.ref b87)])) ?_ (fun t k => XS.aload X130.here hx rfl (hb hby at_227) rfl rfl k)
  obtain ⟨cq140, kq140, q140a, q140b, q140c⟩ := isOf hZ rfl hf130_0
  obtain ⟨_, _, ⟨T140, L140, k140, n140⟩, -, X140, ⟨Lc140, hQ140, l140, y140, z140⟩, st140⟩ := X130.virtualBack hx (y := (⟨"com/example/scheherazade/scheherazade/reader/TagParts", "start", "(Ljava/lang/String;Z[C[C)V"⟩ : MethodName)) (z := (⟨"com/example/scheherazade/scheherazade/reader/TagParts", "start", "(Ljava/lang/String;Z[C[C)V"⟩ : MethodName)) hown (mvT hZ (hw _ (List.mem_of_getElem? (i := 55) rfl))) (mvT hZ (hw _ (List.mem_of_getElem? (i := 56) rfl))) (notFace_of_selects (args := #[]) (mvT hZ (hw _ (List.mem_of_getElem? (i := 58) rfl)))) (mvT hZ (hw _ (List.mem_of_getElem? (i := 58) rfl))) (mvT hZ (hw _ (List.mem_of_getElem? (i := 57) rfl))) (by decide) (backOf (W := 0) (rm8 l Z a0 hw [] b87 b34 pp b63 b10 (.ref b18) (.int (nar .boolean (if pp = (0 : Int32) then (1 : Int32) else (0 : Int32)))) (.ref b54) (.ref b3) (.int ((0 : Int32) + (1 : Int32))) m1_97 m2_97 m3_97 m4_97 m5_97 m6_97 T130.heap n0 Z130 hf130_0 hf130_1 hf130_2 hf130_3 hf130_4 hf130_5 hf130_6 hf130_7 hf130_8 hf130_9 hf130_10 hf130_11 g_b87) hZ (hw _ (List.mem_of_getElem? (i := 59) rfl)) (hw _ (List.mem_of_getElem? (i := 32) rfl)) (by decide) (by decide)) q140a q140c (g := (mkF m 229 #[.val (.int p1), .val (.int p2), .val (.int p3), .val (.int pp), .val (.int nsx), .val (.int c0), .val (.int c1), .val (.int e0), .val (.int e1), .val (.ref b3), .val (.ref b10), .val (.ref b18), .val (.ref b34), .val (.ref b54), .val (.ref b63), .val (.ref b76), .val (.ref b87), .unset, .unset, .unset, .unset, .unset] [(.ref b10), (.ref b63), (.int pp), (.ref b34), (.ref b87)])) rfl (by rw [hml]; rfl) (Steps.refl _) (argsL := [(.ref b34), (.int pp), (.ref b63), (.ref b10)]) (rest := []) (lenOf pd_0_2 rfl) rfl (by show 2 * 0 + _ ≤ _; exact Nat.le_of_eq rfl) (hb hby at_229) (fun _ _ => ⟨rfl, rfl, (by decide : 18 + 0 ≤ _), (by decide : 60 + 0 ≤ _)⟩)
  dsimp only [Pt.U, Pt.locs, Pt.cells, Pt.slots] at X140 l140 y140 z140 st140 hQ140
  subst l140 y140 z140
  obtain ⟨rfl, N140q, Kc140, hf140_0, hf140_1, hf140_2, hf140_3, hf140_4, hf140_5, hf140_6, hf140_7, hf140_8, hf140_9, hf140_10, hf140_11⟩ := hQ140
  have N140 := Fr.app N130 N140q
  have sf141_b18 := Safe.keep Kc140 (sfS (Safe.exa hZ.alike hf130_0 (by decide) (by decide)) sf0) CH139.1 sf139_b18
  have sf141_b34 := Safe.keep Kc140 (sfS (Safe.exa hZ.alike hf130_0 (by decide) (by decide)) sf0) CH139.1 sf139_b34
  have CH141 := CHr.trans CH139 (CHr.keep Kc140 (sfS (Safe.exa hZ.alike hf130_0 (by decide) (by decide)) sf0) CH139.1)
  have hk141 := Nat.le_trans hk139 Kc140.1
  have Z140 : n0 ≤ T140.heap.size := Nat.le_trans Z130 Kc140.1
  refine Gen.on (b := T140.setTop (mkF m 232 #[.val (.int p1), .val (.int p2), .val (.int p3), .val (.int pp), .val (.int nsx), .val (.int c0), .val (.int c1), .val (.int e0), .val (.int e1), .val (.ref b3), .val (.ref b10), .val (.ref b18), .val (.ref b34), .val (.ref b54), .val (.ref b63), .val (.ref b76), .val (.ref b87), .unset, .unset, .unset, .unset, .unset] [])) ?_ (fun t k => st140.trans k)
  refine Gen.on (b := T140.setTop (mkF m 234 #[.val (.int p1), .val (.int p2), .val (.int p3), .val (.int pp), .val (.int nsx), .val (.int c0), .val (.int c1), .val (.int e0), .val (.int e1), .val (.ref b3), .val (.ref b10), .val (.ref b18), .val (.ref b34), .val (.ref b54), .val (.ref b63), .val (.ref b76), .val (.ref b87), .unset, .unset, .unset, .unset, .unset] [(.ref b87)])) ?_ (fun t k => XS.aload X140.here hx rfl (hb hby at_232) rfl rfl k)
  have fa143 := (hf130_12.keep Kc140 (ninS (Ne.symm ne_b87_m1_97) nin0))
  have fa144 := (hf130_13.keep Kc140 (ninS (Ne.symm ne_b87_m2_97) nin0))
  have fa145 := (hf130_14.keep Kc140 (ninS (Ne.symm ne_b87_m3_97) nin0))
  have fa146 := (hf130_15.keep Kc140 (ninS (Ne.symm ne_b87_m4_97) nin0))
  have fa147 := (hf130_16.keep Kc140 (ninS (Ne.symm ne_b87_m5_97) nin0))
  have fa148 := (hf130_17.keep Kc140 (ninS (Ne.symm ne_b87_m6_97) nin0))
  obtain ⟨cq142, kq142, q142a, q142b, q142c⟩ := isOf hZ rfl hf140_0
  obtain ⟨_, _, ⟨T142, L142, k142, n142⟩, -, X142, ⟨Lc142, hQ142, l142, y142, z142⟩, st142⟩ := X140.virtualBack hx (y := (⟨"com/example/scheherazade/scheherazade/reader/TagParts", "getName", "()Ljava/lang/String;"⟩ : MethodName)) (z := (⟨"com/example/scheherazade/scheherazade/reader/TagParts", "getName", "()Ljava/lang/String;"⟩ : MethodName)) hown (mvT hZ (hw _ (List.mem_of_getElem? (i := 76) rfl))) (mvT hZ (hw _ (List.mem_of_getElem? (i := 77) rfl))) (notFace_of_selects (args := #[]) (mvT hZ (hw _ (List.mem_of_getElem? (i := 79) rfl)))) (mvT hZ (hw _ (List.mem_of_getElem? (i := 79) rfl))) (mvT hZ (hw _ (List.mem_of_getElem? (i := 78) rfl))) (by decide) (backOf (W := 0) (rm10 l Z a0 hw [] b87 b34 T140.heap n0 Z140 hf140_0 hf140_1) hZ (hw _ (List.mem_of_getElem? (i := 80) rfl)) (hw _ (List.mem_of_getElem? (i := 32) rfl)) (by decide) (by decide)) q142a q142c (g := (mkF m 234 #[.val (.int p1), .val (.int p2), .val (.int p3), .val (.int pp), .val (.int nsx), .val (.int c0), .val (.int c1), .val (.int e0), .val (.int e1), .val (.ref b3), .val (.ref b10), .val (.ref b18), .val (.ref b34), .val (.ref b54), .val (.ref b63), .val (.ref b76), .val (.ref b87), .unset, .unset, .unset, .unset, .unset] [(.ref b87)])) rfl (by rw [hml]; rfl) (Steps.refl _) (argsL := []) (rest := []) (lenOf pd_0_4 rfl) rfl (by show 2 * 0 + _ ≤ _; exact Nat.le_of_eq rfl) (hb hby at_234) (fun _ _ => ⟨rfl, rfl, (by decide : 18 + 0 ≤ _), (by decide : 60 + 0 ≤ _)⟩)
  dsimp only [Pt.U, Pt.locs, Pt.cells, Pt.slots] at X142 l142 y142 z142 st142 hQ142
  subst l142 y142 z142
  obtain ⟨rfl, N142q, e142⟩ := hQ142
  have N142 := Fr.app N140 N142q
  refine Gen.on (b := T142.setTop (mkF m 237 #[.val (.int p1), .val (.int p2), .val (.int p3), .val (.int pp), .val (.int nsx), .val (.int c0), .val (.int c1), .val (.int e0), .val (.int e1), .val (.ref b3), .val (.ref b10), .val (.ref b18), .val (.ref b34), .val (.ref b54), .val (.ref b63), .val (.ref b76), .val (.ref b87), .unset, .unset, .unset, .unset, .unset] [(.ref b34)])) ?_ (fun t k => st142.trans k)
  refine Gen.on (b := T142.setTop (mkF m 239 #[.val (.int p1), .val (.int p2), .val (.int p3), .val (.int pp), .val (.int nsx), .val (.int c0), .val (.int c1), .val (.int e0), .val (.int e1), .val (.ref b3), .val (.ref b10), .val (.ref b18), .val (.ref b34), .val (.ref b54), .val (.ref b63), .val (.ref b76), .val (.ref b87), .unset, .unset, .unset, .unset, .unset] [(.ref b34), (.ref b34)])) ?_ (fun t k => XS.aload X142.here hx rfl (hb hby at_237) rfl rfl k)
  refine Gen.on (b := T142.setTop (mkF m 242 #[.val (.int p1), .val (.int p2), .val (.int p3), .val (.int pp), .val (.int nsx), .val (.int c0), .val (.int c1), .val (.int e0), .val (.int e1), .val (.ref b3), .val (.ref b10), .val (.ref b18), .val (.ref b34), .val (.ref b54), .val (.ref b63), .val (.ref b76), .val (.ref b87), .unset, .unset, .unset, .unset, .unset] [])) ?_ (fun t k => Jvm.RoadKit.acmp (g := (mkF m 239 #[.val (.int p1), .val (.int p2), .val (.int p3), .val (.int pp), .val (.int nsx), .val (.int c0), .val (.int c1), .val (.int e0), .val (.int e1), .val (.ref b3), .val (.ref b10), .val (.ref b18), .val (.ref b34), .val (.ref b54), .val (.ref b63), .val (.ref b76), .val (.ref b87), .unset, .unset, .unset, .unset, .unset] [(.ref b34), (.ref b34)])) X142 hx rfl rfl rfl (pc0 := 239) (pc' := 242) (same := true) rfl (hb hby at_239) rfl (decide_eq_true rfl) (by decide) (by decide) k)
  refine Gen.on (b := T142.setTop (mkF m 244 #[.val (.int p1), .val (.int p2), .val (.int p3), .val (.int pp), .val (.int nsx), .val (.int c0), .val (.int c1), .val (.int e0), .val (.int e1), .val (.ref b3), .val (.ref b10), .val (.ref b18), .val (.ref b34), .val (.ref b54), .val (.ref b63), .val (.ref b76), .val (.ref b87), .unset, .unset, .unset, .unset, .unset] [(.ref b87)])) ?_ (fun t k => XS.aload X142.here hx rfl (hb hby at_242) rfl rfl k)
  obtain ⟨cq149, kq149, q149a, q149b, q149c⟩ := isOf hZ e142 hf140_0
  obtain ⟨_, _, ⟨T149, L149, k149, n149⟩, -, X149, ⟨Lc149, hQ149, l149, y149, z149⟩, st149⟩ := X142.virtualBack hx (y := (⟨"com/example/scheherazade/scheherazade/reader/TagParts", "hasPrefix", "()Z"⟩ : MethodName)) (z := (⟨"com/example/scheherazade/scheherazade/reader/TagParts", "hasPrefix", "()Z"⟩ : MethodName)) hown (mvT hZ (hw _ (List.mem_of_getElem? (i := 81) rfl))) (mvT hZ (hw _ (List.mem_of_getElem? (i := 82) rfl))) (notFace_of_selects (args := #[]) (mvT hZ (hw _ (List.mem_of_getElem? (i := 84) rfl)))) (mvT hZ (hw _ (List.mem_of_getElem? (i := 84) rfl))) (mvT hZ (hw _ (List.mem_of_getElem? (i := 83) rfl))) (by decide) (backOf (W := 0) (rm11 l Z a0 hw [] b87 (nar .boolean pp) T140.heap n0 Z140 hf140_0 hf140_2 (by rw [k_pp]; exact k_pp)) hZ (hw _ (List.mem_of_getElem? (i := 85) rfl)) (hw _ (List.mem_of_getElem? (i := 32) rfl)) (by decide) (by decide)) q149a q149c (g := (mkF m 244 #[.val (.int p1), .val (.int p2), .val (.int p3), .val (.int pp), .val (.int nsx), .val (.int c0), .val (.int c1), .val (.int e0), .val (.int e1), .val (.ref b3), .val (.ref b10), .val (.ref b18), .val (.ref b34), .val (.ref b54), .val (.ref b63), .val (.ref b76), .val (.ref b87), .unset, .unset, .unset, .unset, .unset] [(.ref b87)])) rfl (by rw [hml]; rfl) (Steps.refl _) (argsL := []) (rest := []) (lenOf pd_0_5 rfl) rfl (by show 2 * 0 + _ ≤ _; exact Nat.le_of_eq rfl) (hb hby at_244) (fun _ _ => ⟨rfl, e142, (by decide : 18 + 0 ≤ _), (by decide : 60 + 0 ≤ _)⟩)
  dsimp only [Pt.U, Pt.locs, Pt.cells, Pt.slots] at X149 l149 y149 z149 st149 hQ149
  subst l149 y149 z149
  obtain ⟨rfl, N149q, e149⟩ := hQ149
  have N149 := Fr.app N142 N149q
  refine Gen.on (b := T149.setTop (mkF m 247 #[.val (.int p1), .val (.int p2), .val (.int p3), .val (.int pp), .val (.int nsx), .val (.int c0), .val (.int c1), .val (.int e0), .val (.int e1), .val (.ref b3), .val (.ref b10), .val (.ref b18), .val (.ref b34), .val (.ref b54), .val (.ref b63), .val (.ref b76), .val (.ref b87), .unset, .unset, .unset, .unset, .unset] [(.int (nar .boolean pp))])) ?_ (fun t k => st149.trans k)
  refine Gen.on (b := T149.setTop (mkF m 248 #[.val (.int p1), .val (.int p2), .val (.int p3), .val (.int pp), .val (.int nsx), .val (.int c0), .val (.int c1), .val (.int e0), .val (.int e1), .val (.ref b3), .val (.ref b10), .val (.ref b18), .val (.ref b34), .val (.ref b54), .val (.ref b63), .val (.ref b76), .val (.ref b87), .unset, .unset, .unset, .unset, .unset] [(.int pp), (.int (nar .boolean pp))])) ?_ (fun t k => XS.iloadN X149.here hx rfl (hb hby at_247) rfl k)
  refine Gen.on (b := T149.setTop (mkF m 251 #[.val (.int p1), .val (.int p2), .val (.int p3), .val (.int pp), .val (.int nsx), .val (.int c0), .val (.int c1), .val (.int e0), .val (.int e1), .val (.ref b3), .val (.ref b10), .val (.ref b18), .val (.ref b34), .val (.ref b54), .val (.ref b63), .val (.ref b76), .val (.ref b87), .unset, .unset, .unset, .unset, .unset] [])) ?_ (fun t k => XS.icmpNo X149.here hx rfl (hb hby at_248) rfl (teq k_pp).2 k)
  refine Gen.on (b := T149.setTop (mkF m 253 #[.val (.int p1), .val (.int p2), .val (.int p3), .val (.int pp), .val (.int nsx), .val (.int c0), .val (.int c1), .val (.int e0), .val (.int e1), .val (.ref b3), .val (.ref b10), .val (.ref b18), .val (.ref b34), .val (.ref b54), .val (.ref b63), .val (.ref b76), .val (.ref b87), .unset, .unset, .unset, .unset, .unset] [(.ref b87)])) ?_ (fun t k => XS.aload X149.here hx rfl (hb hby at_251) rfl rfl k)
  obtain ⟨cq150, kq150, q150a, q150b, q150c⟩ := isOf hZ e149 hf140_0
  obtain ⟨_, _, ⟨T150, L150, k150, n150⟩, -, X150, ⟨Lc150, hQ150, l150, y150, z150⟩, st150⟩ := X149.virtualBack hx (y := (⟨"com/example/scheherazade/scheherazade/reader/TagParts", "getNameSpelling", "()[C"⟩ : MethodName)) (z := (⟨"com/example/scheherazade/scheherazade/reader/TagParts", "getNameSpelling", "()[C"⟩ : MethodName)) hown (mvT hZ (hw _ (List.mem_of_getElem? (i := 86) rfl))) (mvT hZ (hw _ (List.mem_of_getElem? (i := 87) rfl))) (notFace_of_selects (args := #[]) (mvT hZ (hw _ (List.mem_of_getElem? (i := 89) rfl)))) (mvT hZ (hw _ (List.mem_of_getElem? (i := 89) rfl))) (mvT hZ (hw _ (List.mem_of_getElem? (i := 88) rfl))) (by decide) (backOf (W := 0) (rm12 l Z a0 hw [] b87 b63 T140.heap n0 Z140 hf140_0 hf140_3) hZ (hw _ (List.mem_of_getElem? (i := 90) rfl)) (hw _ (List.mem_of_getElem? (i := 32) rfl)) (by decide) (by decide)) q150a q150c (g := (mkF m 253 #[.val (.int p1), .val (.int p2), .val (.int p3), .val (.int pp), .val (.int nsx), .val (.int c0), .val (.int c1), .val (.int e0), .val (.int e1), .val (.ref b3), .val (.ref b10), .val (.ref b18), .val (.ref b34), .val (.ref b54), .val (.ref b63), .val (.ref b76), .val (.ref b87), .unset, .unset, .unset, .unset, .unset] [(.ref b87)])) rfl (by rw [hml]; rfl) (Steps.refl _) (argsL := []) (rest := []) (lenOf pd_0_6 rfl) rfl (by show 2 * 0 + _ ≤ _; exact Nat.le_of_eq rfl) (hb hby at_253) (fun _ _ => ⟨rfl, e149, (by decide : 18 + 0 ≤ _), (by decide : 60 + 0 ≤ _)⟩)
  dsimp only [Pt.U, Pt.locs, Pt.cells, Pt.slots] at X150 l150 y150 z150 st150 hQ150
  subst l150 y150 z150
  obtain ⟨rfl, N150q, e150⟩ := hQ150
  have N150 := Fr.app N149 N150q
  refine Gen.on (b := T150.setTop (mkF m 256 #[.val (.int p1), .val (.int p2), .val (.int p3), .val (.int pp), .val (.int nsx), .val (.int c0), .val (.int c1), .val (.int e0), .val (.int e1), .val (.ref b3), .val (.ref b10), .val (.ref b18), .val (.ref b34), .val (.ref b54), .val (.ref b63), .val (.ref b76), .val (.ref b87), .unset, .unset, .unset, .unset, .unset] [(.ref b63)])) ?_ (fun t k => st150.trans k)
  refine Gen.on (b := T150.setTop (mkF m 258 #[.val (.int p1), .val (.int p2), .val (.int p3), .val (.int pp), .val (.int nsx), .val (.int c0), .val (.int c1), .val (.int e0), .val (.int e1), .val (.ref b3), .val (.ref b10), .val (.ref b18), .val (.ref b34), .val (.ref b54), .val (.ref b63), .val (.ref b76), .val (.ref b87), .unset, .unset, .unset, .unset, .unset] [(.ref b63), (.ref b63)])) ?_ (fun t k => XS.aload X150.here hx rfl (hb hby at_256) rfl rfl k)
  refine Gen.on (b := T150.setTop (mkF m 261 #[.val (.int p1), .val (.int p2), .val (.int p3), .val (.int pp), .val (.int nsx), .val (.int c0), .val (.int c1), .val (.int e0), .val (.int e1), .val (.ref b3), .val (.ref b10), .val (.ref b18), .val (.ref b34), .val (.ref b54), .val (.ref b63), .val (.ref b76), .val (.ref b87), .unset, .unset, .unset, .unset, .unset] [])) ?_ (fun t k => Jvm.RoadKit.acmp (g := (mkF m 258 #[.val (.int p1), .val (.int p2), .val (.int p3), .val (.int pp), .val (.int nsx), .val (.int c0), .val (.int c1), .val (.int e0), .val (.int e1), .val (.ref b3), .val (.ref b10), .val (.ref b18), .val (.ref b34), .val (.ref b54), .val (.ref b63), .val (.ref b76), .val (.ref b87), .unset, .unset, .unset, .unset, .unset] [(.ref b63), (.ref b63)])) X150 hx rfl rfl rfl (pc0 := 258) (pc' := 261) (same := true) rfl (hb hby at_258) rfl (decide_eq_true rfl) (by decide) (by decide) k)
  refine Gen.on (b := T150.setTop (mkF m 263 #[.val (.int p1), .val (.int p2), .val (.int p3), .val (.int pp), .val (.int nsx), .val (.int c0), .val (.int c1), .val (.int e0), .val (.int e1), .val (.ref b3), .val (.ref b10), .val (.ref b18), .val (.ref b34), .val (.ref b54), .val (.ref b63), .val (.ref b76), .val (.ref b87), .unset, .unset, .unset, .unset, .unset] [(.ref b87)])) ?_ (fun t k => XS.aload X150.here hx rfl (hb hby at_261) rfl rfl k)
  obtain ⟨cq151, kq151, q151a, q151b, q151c⟩ := isOf hZ e150 hf140_0
  obtain ⟨_, _, ⟨T151, L151, k151, n151⟩, -, X151, ⟨Lc151, hQ151, l151, y151, z151⟩, st151⟩ := X150.virtualBack hx (y := (⟨"com/example/scheherazade/scheherazade/reader/TagParts", "getAttributeCount", "()I"⟩ : MethodName)) (z := (⟨"com/example/scheherazade/scheherazade/reader/TagParts", "getAttributeCount", "()I"⟩ : MethodName)) hown (mvT hZ (hw _ (List.mem_of_getElem? (i := 91) rfl))) (mvT hZ (hw _ (List.mem_of_getElem? (i := 92) rfl))) (notFace_of_selects (args := #[]) (mvT hZ (hw _ (List.mem_of_getElem? (i := 94) rfl)))) (mvT hZ (hw _ (List.mem_of_getElem? (i := 94) rfl))) (mvT hZ (hw _ (List.mem_of_getElem? (i := 93) rfl))) (by decide) (backOf (W := 0) (rm13 l Z a0 hw [] b87 (0 : Int32) T140.heap n0 Z140 hf140_0 hf140_5) hZ (hw _ (List.mem_of_getElem? (i := 95) rfl)) (hw _ (List.mem_of_getElem? (i := 32) rfl)) (by decide) (by decide)) q151a q151c (g := (mkF m 263 #[.val (.int p1), .val (.int p2), .val (.int p3), .val (.int pp), .val (.int nsx), .val (.int c0), .val (.int c1), .val (.int e0), .val (.int e1), .val (.ref b3), .val (.ref b10), .val (.ref b18), .val (.ref b34), .val (.ref b54), .val (.ref b63), .val (.ref b76), .val (.ref b87), .unset, .unset, .unset, .unset, .unset] [(.ref b87)])) rfl (by rw [hml]; rfl) (Steps.refl _) (argsL := []) (rest := []) (lenOf pd_0_7 rfl) rfl (by show 2 * 0 + _ ≤ _; exact Nat.le_of_eq rfl) (hb hby at_263) (fun _ _ => ⟨rfl, e150, (by decide : 18 + 0 ≤ _), (by decide : 60 + 0 ≤ _)⟩)
  dsimp only [Pt.U, Pt.locs, Pt.cells, Pt.slots] at X151 l151 y151 z151 st151 hQ151
  subst l151 y151 z151
  obtain ⟨rfl, N151q, e151⟩ := hQ151
  have N151 := Fr.app N150 N151q
  refine Gen.on (b := T151.setTop (mkF m 266 #[.val (.int p1), .val (.int p2), .val (.int p3), .val (.int pp), .val (.int nsx), .val (.int c0), .val (.int c1), .val (.int e0), .val (.int e1), .val (.ref b3), .val (.ref b10), .val (.ref b18), .val (.ref b34), .val (.ref b54), .val (.ref b63), .val (.ref b76), .val (.ref b87), .unset, .unset, .unset, .unset, .unset] [(.int (0 : Int32))])) ?_ (fun t k => st151.trans k)
  refine Gen.on (b := T151.setTop (mkF m 269 #[.val (.int p1), .val (.int p2), .val (.int p3), .val (.int pp), .val (.int nsx), .val (.int c0), .val (.int c1), .val (.int e0), .val (.int e1), .val (.ref b3), .val (.ref b10), .val (.ref b18), .val (.ref b34), .val (.ref b54), .val (.ref b63), .val (.ref b76), .val (.ref b87), .unset, .unset, .unset, .unset, .unset] [])) ?_ (fun t k => XS.ifNo X151.here hx rfl (hb hby at_266) rfl ((if0 _ _).trans (teq (by decide : (0 : Int32) = (0 : Int32))).2) k)
  refine Gen.on (b := T151.setTop (mkF m 271 #[.val (.int p1), .val (.int p2), .val (.int p3), .val (.int pp), .val (.int nsx), .val (.int c0), .val (.int c1), .val (.int e0), .val (.int e1), .val (.ref b3), .val (.ref b10), .val (.ref b18), .val (.ref b34), .val (.ref b54), .val (.ref b63), .val (.ref b76), .val (.ref b87), .unset, .unset, .unset, .unset, .unset] [(.ref b87)])) ?_ (fun t k => XS.aload X151.here hx rfl (hb hby at_269) rfl rfl k)
  refine Gen.on (b := T151.setTop (mkF m 272 #[.val (.int p1), .val (.int p2), .val (.int p3), .val (.int pp), .val (.int nsx), .val (.int c0), .val (.int c1), .val (.int e0), .val (.int e1), .val (.ref b3), .val (.ref b10), .val (.ref b18), .val (.ref b34), .val (.ref b54), .val (.ref b63), .val (.ref b76), .val (.ref b87), .unset, .unset, .unset, .unset, .unset] [(.int (0 : Int32)), (.ref b87)])) ?_ (fun t k => XS.iconst X151.here hx rfl (hb hby at_271) k)
  obtain ⟨cq152, kq152, q152a, q152b, q152c⟩ := isOf hZ e151 hf140_0
  obtain ⟨_, _, ⟨T152, L152, k152, n152⟩, -, X152, ⟨Lc152, hQ152, l152, y152, z152⟩, st152⟩ := X151.virtualBack hx (y := (⟨"com/example/scheherazade/scheherazade/reader/TagParts", "getLikelyAttributeSpelling", "(I)[C"⟩ : MethodName)) (z := (⟨"com/example/scheherazade/scheherazade/reader/TagParts", "getLikelyAttributeSpelling", "(I)[C"⟩ : MethodName)) hown (mvT hZ (hw _ (List.mem_of_getElem? (i := 96) rfl))) (mvT hZ (hw _ (List.mem_of_getElem? (i := 97) rfl))) (notFace_of_selects (args := #[]) (mvT hZ (hw _ (List.mem_of_getElem? (i := 99) rfl)))) (mvT hZ (hw _ (List.mem_of_getElem? (i := 99) rfl))) (mvT hZ (hw _ (List.mem_of_getElem? (i := 98) rfl))) (by decide) (backOf (W := 0) (rm14 l Z a0 hw [] b87 m3_97 kq3_97 b76 T140.heap n0 Z140 hf140_0 hf140_8 fa145) hZ (hw _ (List.mem_of_getElem? (i := 100) rfl)) (hw _ (List.mem_of_getElem? (i := 32) rfl)) (by decide) (by decide)) q152a q152c (g := (mkF m 272 #[.val (.int p1), .val (.int p2), .val (.int p3), .val (.int pp), .val (.int nsx), .val (.int c0), .val (.int c1), .val (.int e0), .val (.int e1), .val (.ref b3), .val (.ref b10), .val (.ref b18), .val (.ref b34), .val (.ref b54), .val (.ref b63), .val (.ref b76), .val (.ref b87), .unset, .unset, .unset, .unset, .unset] [(.int (0 : Int32)), (.ref b87)])) rfl (by rw [hml]; rfl) (Steps.refl _) (argsL := [(.int (0 : Int32))]) (rest := []) (lenOf pd_0_8 rfl) rfl (by show 2 * 0 + _ ≤ _; exact Nat.le_of_eq rfl) (hb hby at_272) (fun _ _ => ⟨rfl, e151, (by decide : 18 + 0 ≤ _), (by decide : 60 + 0 ≤ _)⟩)
  dsimp only [Pt.U, Pt.locs, Pt.cells, Pt.slots] at X152 l152 y152 z152 st152 hQ152
  subst l152 y152 z152
  obtain ⟨rfl, N152q, e152⟩ := hQ152
  have N152 := Fr.app N151 N152q
  refine Gen.on (b := T152.setTop (mkF m 275 #[.val (.int p1), .val (.int p2), .val (.int p3), .val (.int pp), .val (.int nsx), .val (.int c0), .val (.int c1), .val (.int e0), .val (.int e1), .val (.ref b3), .val (.ref b10), .val (.ref b18), .val (.ref b34), .val (.ref b54), .val (.ref b63), .val (.ref b76), .val (.ref b87), .unset, .unset, .unset, .unset, .unset] [(.ref b76)])) ?_ (fun t k => st152.trans k)
  refine Gen.on (b := T152.setTop (mkF m 277 #[.val (.int p1), .val (.int p2), .val (.int p3), .val (.int pp), .val (.int nsx), .val (.int c0), .val (.int c1), .val (.int e0), .val (.int e1), .val (.ref b3), .val (.ref b10), .val (.ref b18), .val (.ref b34), .val (.ref b54), .val (.ref b63), .val (.ref b76), .val (.ref b87), .unset, .unset, .unset, .unset, .unset] [(.ref b76), (.ref b76)])) ?_ (fun t k => XS.aload X152.here hx rfl (hb hby at_275) rfl rfl k)
  refine Gen.on (b := T152.setTop (mkF m 280 #[.val (.int p1), .val (.int p2), .val (.int p3), .val (.int pp), .val (.int nsx), .val (.int c0), .val (.int c1), .val (.int e0), .val (.int e1), .val (.ref b3), .val (.ref b10), .val (.ref b18), .val (.ref b34), .val (.ref b54), .val (.ref b63), .val (.ref b76), .val (.ref b87), .unset, .unset, .unset, .unset, .unset] [])) ?_ (fun t k => Jvm.RoadKit.acmp (g := (mkF m 277 #[.val (.int p1), .val (.int p2), .val (.int p3), .val (.int pp), .val (.int nsx), .val (.int c0), .val (.int c1), .val (.int e0), .val (.int e1), .val (.ref b3), .val (.ref b10), .val (.ref b18), .val (.ref b34), .val (.ref b54), .val (.ref b63), .val (.ref b76), .val (.ref b87), .unset, .unset, .unset, .unset, .unset] [(.ref b76), (.ref b76)])) X152 hx rfl rfl rfl (pc0 := 277) (pc' := 280) (same := true) rfl (hb hby at_277) rfl (decide_eq_true rfl) (by decide) (by decide) k)
  refine Gen.on (b := T152.setTop (mkF m 281 #[.val (.int p1), .val (.int p2), .val (.int p3), .val (.int pp), .val (.int nsx), .val (.int c0), .val (.int c1), .val (.int e0), .val (.int e1), .val (.ref b3), .val (.ref b10), .val (.ref b18), .val (.ref b34), .val (.ref b54), .val (.ref b63), .val (.ref b76), .val (.ref b87), .unset, .unset, .unset, .unset, .unset] [(.int (1 : Int32))])) ?_ (fun t k => XS.iconst X152.here hx rfl (hb hby at_280) k)
  refine Gen.on (b := T152.setTop (mkF m 285 #[.val (.int p1), .val (.int p2), .val (.int p3), .val (.int pp), .val (.int nsx), .val (.int c0), .val (.int c1), .val (.int e0), .val (.int e1), .val (.ref b3), .val (.ref b10), .val (.ref b18), .val (.ref b34), .val (.ref b54), .val (.ref b63), .val (.ref b76), .val (.ref b87), .unset, .unset, .unset, .unset, .unset] [(.int (1 : Int32))])) ?_ (fun t k => XS.goto X152.here hx rfl (pc0 := 281) (pc' := 285) rfl (hb hby at_281) (by decide) (by decide) k)
  refine Gen.on (b := T152.setTop (mkF m 287 #[.val (.int p1), .val (.int p2), .val (.int p3), .val (.int pp), .val (.int nsx), .val (.int c0), .val (.int c1), .val (.int e0), .val (.int e1), .val (.ref b3), .val (.ref b10), .val (.ref b18), .val (.ref b34), .val (.ref b54), .val (.ref b63), .val (.ref b76), .val (.ref b87), .val (.int (1 : Int32)), .unset, .unset, .unset, .unset] [])) ?_ (fun t k => XS.istore X152.here hx rfl (hb hby at_285) rfl (l' := #[.val (.int p1), .val (.int p2), .val (.int p3), .val (.int pp), .val (.int nsx), .val (.int c0), .val (.int c1), .val (.int e0), .val (.int e1), .val (.ref b3), .val (.ref b10), .val (.ref b18), .val (.ref b34), .val (.ref b54), .val (.ref b63), .val (.ref b76), .val (.ref b87), .val (.int (1 : Int32)), .unset, .unset, .unset, .unset]) rfl k)
  refine Gen.on (b := T152.setTop (mkF m 288 #[.val (.int p1), .val (.int p2), .val (.int p3), .val (.int pp), .val (.int nsx), .val (.int c0), .val (.int c1), .val (.int e0), .val (.int e1), .val (.ref b3), .val (.ref b10), .val (.ref b18), .val (.ref b34), .val (.ref b54), .val (.ref b63), .val (.ref b76), .val (.ref b87), .val (.int (1 : Int32)), .unset, .unset, .unset, .unset] [(.int p3)])) ?_ (fun t k => XS.iloadN X152.here hx rfl (hb hby at_287) rfl k)
  refine Gen.on (b := T152.setTop (mkF m 289 #[.val (.int p1), .val (.int p2), .val (.int p3), .val (.int pp), .val (.int nsx), .val (.int c0), .val (.int c1), .val (.int e0), .val (.int e1), .val (.ref b3), .val (.ref b10), .val (.ref b18), .val (.ref b34), .val (.ref b54), .val (.ref b63), .val (.ref b76), .val (.ref b87), .val (.int (1 : Int32)), .unset, .unset, .unset, .unset] [(.int (2 : Int32)), (.int p3)])) ?_ (fun t k => XS.iconst X152.here hx rfl (hb hby at_288) k)
  refine Gen.on (b := T152.setTop (mkF m 290 #[.val (.int p1), .val (.int p2), .val (.int p3), .val (.int pp), .val (.int nsx), .val (.int c0), .val (.int c1), .val (.int e0), .val (.int e1), .val (.ref b3), .val (.ref b10), .val (.ref b18), .val (.ref b34), .val (.ref b54), .val (.ref b63), .val (.ref b76), .val (.ref b87), .val (.int (1 : Int32)), .unset, .unset, .unset, .unset] [(.int ((p3.toUInt32 >>> ((2 : Int32) &&& 31).toUInt32).toInt32))])) ?_ (fun t k => XS.iushr X152.here hx rfl (hb hby at_289) rfl k)
  refine Gen.on (b := T152.setTop (mkF m 291 #[.val (.int p1), .val (.int p2), .val (.int p3), .val (.int pp), .val (.int nsx), .val (.int c0), .val (.int c1), .val (.int e0), .val (.int e1), .val (.ref b3), .val (.ref b10), .val (.ref b18), .val (.ref b34), .val (.ref b54), .val (.ref b63), .val (.ref b76), .val (.ref b87), .val (.int (1 : Int32)), .unset, .unset, .unset, .unset] [(.int (1 : Int32)), (.int ((p3.toUInt32 >>> ((2 : Int32) &&& 31).toUInt32).toInt32))])) ?_ (fun t k => XS.iconst X152.here hx rfl (hb hby at_290) k)
  refine Gen.on (b := T152.setTop (mkF m 292 #[.val (.int p1), .val (.int p2), .val (.int p3), .val (.int pp), .val (.int nsx), .val (.int c0), .val (.int c1), .val (.int e0), .val (.int e1), .val (.ref b3), .val (.ref b10), .val (.ref b18), .val (.ref b34), .val (.ref b54), .val (.ref b63), .val (.ref b76), .val (.ref b87), .val (.int (1 : Int32)), .unset, .unset, .unset, .unset] [(.int (((p3.toUInt32 >>> ((2 : Int32) &&& 31).toUInt32).toInt32) &&& (1 : Int32)))])) ?_ (fun t k => XS.iand X152.here hx rfl (hb hby at_291) rfl k)
  refine Gen.on (b := T152.setTop (mkF m 294 #[.val (.int p1), .val (.int p2), .val (.int p3), .val (.int pp), .val (.int nsx), .val (.int c0), .val (.int c1), .val (.int e0), .val (.int e1), .val (.ref b3), .val (.ref b10), .val (.ref b18), .val (.ref b34), .val (.ref b54), .val (.ref b63), .val (.ref b76), .val (.ref b87), .val (.int (1 : Int32)), .val (.int (((p3.toUInt32 >>> ((2 : Int32) &&& 31).toUInt32).toInt32) &&& (1 : Int32))), .unset, .unset, .unset] [])) ?_ (fun t k => XS.istore X152.here hx rfl (hb hby at_292) rfl (l' := #[.val (.int p1), .val (.int p2), .val (.int p3), .val (.int pp), .val (.int nsx), .val (.int c0), .val (.int c1), .val (.int e0), .val (.int e1), .val (.ref b3), .val (.ref b10), .val (.ref b18), .val (.ref b34), .val (.ref b54), .val (.ref b63), .val (.ref b76), .val (.ref b87), .val (.int (1 : Int32)), .val (.int (((p3.toUInt32 >>> ((2 : Int32) &&& 31).toUInt32).toInt32) &&& (1 : Int32))), .unset, .unset, .unset]) rfl k)
  obtain ⟨sx, h_sx⟩ : ∃ z, z = (((p3.toUInt32 >>> ((2 : Int32) &&& 31).toUInt32).toInt32) &&& (1 : Int32)) := ⟨_, rfl⟩
  rw [← h_sx]
  refine Gen.on (b := T152.setTop (mkF m 295 #[.val (.int p1), .val (.int p2), .val (.int p3), .val (.int pp), .val (.int nsx), .val (.int c0), .val (.int c1), .val (.int e0), .val (.int e1), .val (.ref b3), .val (.ref b10), .val (.ref b18), .val (.ref b34), .val (.ref b54), .val (.ref b63), .val (.ref b76), .val (.ref b87), .val (.int (1 : Int32)), .val (.int sx), .unset, .unset, .unset] [(.int p3)])) ?_ (fun t k => XS.iloadN X152.here hx rfl (hb hby at_294) rfl k)
  refine Gen.on (b := T152.setTop (mkF m 296 #[.val (.int p1), .val (.int p2), .val (.int p3), .val (.int pp), .val (.int nsx), .val (.int c0), .val (.int c1), .val (.int e0), .val (.int e1), .val (.ref b3), .val (.ref b10), .val (.ref b18), .val (.ref b34), .val (.ref b54), .val (.ref b63), .val (.ref b76), .val (.ref b87), .val (.int (1 : Int32)), .val (.int sx), .unset, .unset, .unset] [(.int (3 : Int32)), (.int p3)])) ?_ (fun t k => XS.iconst X152.here hx rfl (hb hby at_295) k)
  refine Gen.on (b := T152.setTop (mkF m 297 #[.val (.int p1), .val (.int p2), .val (.int p3), .val (.int pp), .val (.int nsx), .val (.int c0), .val (.int c1), .val (.int e0), .val (.int e1), .val (.ref b3), .val (.ref b10), .val (.ref b18), .val (.ref b34), .val (.ref b54), .val (.ref b63), .val (.ref b76), .val (.ref b87), .val (.int (1 : Int32)), .val (.int sx), .unset, .unset, .unset] [(.int ((p3.toUInt32 >>> ((3 : Int32) &&& 31).toUInt32).toInt32))])) ?_ (fun t k => XS.iushr X152.here hx rfl (hb hby at_296) rfl k)
  refine Gen.on (b := T152.setTop (mkF m 298 #[.val (.int p1), .val (.int p2), .val (.int p3), .val (.int pp), .val (.int nsx), .val (.int c0), .val (.int c1), .val (.int e0), .val (.int e1), .val (.ref b3), .val (.ref b10), .val (.ref b18), .val (.ref b34), .val (.ref b54), .val (.ref b63), .val (.ref b76), .val (.ref b87), .val (.int (1 : Int32)), .val (.int sx), .unset, .unset, .unset] [(.int (3 : Int32)), (.int ((p3.toUInt32 >>> ((3 : Int32) &&& 31).toUInt32).toInt32))])) ?_ (fun t k => XS.iconst X152.here hx rfl (hb hby at_297) k)
  refine Gen.on (b := T152.setTop (mkF m 299 #[.val (.int p1), .val (.int p2), .val (.int p3), .val (.int pp), .val (.int nsx), .val (.int c0), .val (.int c1), .val (.int e0), .val (.int e1), .val (.ref b3), .val (.ref b10), .val (.ref b18), .val (.ref b34), .val (.ref b54), .val (.ref b63), .val (.ref b76), .val (.ref b87), .val (.int (1 : Int32)), .val (.int sx), .unset, .unset, .unset] [(.int (((p3.toUInt32 >>> ((3 : Int32) &&& 31).toUInt32).toInt32) &&& (3 : Int32)))])) ?_ (fun t k => XS.iand X152.here hx rfl (hb hby at_298) rfl k)
  refine Gen.on (b := T152.setTop (mkF m 300 #[.val (.int p1), .val (.int p2), .val (.int p3), .val (.int pp), .val (.int nsx), .val (.int c0), .val (.int c1), .val (.int e0), .val (.int e1), .val (.ref b3), .val (.ref b10), .val (.ref b18), .val (.ref b34), .val (.ref b54), .val (.ref b63), .val (.ref b76), .val (.ref b87), .val (.int (1 : Int32)), .val (.int sx), .unset, .unset, .unset] [(.int (3 : Int32)), (.int (((p3.toUInt32 >>> ((3 : Int32) &&& 31).toUInt32).toInt32) &&& (3 : Int32)))])) ?_ (fun t k => XS.iconst X152.here hx rfl (hb hby at_299) k)
  refine Gen.on (b := T152.setTop (mkF m 302 #[.val (.int p1), .val (.int p2), .val (.int p3), .val (.int pp), .val (.int nsx), .val (.int c0), .val (.int c1), .val (.int e0), .val (.int e1), .val (.ref b3), .val (.ref b10), .val (.ref b18), .val (.ref b34), .val (.ref b54), .val (.ref b63), .val (.ref b76), .val (.ref b87), .val (.int (1 : Int32)), .val (.int sx), .unset, .unset, .unset] [(.int sx), (.int (3 : Int32)), (.int (((p3.toUInt32 >>> ((3 : Int32) &&& 31).toUInt32).toInt32) &&& (3 : Int32)))])) ?_ (fun t k => XS.iload X152.here hx rfl (hb hby at_300) rfl k)
  refine Gen.on (b := T152.setTop (mkF m 303 #[.val (.int p1), .val (.int p2), .val (.int p3), .val (.int pp), .val (.int nsx), .val (.int c0), .val (.int c1), .val (.int e0), .val (.int e1), .val (.ref b3), .val (.ref b10), .val (.ref b18), .val (.ref b34), .val (.ref b54), .val (.ref b63), .val (.ref b76), .val (.ref b87), .val (.int (1 : Int32)), .val (.int sx), .unset, .unset, .unset] [(.int ((3 : Int32) - sx)), (.int (((p3.toUInt32 >>> ((3 : Int32) &&& 31).toUInt32).toInt32) &&& (3 : Int32)))])) ?_ (fun t k => XS.isub X152.here hx rfl (hb hby at_302) rfl k)
  refine Gen.on (b := T152.setTop (mkF m 304 #[.val (.int p1), .val (.int p2), .val (.int p3), .val (.int pp), .val (.int nsx), .val (.int c0), .val (.int c1), .val (.int e0), .val (.int e1), .val (.ref b3), .val (.ref b10), .val (.ref b18), .val (.ref b34), .val (.ref b54), .val (.ref b63), .val (.ref b76), .val (.ref b87), .val (.int (1 : Int32)), .val (.int sx), .unset, .unset, .unset] [(.int ((((p3.toUInt32 >>> ((3 : Int32) &&& 31).toUInt32).toInt32) &&& (3 : Int32)) % ((3 : Int32) - sx)))])) ?_ (fun t k => iremM X152 hx rfl (hb hby at_303) rfl (own_3s _ h_sx) k)
  refine Gen.on (b := T152.setTop (mkF m 306 #[.val (.int p1), .val (.int p2), .val (.int p3), .val (.int pp), .val (.int nsx), .val (.int c0), .val (.int c1), .val (.int e0), .val (.int e1), .val (.ref b3), .val (.ref b10), .val (.ref b18), .val (.ref b34), .val (.ref b54), .val (.ref b63), .val (.ref b76), .val (.ref b87), .val (.int (1 : Int32)), .val (.int sx), .val (.int ((((p3.toUInt32 >>> ((3 : Int32) &&& 31).toUInt32).toInt32) &&& (3 : Int32)) % ((3 : Int32) - sx))), .unset, .unset] [])) ?_ (fun t k => XS.istore X152.here hx rfl (hb hby at_304) rfl (l' := #[.val (.int p1), .val (.int p2), .val (.int p3), .val (.int pp), .val (.int nsx), .val (.int c0), .val (.int c1), .val (.int e0), .val (.int e1), .val (.ref b3), .val (.ref b10), .val (.ref b18), .val (.ref b34), .val (.ref b54), .val (.ref b63), .val (.ref b76), .val (.ref b87), .val (.int (1 : Int32)), .val (.int sx), .val (.int ((((p3.toUInt32 >>> ((3 : Int32) &&& 31).toUInt32).toInt32) &&& (3 : Int32)) % ((3 : Int32) - sx))), .unset, .unset]) rfl k)
  obtain ⟨ln, h_ln⟩ : ∃ z, z = ((((p3.toUInt32 >>> ((3 : Int32) &&& 31).toUInt32).toInt32) &&& (3 : Int32)) % ((3 : Int32) - sx)) := ⟨_, rfl⟩
  rw [← h_ln]
  have k_kl := own_klm _ _ h_sx h_ln
  by_cases hz : ln = (0 : Int32)
  · subst hz
    have fa153 := (((fa108.keep Kc127 (allS g_b87 all0)).keep Kc130 (allS g_b87 (allS g_m1_97 (allS g_m2_97 (allS g_m3_97 (allS g_m4_97 (allS g_m5_97 (allS g_m6_97 all0)))))))).keep Kc140 (allS g_b87 all0))
    have fa154 := (((fa109.keep Kc127 (ninS ne_b3_b87 nin0)).keep Kc130 (ninS ne_b3_b87 (ninS ne_b3_m1_97 (ninS ne_b3_m2_97 (ninS ne_b3_m3_97 (ninS ne_b3_m4_97 (ninS ne_b3_m5_97 (ninS ne_b3_m6_97 nin0)))))))).keep Kc140 (ninS ne_b3_b87 nin0))
    have fa155 := (((fa110.keep Kc127).keep Kc130).keep Kc140)
    have fa156 := (((fa111.keep Kc127 (ninS ne_b10_b87 nin0)).keep Kc130 (ninS ne_b10_b87 (ninS ne_b10_m1_97 (ninS ne_b10_m2_97 (ninS ne_b10_m3_97 (ninS ne_b10_m4_97 (ninS ne_b10_m5_97 (ninS ne_b10_m6_97 nin0)))))))).keep Kc140 (ninS ne_b10_b87 nin0))
    have fa157 := (((fa112.keep Kc127).keep Kc130).keep Kc140)
    have fa158 := ((fa137.keep Kc130).keep Kc140)
    have fa159 := (((fa114.keep Kc127 (ninS ne_b21_b87 nin0)).keep Kc130 (ninS ne_b21_b87 (ninS ne_b21_m1_97 (ninS ne_b21_m2_97 (ninS ne_b21_m3_97 (ninS ne_b21_m4_97 (ninS ne_b21_m5_97 (ninS ne_b21_m6_97 nin0)))))))).keep Kc140 (ninS ne_b21_b87 nin0))
    have fa160 := (((fa115.keep Kc127).keep Kc130).keep Kc140)
    have fa161 := (((fa116.keep Kc127).keep Kc130).keep Kc140)
    have fa162 := (((fa117.keep Kc127 (ninS ne_b39_b87 nin0)).keep Kc130 (ninS ne_b39_b87 (ninS ne_b39_m1_97 (ninS ne_b39_m2_97 (ninS ne_b39_m3_97 (ninS ne_b39_m4_97 (ninS ne_b39_m5_97 (ninS ne_b39_m6_97 nin0)))))))).keep Kc140 (ninS ne_b39_b87 nin0))
    have fa163 := (((fa118.keep Kc127).keep Kc130).keep Kc140)
    have fa164 := (((fa119.keep Kc127 (ninS ne_b54_b87 nin0)).keep Kc130 (ninS ne_b54_b87 (ninS ne_b54_m1_97 (ninS ne_b54_m2_97 (ninS ne_b54_m3_97 (ninS ne_b54_m4_97 (ninS ne_b54_m5_97 (ninS ne_b54_m6_97 nin0)))))))).keep Kc140 (ninS ne_b54_b87 nin0))
    have fa165 := (((fa120.keep Kc127).keep Kc130).keep Kc140)
    have fa166 := (((fa121.keep Kc127 (ninS ne_b63_b87 nin0)).keep Kc130 (ninS ne_b63_b87 (ninS ne_b63_m1_97 (ninS ne_b63_m2_97 (ninS ne_b63_m3_97 (ninS ne_b63_m4_97 (ninS ne_b63_m5_97 (ninS ne_b63_m6_97 nin0)))))))).keep Kc140 (ninS ne_b63_b87 nin0))
    have fa167 := (((fa122.keep Kc127).keep Kc130).keep Kc140)
    have fa168 := (((fa123.keep Kc127 (ninS ne_b76_b87 nin0)).keep Kc130 (ninS ne_b76_b87 (ninS ne_b76_m1_97 (ninS ne_b76_m2_97 (ninS ne_b76_m3_97 (ninS ne_b76_m4_97 (ninS ne_b76_m5_97 (ninS ne_b76_m6_97 nin0)))))))).keep Kc140 (ninS ne_b76_b87 nin0))
    have fa169 := ((fa138.keep Kc130).keep Kc140)
    exact seg170 hw hx hby hml hret hlocks hh sts hZ hown X152 N152 Z140 hS0 hk141 CH141 e152 fa153 fa154 fa156 fa158 fa159 fa161 fa162 fa164 fa166 fa168 hf140_0 fa143 fa144 fa145 fa146 fa147 fa148 hf140_1 hf140_2 hf140_3 hf140_4 hf140_5 hf140_6 hf140_7 hf140_8 hf140_9 hf140_10 hf140_11 sf141_b18 sf141_b34 ne_b3_b87 ne_b10_b87 ne_b21_b87 ne_b39_b87 ne_b54_b87 ne_b63_b87 ne_b76_b87 ne_b3_m1_97 ne_b10_m1_97 ne_b21_m1_97 ne_b39_m1_97 ne_b54_m1_97 ne_b63_m1_97 ne_b76_m1_97 ne_b87_m1_97 ne_b3_m2_97 ne_b10_m2_97 ne_b21_m2_97 ne_b39_m2_97 ne_b54_m2_97 ne_b63_m2_97 ne_b76_m2_97 ne_b87_m2_97 ne_b3_m3_97 ne_b10_m3_97 ne_b21_m3_97 ne_b39_m3_97 ne_b54_m3_97 ne_b63_m3_97 ne_b76_m3_97 ne_b87_m3_97 ne_b3_m4_97 ne_b10_m4_97 ne_b21_m4_97 ne_b39_m4_97 ne_b54_m4_97 ne_b63_m4_97 ne_b76_m4_97 ne_b87_m4_97 ne_b3_m5_97 ne_b10_m5_97 ne_b21_m5_97 ne_b39_m5_97 ne_b54_m5_97 ne_b63_m5_97 ne_b76_m5_97 ne_b87_m5_97 ne_b3_m6_97 ne_b10_m6_97 ne_b21_m6_97 ne_b39_m6_97 ne_b54_m6_97 ne_b63_m6_97 ne_b76_m6_97 ne_b87_m6_97 ne_m1_97_m2_97 ne_m1_97_m3_97 ne_m1_97_m4_97 ne_m1_97_m5_97 ne_m1_97_m6_97 ne_m2_97_m3_97 ne_m2_97_m4_97 ne_m2_97_m5_97 ne_m2_97_m6_97 ne_m3_97_m4_97 ne_m3_97_m5_97 ne_m3_97_m6_97 ne_m4_97_m5_97 ne_m4_97_m6_97 ne_m5_97_m6_97 g_b87 g_m1_97 g_m2_97 g_m3_97 g_m4_97 g_m5_97 g_m6_97 ov1_97 ov3_97 ov6_97 k_kl
  · have fa194 := (((fa108.keep Kc127 (allS g_b87 all0)).keep Kc130 (allS g_b87 (allS g_m1_97 (allS g_m2_97 (allS g_m3_97 (allS g_m4_97 (allS g_m5_97 (allS g_m6_97 all0)))))))).keep Kc140 (allS g_b87 all0))
    have fa195 := (((fa109.keep Kc127 (ninS ne_b3_b87 nin0)).keep Kc130 (ninS ne_b3_b87 (ninS ne_b3_m1_97 (ninS ne_b3_m2_97 (ninS ne_b3_m3_97 (ninS ne_b3_m4_97 (ninS ne_b3_m5_97 (ninS ne_b3_m6_97 nin0)))))))).keep Kc140 (ninS ne_b3_b87 nin0))
    have fa196 := (((fa110.keep Kc127).keep Kc130).keep Kc140)
    have fa197 := (((fa111.keep Kc127 (ninS ne_b10_b87 nin0)).keep Kc130 (ninS ne_b10_b87 (ninS ne_b10_m1_97 (ninS ne_b10_m2_97 (ninS ne_b10_m3_97 (ninS ne_b10_m4_97 (ninS ne_b10_m5_97 (ninS ne_b10_m6_97 nin0)))))))).keep Kc140 (ninS ne_b10_b87 nin0))
    have fa198 := (((fa112.keep Kc127).keep Kc130).keep Kc140)
    have fa199 := ((fa137.keep Kc130).keep Kc140)
    have fa200 := (((fa114.keep Kc127 (ninS ne_b21_b87 nin0)).keep Kc130 (ninS ne_b21_b87 (ninS ne_b21_m1_97 (ninS ne_b21_m2_97 (ninS ne_b21_m3_97 (ninS ne_b21_m4_97 (ninS ne_b21_m5_97 (ninS ne_b21_m6_97 nin0)))))))).keep Kc140 (ninS ne_b21_b87 nin0))
    have fa201 := (((fa115.keep Kc127).keep Kc130).keep Kc140)
    have fa202 := (((fa116.keep Kc127).keep Kc130).keep Kc140)
    have fa203 := (((fa117.keep Kc127 (ninS ne_b39_b87 nin0)).keep Kc130 (ninS ne_b39_b87 (ninS ne_b39_m1_97 (ninS ne_b39_m2_97 (ninS ne_b39_m3_97 (ninS ne_b39_m4_97 (ninS ne_b39_m5_97 (ninS ne_b39_m6_97 nin0)))))))).keep Kc140 (ninS ne_b39_b87 nin0))
    have fa204 := (((fa118.keep Kc127).keep Kc130).keep Kc140)
    have fa205 := (((fa119.keep Kc127 (ninS ne_b54_b87 nin0)).keep Kc130 (ninS ne_b54_b87 (ninS ne_b54_m1_97 (ninS ne_b54_m2_97 (ninS ne_b54_m3_97 (ninS ne_b54_m4_97 (ninS ne_b54_m5_97 (ninS ne_b54_m6_97 nin0)))))))).keep Kc140 (ninS ne_b54_b87 nin0))
    have fa206 := (((fa120.keep Kc127).keep Kc130).keep Kc140)
    have fa207 := (((fa121.keep Kc127 (ninS ne_b63_b87 nin0)).keep Kc130 (ninS ne_b63_b87 (ninS ne_b63_m1_97 (ninS ne_b63_m2_97 (ninS ne_b63_m3_97 (ninS ne_b63_m4_97 (ninS ne_b63_m5_97 (ninS ne_b63_m6_97 nin0)))))))).keep Kc140 (ninS ne_b63_b87 nin0))
    have fa208 := (((fa122.keep Kc127).keep Kc130).keep Kc140)
    have fa209 := (((fa123.keep Kc127 (ninS ne_b76_b87 nin0)).keep Kc130 (ninS ne_b76_b87 (ninS ne_b76_m1_97 (ninS ne_b76_m2_97 (ninS ne_b76_m3_97 (ninS ne_b76_m4_97 (ninS ne_b76_m5_97 (ninS ne_b76_m6_97 nin0)))))))).keep Kc140 (ninS ne_b76_b87 nin0))
    have fa210 := ((fa138.keep Kc130).keep Kc140)
    exact seg211 hw hx hby hml hret hlocks hh sts hZ hown X152 N152 Z140 hS0 hk141 CH141 e152 fa194 fa195 fa197 fa199 fa200 fa202 fa203 fa205 fa207 fa209 hf140_0 fa143 fa144 fa145 fa146 fa147 fa148 hf140_1 hf140_2 hf140_3 hf140_4 hf140_5 hf140_6 hf140_7 hf140_8 hf140_9 hf140_10 hf140_11 sf141_b18 sf141_b34 ne_b3_b87 ne_b10_b87 ne_b21_b87 ne_b39_b87 ne_b54_b87 ne_b63_b87 ne_b76_b87 ne_b3_m1_97 ne_b10_m1_97 ne_b21_m1_97 ne_b39_m1_97 ne_b54_m1_97 ne_b63_m1_97 ne_b76_m1_97 ne_b87_m1_97 ne_b3_m2_97 ne_b10_m2_97 ne_b21_m2_97 ne_b39_m2_97 ne_b54_m2_97 ne_b63_m2_97 ne_b76_m2_97 ne_b87_m2_97 ne_b3_m3_97 ne_b10_m3_97 ne_b21_m3_97 ne_b39_m3_97 ne_b54_m3_97 ne_b63_m3_97 ne_b76_m3_97 ne_b87_m3_97 ne_b3_m4_97 ne_b10_m4_97 ne_b21_m4_97 ne_b39_m4_97 ne_b54_m4_97 ne_b63_m4_97 ne_b76_m4_97 ne_b87_m4_97 ne_b3_m5_97 ne_b10_m5_97 ne_b21_m5_97 ne_b39_m5_97 ne_b54_m5_97 ne_b63_m5_97 ne_b76_m5_97 ne_b87_m5_97 ne_b3_m6_97 ne_b10_m6_97 ne_b21_m6_97 ne_b39_m6_97 ne_b54_m6_97 ne_b63_m6_97 ne_b76_m6_97 ne_b87_m6_97 ne_m1_97_m2_97 ne_m1_97_m3_97 ne_m1_97_m4_97 ne_m1_97_m5_97 ne_m1_97_m6_97 ne_m2_97_m3_97 ne_m2_97_m4_97 ne_m2_97_m5_97 ne_m2_97_m6_97 ne_m3_97_m4_97 ne_m3_97_m5_97 ne_m3_97_m6_97 ne_m4_97_m5_97 ne_m4_97_m6_97 ne_m5_97_m6_97 g_b87 g_m1_97 g_m2_97 g_m3_97 g_m4_97 g_m5_97 g_m6_97 hz ov1_97 ov3_97 ov6_97 k_kl k_c0 k_c1
set_option maxRecDepth 65536 in
set_option maxHeartbeats 40000000 in
theorem seg331 {p : Program} {l : Launch} {e : Env} {s : State} {m : MethodId} {below : List Frame} {meth : Method} {c : Code} {Z : State} {a0 : Array Value} {locs : List Loc} {kS n0 : Nat} {f0 : Value} {h0 : Heap} {w0 : Int32} {p1 : Int32} {p2 : Int32} {p3 : Int32} {T315 : State} {T303 : State} {b3 : Addr} {e0 : Int32} {e1 : Int32} {b10 : Addr} {c0 : Int32} {c1 : Int32} {b18 : Addr} {b21 : Addr} {b34 : Addr} {b39 : Addr} {b54 : Addr} {b244 : Addr} {b254 : Addr} {m1_263 : Addr} {kq1_263 : ClassId} {m2_263 : Addr} {kq2_263 : ClassId} {pp : Int32} {m3_263 : Addr} {kq3_263 : ClassId} {m4_263 : Addr} {kq4_263 : ClassId} {m5_263 : Addr} {kq5_263 : ClassId} {m6_263 : Addr} {kq6_263 : ClassId} {sx : Int32} {nsx : Int32} (hw : ∀ d ∈ tables_1, d.before a0 Z = true) (hx : p.tables.exec = Jvm.exec) (hby : c.code = code) (hml : c.maxLocals = 22) (hret : meth.sig.returnType = ret) (hlocks : meth.locks = false) (hh : s.heap = h0) (sts : Sts Z w0 f0) (hZ : Z.Warmed39 (s.setVm s.vm).vm) (hown : (s.setVm s.vm).vm.findClass "com/example/scheherazade/scheherazade/reader/TagPartsStartPinLaw" = some m.cls) (X315 : Stand p l e room_1 (s.setVm s.vm) m #[(.int p1), (.int p2), (.int p3)] below meth c T315 locs 17 58) (N315 : Fr n0 locs) (Z303 : n0 ≤ T303.heap.size) (hS0 : s.Since s.vm kS) (hk304 : kS ≤ T303.heap.size) (CH304 : CHr Z consts_1 s.vm h0 s.vm T303.heap) (e315 : T315.heap = T303.heap) (fa316 : Old Z n0 T303.heap) (fa317 : Afn Z T303.heap b3 .char (2 : Int32) (own_upd (own_upd (fun _ => 0) (0 : Int32) (nar .char e0)) (1 : Int32) (nar .char e1))) (fa319 : Afn Z T303.heap b10 .char (2 : Int32) (own_y c0 c1)) (fa321 : Exa Z T303.heap b18 "java/lang/String") (fa322 : Afn Z T303.heap b21 .char (1 : Int32) (own_y e0 e0)) (fa324 : Exa Z T303.heap b34 "java/lang/String") (fa325 : Afn Z T303.heap b39 .char (1 : Int32) (own_y c0 c0)) (fa327 : Afn Z T303.heap b54 .char (1 : Int32) (own_upd (fun _ => 0) (0 : Int32) (nar .char e0))) (fa329 : Afn Z T303.heap b244 .char (1 : Int32) (own_upd (fun _ => 0) (0 : Int32) (nar .char e1))) (hf303_0 : Exa Z T303.heap b254 "com/example/scheherazade/scheherazade/reader/TagParts") (fa306 : Arv Z T303.heap m1_263 kq1_263 (.object "java/lang/String") (4 : Int32) [(.ref b18), .null, .null, .null] .null) (fa307 : Arv Z T303.heap m2_263 kq2_263 .boolean (4 : Int32) [(.int (nar .boolean (if pp = (0 : Int32) then (1 : Int32) else (0 : Int32)))), (.int (0 : Int32)), (.int (0 : Int32)), (.int (0 : Int32))] (.int (0 : Int32))) (fa308 : Arv Z T303.heap m3_263 kq3_263 (.array .char) (4 : Int32) [(.ref b244), .null, .null, .null] .null) (fa309 : Arv Z T303.heap m4_263 kq4_263 .int (4 : Int32) [(.int (0 : Int32)), (.int (0 : Int32)), (.int (0 : Int32)), (.int (0 : Int32))] (.int (0 : Int32))) (fa310 : Arv Z T303.heap m5_263 kq5_263 .int (4 : Int32) [(.int (2 : Int32)), (.int (0 : Int32)), (.int (0 : Int32)), (.int (0 : Int32))] (.int (0 : Int32))) (fa311 : Arv Z T303.heap m6_263 kq6_263 (.object "java/lang/String") (4 : Int32) [.null, .null, .null, .null] .null) (hf303_1 : Fld Z T303.heap b254 "com/example/scheherazade/scheherazade/reader/TagParts" "name" "Ljava/lang/String;" (.ref b34)) (hf303_2 : Fld Z T303.heap b254 "com/example/scheherazade/scheherazade/reader/TagParts" "prefixed" "Z" (.int (nar .boolean pp))) (hf303_3 : Fld Z T303.heap b254 "com/example/scheherazade/scheherazade/reader/TagParts" "nameSpelling" "[C" .null) (hf303_4 : Fld Z T303.heap b254 "com/example/scheherazade/scheherazade/reader/TagParts" "source" "[C" (.ref b10)) (hf303_5 : Fld Z T303.heap b254 "com/example/scheherazade/scheherazade/reader/TagParts" "attributeCount" "I" (.int (0 : Int32))) (hf303_6 : Fld Z T303.heap b254 "com/example/scheherazade/scheherazade/reader/TagParts" "attributeNames" "[Ljava/lang/String;" (.ref m1_263)) (hf303_7 : Fld Z T303.heap b254 "com/example/scheherazade/scheherazade/reader/TagParts" "attributePrefixes" "[Z" (.ref m2_263)) (hf303_8 : Fld Z T303.heap b254 "com/example/scheherazade/scheherazade/reader/TagParts" "attributeSpellings" "[[C" (.ref m3_263)) (hf303_9 : Fld Z T303.heap b254 "com/example/scheherazade/scheherazade/reader/TagParts" "valueStarts" "[I" (.ref m4_263)) (hf303_10 : Fld Z T303.heap b254 "com/example/scheherazade/scheherazade/reader/TagParts" "valueLengths" "[I" (.ref m5_263)) (hf303_11 : Fld Z T303.heap b254 "com/example/scheherazade/scheherazade/reader/TagParts" "attributeValues" "[Ljava/lang/String;" (.ref m6_263)) (sf304_b18 : Safe Z consts_1 s.vm T303.heap b18) (sf304_b34 : Safe Z consts_1 s.vm T303.heap b34) (ne_b3_b254 : b3 ≠ b254) (ne_b10_b254 : b10 ≠ b254) (ne_b21_b254 : b21 ≠ b254) (ne_b39_b254 : b39 ≠ b254) (ne_b54_b254 : b54 ≠ b254) (ne_b244_b254 : b244 ≠ b254) (ne_b3_m1_263 : b3 ≠ m1_263) (ne_b10_m1_263 : b10 ≠ m1_263) (ne_b21_m1_263 : b21 ≠ m1_263) (ne_b39_m1_263 : b39 ≠ m1_263) (ne_b54_m1_263 : b54 ≠ m1_263) (ne_b244_m1_263 : b244 ≠ m1_263) (ne_b254_m1_263 : b254 ≠ m1_263) (ne_b3_m2_263 : b3 ≠ m2_263) (ne_b10_m2_263 : b10 ≠ m2_263) (ne_b21_m2_263 : b21 ≠ m2_263) (ne_b39_m2_263 : b39 ≠ m2_263) (ne_b54_m2_263 : b54 ≠ m2_263) (ne_b244_m2_263 : b244 ≠ m2_263) (ne_b254_m2_263 : b254 ≠ m2_263) (ne_b3_m3_263 : b3 ≠ m3_263) (ne_b10_m3_263 : b10 ≠ m3_263) (ne_b21_m3_263 : b21 ≠ m3_263) (ne_b39_m3_263 : b39 ≠ m3_263) (ne_b54_m3_263 : b54 ≠ m3_263) (ne_b244_m3_263 : b244 ≠ m3_263) (ne_b254_m3_263 : b254 ≠ m3_263) (ne_b3_m4_263 : b3 ≠ m4_263) (ne_b10_m4_263 : b10 ≠ m4_263) (ne_b21_m4_263 : b21 ≠ m4_263) (ne_b39_m4_263 : b39 ≠ m4_263) (ne_b54_m4_263 : b54 ≠ m4_263) (ne_b244_m4_263 : b244 ≠ m4_263) (ne_b254_m4_263 : b254 ≠ m4_263) (ne_b3_m5_263 : b3 ≠ m5_263) (ne_b10_m5_263 : b10 ≠ m5_263) (ne_b21_m5_263 : b21 ≠ m5_263) (ne_b39_m5_263 : b39 ≠ m5_263) (ne_b54_m5_263 : b54 ≠ m5_263) (ne_b244_m5_263 : b244 ≠ m5_263) (ne_b254_m5_263 : b254 ≠ m5_263) (ne_b3_m6_263 : b3 ≠ m6_263) (ne_b10_m6_263 : b10 ≠ m6_263) (ne_b21_m6_263 : b21 ≠ m6_263) (ne_b39_m6_263 : b39 ≠ m6_263) (ne_b54_m6_263 : b54 ≠ m6_263) (ne_b244_m6_263 : b244 ≠ m6_263) (ne_b254_m6_263 : b254 ≠ m6_263) (ne_m1_263_m2_263 : m1_263 ≠ m2_263) (ne_m1_263_m3_263 : m1_263 ≠ m3_263) (ne_m1_263_m4_263 : m1_263 ≠ m4_263) (ne_m1_263_m5_263 : m1_263 ≠ m5_263) (ne_m1_263_m6_263 : m1_263 ≠ m6_263) (ne_m2_263_m3_263 : m2_263 ≠ m3_263) (ne_m2_263_m4_263 : m2_263 ≠ m4_263) (ne_m2_263_m5_263 : m2_263 ≠ m5_263) (ne_m2_263_m6_263 : m2_263 ≠ m6_263) (ne_m3_263_m4_263 : m3_263 ≠ m4_263) (ne_m3_263_m5_263 : m3_263 ≠ m5_263) (ne_m3_263_m6_263 : m3_263 ≠ m6_263) (ne_m4_263_m5_263 : m4_263 ≠ m5_263) (ne_m4_263_m6_263 : m4_263 ≠ m6_263) (ne_m5_263_m6_263 : m5_263 ≠ m6_263) (g_b254 : n0 ≤ b254) (g_m1_263 : n0 ≤ m1_263) (g_m2_263 : n0 ≤ m2_263) (g_m3_263 : n0 ≤ m3_263) (g_m4_263 : n0 ≤ m4_263) (g_m5_263 : n0 ≤ m5_263) (g_m6_263 : n0 ≤ m6_263) (ov1_263 : Ovr Z kq1_263 "java/lang/String") (ov3_263 : OvrA Z kq3_263 .char "[C") (ov6_263 : Ovr Z kq6_263 "java/lang/String") (k_kl : own_kl sx (0 : Int32)) :
    OwnS Z consts_1 p e below s (Q0 n0) room_1.cells room_1.slots (T315.setTop (mkF m 306 #[.val (.int p1), .val (.int p2), .val (.int p3), .val (.int pp), .val (.int nsx), .val (.int c0), .val (.int c1), .val (.int e0), .val (.int e1), .val (.ref b3), .val (.ref b10), .val (.ref b18), .val (.ref b34), .val (.ref b54), .val .null, .val (.ref b244), .val (.ref b254), .val (.int (1 : Int32)), .val (.int sx), .val (.int (0 : Int32)), .unset, .unset] [])) := by
  obtain ⟨SC, hw0, SF, hf0⟩ := id sts
  have hEL : EW Z a0 consts_1 := own_hEL hw
  have wS := own_wS hw
  refine Gen.on (b := T315.setTop (mkF m 308 #[.val (.int p1), .val (.int p2), .val (.int p3), .val (.int pp), .val (.int nsx), .val (.int c0), .val (.int c1), .val (.int e0), .val (.int e1), .val (.ref b3), .val (.ref b10), .val (.ref b18), .val (.ref b34), .val (.ref b54), .val .null, .val (.ref b244), .val (.ref b254), .val (.int (1 : Int32)), .val (.int sx), .val (.int (0 : Int32)), .unset, .unset] [(.ref b254)])) ?_ (fun t k => XS.aload X315.here hx rfl (hb hby at_306) rfl rfl k)
  refine Gen.on (b := T315.setTop (mkF m 310 #[.val (.int p1), .val (.int p2), .val (.int p3), .val (.int pp), .val (.int nsx), .val (.int c0), .val (.int c1), .val (.int e0), .val (.int e1), .val (.ref b3), .val (.ref b10), .val (.ref b18), .val (.ref b34), .val (.ref b54), .val .null, .val (.ref b244), .val (.ref b254), .val (.int (1 : Int32)), .val (.int sx), .val (.int (0 : Int32)), .unset, .unset] [(.ref b34), (.ref b254)])) ?_ (fun t k => XS.aload X315.here hx rfl (hb hby at_308) rfl rfl k)
  refine Gen.on (b := T315.setTop (mkF m 311 #[.val (.int p1), .val (.int p2), .val (.int p3), .val (.int pp), .val (.int nsx), .val (.int c0), .val (.int c1), .val (.int e0), .val (.int e1), .val (.ref b3), .val (.ref b10), .val (.ref b18), .val (.ref b34), .val (.ref b54), .val .null, .val (.ref b244), .val (.ref b254), .val (.int (1 : Int32)), .val (.int sx), .val (.int (0 : Int32)), .unset, .unset] [(.int pp), (.ref b34), (.ref b254)])) ?_ (fun t k => XS.iloadN X315.here hx rfl (hb hby at_310) rfl k)
  refine Gen.on (b := T315.setTop (mkF m 312 #[.val (.int p1), .val (.int p2), .val (.int p3), .val (.int pp), .val (.int nsx), .val (.int c0), .val (.int c1), .val (.int e0), .val (.int e1), .val (.ref b3), .val (.ref b10), .val (.ref b18), .val (.ref b34), .val (.ref b54), .val .null, .val (.ref b244), .val (.ref b254), .val (.int (1 : Int32)), .val (.int sx), .val (.int (0 : Int32)), .unset, .unset] [.null, (.int pp), (.ref b34), (.ref b254)])) ?_ (fun t k => XS.aconstNull X315.here hx rfl (hb hby at_311) k)
  refine Gen.on (b := T315.setTop (mkF m 314 #[.val (.int p1), .val (.int p2), .val (.int p3), .val (.int pp), .val (.int nsx), .val (.int c0), .val (.int c1), .val (.int e0), .val (.int e1), .val (.ref b3), .val (.ref b10), .val (.ref b18), .val (.ref b34), .val (.ref b54), .val .null, .val (.ref b244), .val (.ref b254), .val (.int (1 : Int32)), .val (.int sx), .val (.int (0 : Int32)), .unset, .unset] [(.int sx), .null, (.int pp), (.ref b34), (.ref b254)])) ?_ (fun t k => XS.iload X315.here hx rfl (hb hby at_312) rfl k)
  refine Gen.on (b := T315.setTop (mkF m 316 #[.val (.int p1), .val (.int p2), .val (.int p3), .val (.int pp), .val (.int nsx), .val (.int c0), .val (.int c1), .val (.int e0), .val (.int e1), .val (.ref b3), .val (.ref b10), .val (.ref b18), .val (.ref b34), .val (.ref b54), .val .null, .val (.ref b244), .val (.ref b254), .val (.int (1 : Int32)), .val (.int sx), .val (.int (0 : Int32)), .unset, .unset] [(.int (0 : Int32)), (.int sx), .null, (.int pp), (.ref b34), (.ref b254)])) ?_ (fun t k => XS.iload X315.here hx rfl (hb hby at_314) rfl k)
  obtain ⟨cq332, kq332, q332a, q332b, q332c⟩ := isOf hZ e315 hf303_0
  obtain ⟨_, _, ⟨T332, L332, k332, n332⟩, -, X332, ⟨Lc332, hQ332, l332, y332, z332⟩, st332⟩ := X315.virtualBack hx (y := (⟨"com/example/scheherazade/scheherazade/reader/TagParts", "addAttribute", "(Ljava/lang/String;Z[CII)V"⟩ : MethodName)) (z := (⟨"com/example/scheherazade/scheherazade/reader/TagParts", "addAttribute", "(Ljava/lang/String;Z[CII)V"⟩ : MethodName)) hown (mvT hZ (hw _ (List.mem_of_getElem? (i := 70) rfl))) (mvT hZ (hw _ (List.mem_of_getElem? (i := 71) rfl))) (notFace_of_selects (args := #[]) (mvT hZ (hw _ (List.mem_of_getElem? (i := 73) rfl)))) (mvT hZ (hw _ (List.mem_of_getElem? (i := 73) rfl))) (mvT hZ (hw _ (List.mem_of_getElem? (i := 72) rfl))) (by decide) (backOf (W := 0) (rm9n l Z a0 hw [] b254 b34 pp sx (0 : Int32) (.ref b34) (.int (nar .boolean pp)) .null (.ref b10) m1_263 m2_263 m3_263 m4_263 m5_263 m6_263 kq1_263 kq2_263 kq3_263 kq4_263 kq5_263 kq6_263 (.ref b18) (nar .boolean (if pp = (0 : Int32) then (1 : Int32) else (0 : Int32))) (.ref b244) (0 : Int32) (2 : Int32) .null T303.heap n0 Z303 hf303_0 fa324 hf303_1 hf303_2 hf303_3 hf303_4 hf303_5 hf303_6 hf303_7 hf303_8 hf303_9 hf303_10 hf303_11 fa306 fa307 fa308 fa309 fa310 fa311 g_b254 g_m1_263 g_m2_263 g_m3_263 g_m4_263 g_m5_263 g_m6_263 ne_b254_m1_263 ne_b254_m2_263 ne_b254_m3_263 ne_b254_m4_263 ne_b254_m5_263 ne_b254_m6_263 ne_m1_263_m2_263 ne_m1_263_m3_263 ne_m1_263_m4_263 ne_m1_263_m5_263 ne_m1_263_m6_263 ne_m2_263_m3_263 ne_m2_263_m4_263 ne_m2_263_m5_263 ne_m2_263_m6_263 ne_m3_263_m4_263 ne_m3_263_m5_263 ne_m3_263_m6_263 ne_m4_263_m5_263 ne_m4_263_m6_263 ne_m5_263_m6_263 (ov1_263) (ov3_263) (ov6_263)) hZ (hw _ (List.mem_of_getElem? (i := 74) rfl)) (hw _ (List.mem_of_getElem? (i := 32) rfl)) (by decide) (by decide)) q332a q332c (g := (mkF m 316 #[.val (.int p1), .val (.int p2), .val (.int p3), .val (.int pp), .val (.int nsx), .val (.int c0), .val (.int c1), .val (.int e0), .val (.int e1), .val (.ref b3), .val (.ref b10), .val (.ref b18), .val (.ref b34), .val (.ref b54), .val .null, .val (.ref b244), .val (.ref b254), .val (.int (1 : Int32)), .val (.int sx), .val (.int (0 : Int32)), .unset, .unset] [(.int (0 : Int32)), (.int sx), .null, (.int pp), (.ref b34), (.ref b254)])) rfl (by rw [hml]; rfl) (Steps.refl _) (argsL := [(.ref b34), (.int pp), .null, (.int sx), (.int (0 : Int32))]) (rest := []) (lenOf pd_0_3 rfl) rfl (by show 2 * 0 + _ ≤ _; exact Nat.le_of_eq rfl) (hb hby at_316) (fun _ _ => ⟨rfl, e315, (by decide : 17 + 0 ≤ _), (by decide : 58 + 0 ≤ _)⟩)
  dsimp only [Pt.U, Pt.locs, Pt.cells, Pt.slots] at X332 l332 y332 z332 st332 hQ332
  subst l332 y332 z332
  obtain ⟨rfl, N332q, Kc332, hf332_0, hf332_1, hf332_2, hf332_3, hf332_4, hf332_5, hf332_6, hf332_7, hf332_8, hf332_9, hf332_10, hf332_11, hf332_12, hf332_13, hf332_14, hf332_15, hf332_16, hf332_17⟩ := hQ332
  have N332 := Fr.app N315 N332q
  have sf333_b18 := Safe.keep Kc332 (sfS (Safe.exa hZ.alike hf303_0 (by decide) (by decide)) (sfS (Safe.arv hZ.alike fa306 (by decide)) (sfS (Safe.arv hZ.alike fa307 (by decide)) (sfS (Safe.arv hZ.alike fa308 (by decide)) (sfS (Safe.arv hZ.alike fa309 (by decide)) (sfS (Safe.arv hZ.alike fa310 (by decide)) (sfS (Safe.arv hZ.alike fa311 (by decide)) sf0))))))) CH304.1 sf304_b18
  have sf333_b34 := Safe.keep Kc332 (sfS (Safe.exa hZ.alike hf303_0 (by decide) (by decide)) (sfS (Safe.arv hZ.alike fa306 (by decide)) (sfS (Safe.arv hZ.alike fa307 (by decide)) (sfS (Safe.arv hZ.alike fa308 (by decide)) (sfS (Safe.arv hZ.alike fa309 (by decide)) (sfS (Safe.arv hZ.alike fa310 (by decide)) (sfS (Safe.arv hZ.alike fa311 (by decide)) sf0))))))) CH304.1 sf304_b34
  have CH333 := CHr.trans CH304 (CHr.keep Kc332 (sfS (Safe.exa hZ.alike hf303_0 (by decide) (by decide)) (sfS (Safe.arv hZ.alike fa306 (by decide)) (sfS (Safe.arv hZ.alike fa307 (by decide)) (sfS (Safe.arv hZ.alike fa308 (by decide)) (sfS (Safe.arv hZ.alike fa309 (by decide)) (sfS (Safe.arv hZ.alike fa310 (by decide)) (sfS (Safe.arv hZ.alike fa311 (by decide)) sf0))))))) CH304.1)
  have hk333 := Nat.le_trans hk304 Kc332.1
  have Z332 : n0 ≤ T332.heap.size := Nat.le_trans Z303 Kc332.1
  refine Gen.on (b := T332.setTop (mkF m 319 #[.val (.int p1), .val (.int p2), .val (.int p3), .val (.int pp), .val (.int nsx), .val (.int c0), .val (.int c1), .val (.int e0), .val (.int e1), .val (.ref b3), .val (.ref b10), .val (.ref b18), .val (.ref b34), .val (.ref b54), .val .null, .val (.ref b244), .val (.ref b254), .val (.int (1 : Int32)), .val (.int sx), .val (.int (0 : Int32)), .unset, .unset] [])) ?_ (fun t k => st332.trans k)
  refine Gen.on (b := T332.setTop (mkF m 321 #[.val (.int p1), .val (.int p2), .val (.int p3), .val (.int pp), .val (.int nsx), .val (.int c0), .val (.int c1), .val (.int e0), .val (.int e1), .val (.ref b3), .val (.ref b10), .val (.ref b18), .val (.ref b34), .val (.ref b54), .val .null, .val (.ref b244), .val (.ref b254), .val (.int (1 : Int32)), .val (.int sx), .val (.int (0 : Int32)), .unset, .unset] [(.ref b254)])) ?_ (fun t k => XS.aload X332.here hx rfl (hb hby at_319) rfl rfl k)
  refine Gen.on (b := T332.setTop (mkF m 322 #[.val (.int p1), .val (.int p2), .val (.int p3), .val (.int pp), .val (.int nsx), .val (.int c0), .val (.int c1), .val (.int e0), .val (.int e1), .val (.ref b3), .val (.ref b10), .val (.ref b18), .val (.ref b34), .val (.ref b54), .val .null, .val (.ref b244), .val (.ref b254), .val (.int (1 : Int32)), .val (.int sx), .val (.int (0 : Int32)), .unset, .unset] [(.int (0 : Int32)), (.ref b254)])) ?_ (fun t k => XS.iconst X332.here hx rfl (hb hby at_321) k)
  have fa335 := (fa317.keep Kc332 (ninS ne_b3_b254 (ninS ne_b3_m1_263 (ninS ne_b3_m2_263 (ninS ne_b3_m3_263 (ninS ne_b3_m4_263 (ninS ne_b3_m5_263 (ninS ne_b3_m6_263 nin0))))))))
  have fa336 := (fa319.keep Kc332 (ninS ne_b10_b254 (ninS ne_b10_m1_263 (ninS ne_b10_m2_263 (ninS ne_b10_m3_263 (ninS ne_b10_m4_263 (ninS ne_b10_m5_263 (ninS ne_b10_m6_263 nin0))))))))
  have fa337 := (fa321.keep Kc332)
  have fa338 := (fa322.keep Kc332 (ninS ne_b21_b254 (ninS ne_b21_m1_263 (ninS ne_b21_m2_263 (ninS ne_b21_m3_263 (ninS ne_b21_m4_263 (ninS ne_b21_m5_263 (ninS ne_b21_m6_263 nin0))))))))
  have fa339 := (fa324.keep Kc332)
  have fa340 := (fa325.keep Kc332 (ninS ne_b39_b254 (ninS ne_b39_m1_263 (ninS ne_b39_m2_263 (ninS ne_b39_m3_263 (ninS ne_b39_m4_263 (ninS ne_b39_m5_263 (ninS ne_b39_m6_263 nin0))))))))
  have fa341 := (fa327.keep Kc332 (ninS ne_b54_b254 (ninS ne_b54_m1_263 (ninS ne_b54_m2_263 (ninS ne_b54_m3_263 (ninS ne_b54_m4_263 (ninS ne_b54_m5_263 (ninS ne_b54_m6_263 nin0))))))))
  have fa342 := (fa329.keep Kc332 (ninS ne_b244_b254 (ninS ne_b244_m1_263 (ninS ne_b244_m2_263 (ninS ne_b244_m3_263 (ninS ne_b244_m4_263 (ninS ne_b244_m5_263 (ninS ne_b244_m6_263 nin0))))))))
  have fa343 := (fa316.keep Kc332 (allS g_b254 (allS g_m1_263 (allS g_m2_263 (allS g_m3_263 (allS g_m4_263 (allS g_m5_263 (allS g_m6_263 all0))))))))
  obtain ⟨cq334, kq334, q334a, q334b, q334c⟩ := isOf hZ rfl hf332_0
  obtain ⟨_, _, ⟨T334, L334, k334, n334⟩, -, X334, hSc334, gr334, ⟨Lc334, hQ334, l334, y334, z334, CHc334⟩, st334⟩ := X332.virtualBackS hx (y := (⟨"com/example/scheherazade/scheherazade/reader/TagParts", "getAttributeValue", "(I)Ljava/lang/String;"⟩ : MethodName)) (z := (⟨"com/example/scheherazade/scheherazade/reader/TagParts", "getAttributeValue", "(I)Ljava/lang/String;"⟩ : MethodName)) hown (mvT hZ (hw _ (List.mem_of_getElem? (i := 101) rfl))) (mvT hZ (hw _ (List.mem_of_getElem? (i := 102) rfl))) (notFace_of_selects (args := #[]) (mvT hZ (hw _ (List.mem_of_getElem? (i := 104) rfl)))) (mvT hZ (hw _ (List.mem_of_getElem? (i := 104) rfl))) (mvT hZ (hw _ (List.mem_of_getElem? (i := 103) rfl))) (by decide) (backOfSH (W := 0) (rm15z l Z a0 hw [] b254 m4_263 m5_263 m6_263 b10 (2 : Int32) (own_y c0 c1) kq4_263 kq5_263 kq6_263 sx w0 f0 T332.heap n0 Z332 hf332_0 hf332_9 hf332_10 hf332_11 hf332_4 fa336 hf332_15 hf332_16 hf332_17 fa343 g_m6_263 ne_b254_m6_263 ne_b10_m6_263 ne_m4_263_m6_263 ne_m5_263_m6_263 (own_co1 k_kl) (own_co2 k_kl) (sts) (ov6_263)) hZ (hw _ (List.mem_of_getElem? (i := 105) rfl)) (hw _ (List.mem_of_getElem? (i := 32) rfl)) (by decide) (by decide) hEL CH333.1) q334a q334c (g := (mkF m 322 #[.val (.int p1), .val (.int p2), .val (.int p3), .val (.int pp), .val (.int nsx), .val (.int c0), .val (.int c1), .val (.int e0), .val (.int e1), .val (.ref b3), .val (.ref b10), .val (.ref b18), .val (.ref b34), .val (.ref b54), .val .null, .val (.ref b244), .val (.ref b254), .val (.int (1 : Int32)), .val (.int sx), .val (.int (0 : Int32)), .unset, .unset] [(.int (0 : Int32)), (.ref b254)])) rfl (by rw [hml]; rfl) (Steps.refl _) (argsL := [(.int (0 : Int32))]) (rest := []) (lenOf pd_0_9 rfl) rfl (by show 2 * 0 + _ ≤ _; exact Nat.le_of_eq rfl) (hb hby at_322) (fun _ _ => ⟨rfl, rfl, (by decide : 17 + 5 ≤ _), (by decide : 58 + 12 ≤ _)⟩)
  dsimp only [Pt.U, Pt.locs, Pt.cells, Pt.slots] at X334 l334 y334 z334 st334 hQ334 hSc334 gr334 CHc334
  subst l334 y334 z334
  obtain ⟨X334, hS334, hZ, hown⟩ := rebS hS0 hk333 X334 hSc334 gr334 hZ hown
  have sf334_b18 := CHr.safe CHc334 fa337.lt sf333_b18
  have sf334_b34 := CHr.safe CHc334 fa339.lt sf333_b34
  have CH334 := CHr.trans CH333 CHc334
  obtain ⟨xr334, rfl, N334q, Kc334, hf334_0, hf334_1, hf334_2⟩ := hQ334
  have N334 := Fr.app N332 N334q
  have Z334 : n0 ≤ T334.heap.size := Nat.le_trans Z332 Kc334.1
  obtain ⟨xb334, xv334, xk334, xy334⟩ := hf334_1
  refine Gen.on (b := T334.setTop (mkF m 325 #[.val (.int p1), .val (.int p2), .val (.int p3), .val (.int pp), .val (.int nsx), .val (.int c0), .val (.int c1), .val (.int e0), .val (.int e1), .val (.ref b3), .val (.ref b10), .val (.ref b18), .val (.ref b34), .val (.ref b54), .val .null, .val (.ref b244), .val (.ref b254), .val (.int (1 : Int32)), .val (.int sx), .val (.int (0 : Int32)), .unset, .unset] [(.ref xr334)])) ?_ (fun t k => st334.trans k)
  refine Gen.on (b := T334.setTop (mkF m 327 #[.val (.int p1), .val (.int p2), .val (.int p3), .val (.int pp), .val (.int nsx), .val (.int c0), .val (.int c1), .val (.int e0), .val (.int e1), .val (.ref b3), .val (.ref b10), .val (.ref b18), .val (.ref b34), .val (.ref b54), .val .null, .val (.ref b244), .val (.ref b254), .val (.int (1 : Int32)), .val (.int sx), .val (.int (0 : Int32)), .val (.ref xr334), .unset] [])) ?_ (fun t k => XS.astore X334.here hx rfl (hb hby at_325) rfl rfl (l' := #[.val (.int p1), .val (.int p2), .val (.int p3), .val (.int pp), .val (.int nsx), .val (.int c0), .val (.int c1), .val (.int e0), .val (.int e1), .val (.ref b3), .val (.ref b10), .val (.ref b18), .val (.ref b34), .val (.ref b54), .val .null, .val (.ref b244), .val (.ref b254), .val (.int (1 : Int32)), .val (.int sx), .val (.int (0 : Int32)), .val (.ref xr334), .unset]) rfl k)
  refine Gen.on (b := T334.setTop (mkF m 329 #[.val (.int p1), .val (.int p2), .val (.int p3), .val (.int pp), .val (.int nsx), .val (.int c0), .val (.int c1), .val (.int e0), .val (.int e1), .val (.ref b3), .val (.ref b10), .val (.ref b18), .val (.ref b34), .val (.ref b54), .val .null, .val (.ref b244), .val (.ref b254), .val (.int (1 : Int32)), .val (.int sx), .val (.int (0 : Int32)), .val (.ref xr334), .unset] [(.ref xr334)])) ?_ (fun t k => XS.aload X334.here hx rfl (hb hby at_327) rfl rfl k)
  have fa345 := (hf332_12.keep Kc334 (ninS ne_m1_263_m6_263 nin0))
  have fa346 := (hf332_13.keep Kc334 (ninS ne_m2_263_m6_263 nin0))
  have fa347 := (hf332_14.keep Kc334 (ninS ne_m3_263_m6_263 nin0))
  have fa348 := (hf332_15.keep Kc334 (ninS ne_m4_263_m6_263 nin0))
  have fa349 := (hf332_16.keep Kc334 (ninS ne_m5_263_m6_263 nin0))
  have fa350 := (fa343.keep Kc334 (allS g_m6_263 all0))
  obtain ⟨cq344, kq344, q344a, q344b, q344c⟩ := isOf hZ rfl hf334_0
  obtain ⟨_, _, ⟨T344, L344, k344, n344⟩, -, X344, ⟨Lc344, hQ344, l344, y344, z344⟩, st344⟩ := X334.virtualBack hx (y := (⟨"java/lang/String", "length", "()I"⟩ : MethodName)) (z := (⟨"java/lang/String", "length", "()I"⟩ : MethodName)) hown (mvT hZ (hw _ (List.mem_of_getElem? (i := 123) rfl))) (mvT hZ (hw _ (List.mem_of_getElem? (i := 124) rfl))) (notFace_of_selects (args := #[]) (mvT hZ (hw _ (List.mem_of_getElem? (i := 126) rfl)))) (mvT hZ (hw _ (List.mem_of_getElem? (i := 126) rfl))) (mvT hZ (hw _ (List.mem_of_getElem? (i := 125) rfl))) (by decide) (backOf (W := 0) (rm20 l Z a0 hw [] xr334 xb334 (0 : Int32) (fun j => own_b ((fun j => (own_y c0 c1) (sx + j)) j)) w0 f0 T334.heap n0 Z334 hf334_0 xv334 xk334 xy334 fa350 (sts)) hZ (hw _ (List.mem_of_getElem? (i := 127) rfl)) (hw _ (List.mem_of_getElem? (i := 3) rfl)) (by decide) (by decide)) q344a q344c (g := (mkF m 329 #[.val (.int p1), .val (.int p2), .val (.int p3), .val (.int pp), .val (.int nsx), .val (.int c0), .val (.int c1), .val (.int e0), .val (.int e1), .val (.ref b3), .val (.ref b10), .val (.ref b18), .val (.ref b34), .val (.ref b54), .val .null, .val (.ref b244), .val (.ref b254), .val (.int (1 : Int32)), .val (.int sx), .val (.int (0 : Int32)), .val (.ref xr334), .unset] [(.ref xr334)])) rfl (by rw [hml]; rfl) (Steps.refl _) (argsL := []) (rest := []) (lenOf pd_0_7 rfl) rfl (by show 2 * 0 + _ ≤ _; exact Nat.le_of_eq rfl) (hb hby at_329) (fun _ _ => ⟨rfl, rfl, (by decide : 22 + 0 ≤ _), (by decide : 70 + 0 ≤ _)⟩)
  dsimp only [Pt.U, Pt.locs, Pt.cells, Pt.slots] at X344 l344 y344 z344 st344 hQ344
  subst l344 y344 z344
  obtain ⟨rfl, N344q, e344⟩ := hQ344
  have N344 := Fr.app N334 N344q
  refine Gen.on (b := T344.setTop (mkF m 332 #[.val (.int p1), .val (.int p2), .val (.int p3), .val (.int pp), .val (.int nsx), .val (.int c0), .val (.int c1), .val (.int e0), .val (.int e1), .val (.ref b3), .val (.ref b10), .val (.ref b18), .val (.ref b34), .val (.ref b54), .val .null, .val (.ref b244), .val (.ref b254), .val (.int (1 : Int32)), .val (.int sx), .val (.int (0 : Int32)), .val (.ref xr334), .unset] [(.int (0 : Int32))])) ?_ (fun t k => st344.trans k)
  refine Gen.on (b := T344.setTop (mkF m 334 #[.val (.int p1), .val (.int p2), .val (.int p3), .val (.int pp), .val (.int nsx), .val (.int c0), .val (.int c1), .val (.int e0), .val (.int e1), .val (.ref b3), .val (.ref b10), .val (.ref b18), .val (.ref b34), .val (.ref b54), .val .null, .val (.ref b244), .val (.ref b254), .val (.int (1 : Int32)), .val (.int sx), .val (.int (0 : Int32)), .val (.ref xr334), .unset] [(.int (0 : Int32)), (.int (0 : Int32))])) ?_ (fun t k => XS.iload X344.here hx rfl (hb hby at_332) rfl k)
  refine Gen.on (b := T344.setTop (mkF m 337 #[.val (.int p1), .val (.int p2), .val (.int p3), .val (.int pp), .val (.int nsx), .val (.int c0), .val (.int c1), .val (.int e0), .val (.int e1), .val (.ref b3), .val (.ref b10), .val (.ref b18), .val (.ref b34), .val (.ref b54), .val .null, .val (.ref b244), .val (.ref b254), .val (.int (1 : Int32)), .val (.int sx), .val (.int (0 : Int32)), .val (.ref xr334), .unset] [])) ?_ (fun t k => XS.icmpNo X344.here hx rfl (hb hby at_334) rfl (teq (by decide : (0 : Int32) = (0 : Int32))).2 k)
  refine Gen.on (b := T344.setTop (mkF m 339 #[.val (.int p1), .val (.int p2), .val (.int p3), .val (.int pp), .val (.int nsx), .val (.int c0), .val (.int c1), .val (.int e0), .val (.int e1), .val (.ref b3), .val (.ref b10), .val (.ref b18), .val (.ref b34), .val (.ref b54), .val .null, .val (.ref b244), .val (.ref b254), .val (.int (1 : Int32)), .val (.int sx), .val (.int (0 : Int32)), .val (.ref xr334), .unset] [(.int (0 : Int32))])) ?_ (fun t k => XS.iload X344.here hx rfl (hb hby at_337) rfl k)
  refine Gen.on (b := T344.setTop (mkF m 340 #[.val (.int p1), .val (.int p2), .val (.int p3), .val (.int pp), .val (.int nsx), .val (.int c0), .val (.int c1), .val (.int e0), .val (.int e1), .val (.ref b3), .val (.ref b10), .val (.ref b18), .val (.ref b34), .val (.ref b54), .val .null, .val (.ref b244), .val (.ref b254), .val (.int (1 : Int32)), .val (.int sx), .val (.int (0 : Int32)), .val (.ref xr334), .unset] [(.int (1 : Int32)), (.int (0 : Int32))])) ?_ (fun t k => XS.iconst X344.here hx rfl (hb hby at_339) k)
  refine Gen.on (b := T344.setTop (mkF m 357 #[.val (.int p1), .val (.int p2), .val (.int p3), .val (.int pp), .val (.int nsx), .val (.int c0), .val (.int c1), .val (.int e0), .val (.int e1), .val (.ref b3), .val (.ref b10), .val (.ref b18), .val (.ref b34), .val (.ref b54), .val .null, .val (.ref b244), .val (.ref b254), .val (.int (1 : Int32)), .val (.int sx), .val (.int (0 : Int32)), .val (.ref xr334), .unset] [])) ?_ (fun t k => XS.icmpYes X344.here hx rfl (pc0 := 340) (pc' := 357) rfl (hb hby at_340) rfl (tlt (by decide : (0 : Int32) < (1 : Int32))).1 (by decide) (by decide) k)
  refine Gen.on (b := T344.setTop (mkF m 359 #[.val (.int p1), .val (.int p2), .val (.int p3), .val (.int pp), .val (.int nsx), .val (.int c0), .val (.int c1), .val (.int e0), .val (.int e1), .val (.ref b3), .val (.ref b10), .val (.ref b18), .val (.ref b34), .val (.ref b54), .val .null, .val (.ref b244), .val (.ref b254), .val (.int (1 : Int32)), .val (.int sx), .val (.int (0 : Int32)), .val (.ref xr334), .unset] [(.int (0 : Int32))])) ?_ (fun t k => XS.iload X344.here hx rfl (hb hby at_357) rfl k)
  refine Gen.on (b := T344.setTop (mkF m 360 #[.val (.int p1), .val (.int p2), .val (.int p3), .val (.int pp), .val (.int nsx), .val (.int c0), .val (.int c1), .val (.int e0), .val (.int e1), .val (.ref b3), .val (.ref b10), .val (.ref b18), .val (.ref b34), .val (.ref b54), .val .null, .val (.ref b244), .val (.ref b254), .val (.int (1 : Int32)), .val (.int sx), .val (.int (0 : Int32)), .val (.ref xr334), .unset] [(.int (2 : Int32)), (.int (0 : Int32))])) ?_ (fun t k => XS.iconst X344.here hx rfl (hb hby at_359) k)
  refine Gen.on (b := T344.setTop (mkF m 379 #[.val (.int p1), .val (.int p2), .val (.int p3), .val (.int pp), .val (.int nsx), .val (.int c0), .val (.int c1), .val (.int e0), .val (.int e1), .val (.ref b3), .val (.ref b10), .val (.ref b18), .val (.ref b34), .val (.ref b54), .val .null, .val (.ref b244), .val (.ref b254), .val (.int (1 : Int32)), .val (.int sx), .val (.int (0 : Int32)), .val (.ref xr334), .unset] [])) ?_ (fun t k => XS.icmpYes X344.here hx rfl (pc0 := 360) (pc' := 379) rfl (hb hby at_360) rfl (tlt (by decide : (0 : Int32) < (2 : Int32))).1 (by decide) (by decide) k)
  refine Gen.on (b := T344.setTop (mkF m 380 #[.val (.int p1), .val (.int p2), .val (.int p3), .val (.int pp), .val (.int nsx), .val (.int c0), .val (.int c1), .val (.int e0), .val (.int e1), .val (.ref b3), .val (.ref b10), .val (.ref b18), .val (.ref b34), .val (.ref b54), .val .null, .val (.ref b244), .val (.ref b254), .val (.int (1 : Int32)), .val (.int sx), .val (.int (0 : Int32)), .val (.ref xr334), .unset] [(.int (1 : Int32))])) ?_ (fun t k => XS.iconst X344.here hx rfl (hb hby at_379) k)
  refine Gen.on (b := T344.setTop (mkF m 384 #[.val (.int p1), .val (.int p2), .val (.int p3), .val (.int pp), .val (.int nsx), .val (.int c0), .val (.int c1), .val (.int e0), .val (.int e1), .val (.ref b3), .val (.ref b10), .val (.ref b18), .val (.ref b34), .val (.ref b54), .val .null, .val (.ref b244), .val (.ref b254), .val (.int (1 : Int32)), .val (.int sx), .val (.int (0 : Int32)), .val (.ref xr334), .unset] [(.int (1 : Int32))])) ?_ (fun t k => XS.goto X344.here hx rfl (pc0 := 380) (pc' := 384) rfl (hb hby at_380) (by decide) (by decide) k)
  refine Gen.on (b := T344.setTop (mkF m 386 #[.val (.int p1), .val (.int p2), .val (.int p3), .val (.int pp), .val (.int nsx), .val (.int c0), .val (.int c1), .val (.int e0), .val (.int e1), .val (.ref b3), .val (.ref b10), .val (.ref b18), .val (.ref b34), .val (.ref b54), .val .null, .val (.ref b244), .val (.ref b254), .val (.int (1 : Int32)), .val (.int sx), .val (.int (0 : Int32)), .val (.ref xr334), .val (.int (1 : Int32))] [])) ?_ (fun t k => XS.istore X344.here hx rfl (hb hby at_384) rfl (l' := #[.val (.int p1), .val (.int p2), .val (.int p3), .val (.int pp), .val (.int nsx), .val (.int c0), .val (.int c1), .val (.int e0), .val (.int e1), .val (.ref b3), .val (.ref b10), .val (.ref b18), .val (.ref b34), .val (.ref b54), .val .null, .val (.ref b244), .val (.ref b254), .val (.int (1 : Int32)), .val (.int sx), .val (.int (0 : Int32)), .val (.ref xr334), .val (.int (1 : Int32))]) rfl k)
  refine Gen.on (b := T344.setTop (mkF m 388 #[.val (.int p1), .val (.int p2), .val (.int p3), .val (.int pp), .val (.int nsx), .val (.int c0), .val (.int c1), .val (.int e0), .val (.int e1), .val (.ref b3), .val (.ref b10), .val (.ref b18), .val (.ref b34), .val (.ref b54), .val .null, .val (.ref b244), .val (.ref b254), .val (.int (1 : Int32)), .val (.int sx), .val (.int (0 : Int32)), .val (.ref xr334), .val (.int (1 : Int32))] [(.int (1 : Int32))])) ?_ (fun t k => XS.iload X344.here hx rfl (hb hby at_386) rfl k)
  refine Gen.on (b := T344.setTop (mkF m 391 #[.val (.int p1), .val (.int p2), .val (.int p3), .val (.int pp), .val (.int nsx), .val (.int c0), .val (.int c1), .val (.int e0), .val (.int e1), .val (.ref b3), .val (.ref b10), .val (.ref b18), .val (.ref b34), .val (.ref b54), .val .null, .val (.ref b244), .val (.ref b254), .val (.int (1 : Int32)), .val (.int sx), .val (.int (0 : Int32)), .val (.ref xr334), .val (.int (1 : Int32))] [])) ?_ (fun t k => XS.ifNo X344.here hx rfl (hb hby at_388) rfl ((if0 _ _).trans (feq (by decide : ¬ ((1 : Int32) = (0 : Int32)))).1) k)
  refine Gen.on (b := T344.setTop (mkF m 393 #[.val (.int p1), .val (.int p2), .val (.int p3), .val (.int pp), .val (.int nsx), .val (.int c0), .val (.int c1), .val (.int e0), .val (.int e1), .val (.ref b3), .val (.ref b10), .val (.ref b18), .val (.ref b34), .val (.ref b54), .val .null, .val (.ref b244), .val (.ref b254), .val (.int (1 : Int32)), .val (.int sx), .val (.int (0 : Int32)), .val (.ref xr334), .val (.int (1 : Int32))] [(.int (1 : Int32))])) ?_ (fun t k => XS.iload X344.here hx rfl (hb hby at_391) rfl k)
  refine Gen.on (b := T344.setTop (mkF m 396 #[.val (.int p1), .val (.int p2), .val (.int p3), .val (.int pp), .val (.int nsx), .val (.int c0), .val (.int c1), .val (.int e0), .val (.int e1), .val (.ref b3), .val (.ref b10), .val (.ref b18), .val (.ref b34), .val (.ref b54), .val .null, .val (.ref b244), .val (.ref b254), .val (.int (1 : Int32)), .val (.int sx), .val (.int (0 : Int32)), .val (.ref xr334), .val (.int (1 : Int32))] [])) ?_ (fun t k => XS.ifNo X344.here hx rfl (hb hby at_393) rfl ((if0 _ _).trans (feq (by decide : ¬ ((1 : Int32) = (0 : Int32)))).1) k)
  refine Gen.on (b := T344.setTop (mkF m 398 #[.val (.int p1), .val (.int p2), .val (.int p3), .val (.int pp), .val (.int nsx), .val (.int c0), .val (.int c1), .val (.int e0), .val (.int e1), .val (.ref b3), .val (.ref b10), .val (.ref b18), .val (.ref b34), .val (.ref b54), .val .null, .val (.ref b244), .val (.ref b254), .val (.int (1 : Int32)), .val (.int sx), .val (.int (0 : Int32)), .val (.ref xr334), .val (.int (1 : Int32))] [(.ref b254)])) ?_ (fun t k => XS.aload X344.here hx rfl (hb hby at_396) rfl rfl k)
  have fa352 := (hf332_0.keep Kc334)
  have fa353 := (hf332_5.keep Kc334 (ninS ne_b254_m6_263 nin0))
  obtain ⟨cq351, kq351, q351a, q351b, q351c⟩ := isOf hZ e344 fa352
  obtain ⟨_, _, ⟨T351, L351, k351, n351⟩, -, X351, ⟨Lc351, hQ351, l351, y351, z351⟩, st351⟩ := X344.virtualBack hx (y := (⟨"com/example/scheherazade/scheherazade/reader/TagParts", "getAttributeCount", "()I"⟩ : MethodName)) (z := (⟨"com/example/scheherazade/scheherazade/reader/TagParts", "getAttributeCount", "()I"⟩ : MethodName)) hown (mvT hZ (hw _ (List.mem_of_getElem? (i := 91) rfl))) (mvT hZ (hw _ (List.mem_of_getElem? (i := 92) rfl))) (notFace_of_selects (args := #[]) (mvT hZ (hw _ (List.mem_of_getElem? (i := 94) rfl)))) (mvT hZ (hw _ (List.mem_of_getElem? (i := 94) rfl))) (mvT hZ (hw _ (List.mem_of_getElem? (i := 93) rfl))) (by decide) (backOf (W := 0) (rm13 l Z a0 hw [] b254 ((0 : Int32) + (1 : Int32)) T334.heap n0 Z334 fa352 fa353) hZ (hw _ (List.mem_of_getElem? (i := 95) rfl)) (hw _ (List.mem_of_getElem? (i := 32) rfl)) (by decide) (by decide)) q351a q351c (g := (mkF m 398 #[.val (.int p1), .val (.int p2), .val (.int p3), .val (.int pp), .val (.int nsx), .val (.int c0), .val (.int c1), .val (.int e0), .val (.int e1), .val (.ref b3), .val (.ref b10), .val (.ref b18), .val (.ref b34), .val (.ref b54), .val .null, .val (.ref b244), .val (.ref b254), .val (.int (1 : Int32)), .val (.int sx), .val (.int (0 : Int32)), .val (.ref xr334), .val (.int (1 : Int32))] [(.ref b254)])) rfl (by rw [hml]; rfl) (Steps.refl _) (argsL := []) (rest := []) (lenOf pd_0_7 rfl) rfl (by show 2 * 0 + _ ≤ _; exact Nat.le_of_eq rfl) (hb hby at_398) (fun _ _ => ⟨rfl, e344, (by decide : 22 + 0 ≤ _), (by decide : 70 + 0 ≤ _)⟩)
  dsimp only [Pt.U, Pt.locs, Pt.cells, Pt.slots] at X351 l351 y351 z351 st351 hQ351
  subst l351 y351 z351
  obtain ⟨rfl, N351q, e351⟩ := hQ351
  have N351 := Fr.app N344 N351q
  refine Gen.on (b := T351.setTop (mkF m 401 #[.val (.int p1), .val (.int p2), .val (.int p3), .val (.int pp), .val (.int nsx), .val (.int c0), .val (.int c1), .val (.int e0), .val (.int e1), .val (.ref b3), .val (.ref b10), .val (.ref b18), .val (.ref b34), .val (.ref b54), .val .null, .val (.ref b244), .val (.ref b254), .val (.int (1 : Int32)), .val (.int sx), .val (.int (0 : Int32)), .val (.ref xr334), .val (.int (1 : Int32))] [(.int ((0 : Int32) + (1 : Int32)))])) ?_ (fun t k => st351.trans k)
  refine Gen.on (b := T351.setTop (mkF m 402 #[.val (.int p1), .val (.int p2), .val (.int p3), .val (.int pp), .val (.int nsx), .val (.int c0), .val (.int c1), .val (.int e0), .val (.int e1), .val (.ref b3), .val (.ref b10), .val (.ref b18), .val (.ref b34), .val (.ref b54), .val .null, .val (.ref b244), .val (.ref b254), .val (.int (1 : Int32)), .val (.int sx), .val (.int (0 : Int32)), .val (.ref xr334), .val (.int (1 : Int32))] [(.int (1 : Int32)), (.int ((0 : Int32) + (1 : Int32)))])) ?_ (fun t k => XS.iconst X351.here hx rfl (hb hby at_401) k)
  refine Gen.on (b := T351.setTop (mkF m 405 #[.val (.int p1), .val (.int p2), .val (.int p3), .val (.int pp), .val (.int nsx), .val (.int c0), .val (.int c1), .val (.int e0), .val (.int e1), .val (.ref b3), .val (.ref b10), .val (.ref b18), .val (.ref b34), .val (.ref b54), .val .null, .val (.ref b244), .val (.ref b254), .val (.int (1 : Int32)), .val (.int sx), .val (.int (0 : Int32)), .val (.ref xr334), .val (.int (1 : Int32))] [])) ?_ (fun t k => XS.icmpNo X351.here hx rfl (hb hby at_402) rfl (teq (by decide : ((0 : Int32) + (1 : Int32)) = (1 : Int32))).2 k)
  refine Gen.on (b := T351.setTop (mkF m 406 #[.val (.int p1), .val (.int p2), .val (.int p3), .val (.int pp), .val (.int nsx), .val (.int c0), .val (.int c1), .val (.int e0), .val (.int e1), .val (.ref b3), .val (.ref b10), .val (.ref b18), .val (.ref b34), .val (.ref b54), .val .null, .val (.ref b244), .val (.ref b254), .val (.int (1 : Int32)), .val (.int sx), .val (.int (0 : Int32)), .val (.ref xr334), .val (.int (1 : Int32))] [(.int (1 : Int32))])) ?_ (fun t k => XS.iconst X351.here hx rfl (hb hby at_405) k)
  refine Gen.on (b := T351.setTop (mkF m 410 #[.val (.int p1), .val (.int p2), .val (.int p3), .val (.int pp), .val (.int nsx), .val (.int c0), .val (.int c1), .val (.int e0), .val (.int e1), .val (.ref b3), .val (.ref b10), .val (.ref b18), .val (.ref b34), .val (.ref b54), .val .null, .val (.ref b244), .val (.ref b254), .val (.int (1 : Int32)), .val (.int sx), .val (.int (0 : Int32)), .val (.ref xr334), .val (.int (1 : Int32))] [(.int (1 : Int32))])) ?_ (fun t k => XS.goto X351.here hx rfl (pc0 := 406) (pc' := 410) rfl (hb hby at_406) (by decide) (by decide) k)
  refine ownS_retN (t := .boolean) X351 hh hS334 e351 (Nat.le_refl T334.heap.size) hZ hEL CH334 hx hret (by simp) (by decide) (hb hby at_410) (by decide) (by decide) ?_
  exact ⟨rfl, N351⟩
set_option maxRecDepth 65536 in
set_option maxHeartbeats 40000000 in
theorem seg369 {p : Program} {l : Launch} {e : Env} {s : State} {m : MethodId} {below : List Frame} {meth : Method} {c : Code} {Z : State} {a0 : Array Value} {locs : List Loc} {kS n0 : Nat} {f0 : Value} {h0 : Heap} {w0 : Int32} {p1 : Int32} {p2 : Int32} {p3 : Int32} {T315 : State} {T303 : State} {b3 : Addr} {e0 : Int32} {e1 : Int32} {b10 : Addr} {c0 : Int32} {c1 : Int32} {b18 : Addr} {b21 : Addr} {b34 : Addr} {b39 : Addr} {b54 : Addr} {b244 : Addr} {b254 : Addr} {m1_263 : Addr} {kq1_263 : ClassId} {m2_263 : Addr} {kq2_263 : ClassId} {pp : Int32} {m3_263 : Addr} {kq3_263 : ClassId} {m4_263 : Addr} {kq4_263 : ClassId} {m5_263 : Addr} {kq5_263 : ClassId} {m6_263 : Addr} {kq6_263 : ClassId} {ln : Int32} {sx : Int32} {nsx : Int32} (hw : ∀ d ∈ tables_1, d.before a0 Z = true) (hx : p.tables.exec = Jvm.exec) (hby : c.code = code) (hml : c.maxLocals = 22) (hret : meth.sig.returnType = ret) (hlocks : meth.locks = false) (hh : s.heap = h0) (sts : Sts Z w0 f0) (hZ : Z.Warmed39 (s.setVm s.vm).vm) (hown : (s.setVm s.vm).vm.findClass "com/example/scheherazade/scheherazade/reader/TagPartsStartPinLaw" = some m.cls) (X315 : Stand p l e room_1 (s.setVm s.vm) m #[(.int p1), (.int p2), (.int p3)] below meth c T315 locs 17 58) (N315 : Fr n0 locs) (Z303 : n0 ≤ T303.heap.size) (hS0 : s.Since s.vm kS) (hk304 : kS ≤ T303.heap.size) (CH304 : CHr Z consts_1 s.vm h0 s.vm T303.heap) (e315 : T315.heap = T303.heap) (fa354 : Old Z n0 T303.heap) (fa355 : Afn Z T303.heap b3 .char (2 : Int32) (own_upd (own_upd (fun _ => 0) (0 : Int32) (nar .char e0)) (1 : Int32) (nar .char e1))) (fa357 : Afn Z T303.heap b10 .char (2 : Int32) (own_y c0 c1)) (fa359 : Exa Z T303.heap b18 "java/lang/String") (fa360 : Afn Z T303.heap b21 .char (1 : Int32) (own_y e0 e0)) (fa362 : Exa Z T303.heap b34 "java/lang/String") (fa363 : Afn Z T303.heap b39 .char (1 : Int32) (own_y c0 c0)) (fa365 : Afn Z T303.heap b54 .char (1 : Int32) (own_upd (fun _ => 0) (0 : Int32) (nar .char e0))) (fa367 : Afn Z T303.heap b244 .char (1 : Int32) (own_upd (fun _ => 0) (0 : Int32) (nar .char e1))) (hf303_0 : Exa Z T303.heap b254 "com/example/scheherazade/scheherazade/reader/TagParts") (fa306 : Arv Z T303.heap m1_263 kq1_263 (.object "java/lang/String") (4 : Int32) [(.ref b18), .null, .null, .null] .null) (fa307 : Arv Z T303.heap m2_263 kq2_263 .boolean (4 : Int32) [(.int (nar .boolean (if pp = (0 : Int32) then (1 : Int32) else (0 : Int32)))), (.int (0 : Int32)), (.int (0 : Int32)), (.int (0 : Int32))] (.int (0 : Int32))) (fa308 : Arv Z T303.heap m3_263 kq3_263 (.array .char) (4 : Int32) [(.ref b244), .null, .null, .null] .null) (fa309 : Arv Z T303.heap m4_263 kq4_263 .int (4 : Int32) [(.int (0 : Int32)), (.int (0 : Int32)), (.int (0 : Int32)), (.int (0 : Int32))] (.int (0 : Int32))) (fa310 : Arv Z T303.heap m5_263 kq5_263 .int (4 : Int32) [(.int (2 : Int32)), (.int (0 : Int32)), (.int (0 : Int32)), (.int (0 : Int32))] (.int (0 : Int32))) (fa311 : Arv Z T303.heap m6_263 kq6_263 (.object "java/lang/String") (4 : Int32) [.null, .null, .null, .null] .null) (hf303_1 : Fld Z T303.heap b254 "com/example/scheherazade/scheherazade/reader/TagParts" "name" "Ljava/lang/String;" (.ref b34)) (hf303_2 : Fld Z T303.heap b254 "com/example/scheherazade/scheherazade/reader/TagParts" "prefixed" "Z" (.int (nar .boolean pp))) (hf303_3 : Fld Z T303.heap b254 "com/example/scheherazade/scheherazade/reader/TagParts" "nameSpelling" "[C" .null) (hf303_4 : Fld Z T303.heap b254 "com/example/scheherazade/scheherazade/reader/TagParts" "source" "[C" (.ref b10)) (hf303_5 : Fld Z T303.heap b254 "com/example/scheherazade/scheherazade/reader/TagParts" "attributeCount" "I" (.int (0 : Int32))) (hf303_6 : Fld Z T303.heap b254 "com/example/scheherazade/scheherazade/reader/TagParts" "attributeNames" "[Ljava/lang/String;" (.ref m1_263)) (hf303_7 : Fld Z T303.heap b254 "com/example/scheherazade/scheherazade/reader/TagParts" "attributePrefixes" "[Z" (.ref m2_263)) (hf303_8 : Fld Z T303.heap b254 "com/example/scheherazade/scheherazade/reader/TagParts" "attributeSpellings" "[[C" (.ref m3_263)) (hf303_9 : Fld Z T303.heap b254 "com/example/scheherazade/scheherazade/reader/TagParts" "valueStarts" "[I" (.ref m4_263)) (hf303_10 : Fld Z T303.heap b254 "com/example/scheherazade/scheherazade/reader/TagParts" "valueLengths" "[I" (.ref m5_263)) (hf303_11 : Fld Z T303.heap b254 "com/example/scheherazade/scheherazade/reader/TagParts" "attributeValues" "[Ljava/lang/String;" (.ref m6_263)) (sf304_b18 : Safe Z consts_1 s.vm T303.heap b18) (sf304_b34 : Safe Z consts_1 s.vm T303.heap b34) (ne_b3_b254 : b3 ≠ b254) (ne_b10_b254 : b10 ≠ b254) (ne_b21_b254 : b21 ≠ b254) (ne_b39_b254 : b39 ≠ b254) (ne_b54_b254 : b54 ≠ b254) (ne_b244_b254 : b244 ≠ b254) (ne_b3_m1_263 : b3 ≠ m1_263) (ne_b10_m1_263 : b10 ≠ m1_263) (ne_b21_m1_263 : b21 ≠ m1_263) (ne_b39_m1_263 : b39 ≠ m1_263) (ne_b54_m1_263 : b54 ≠ m1_263) (ne_b244_m1_263 : b244 ≠ m1_263) (ne_b254_m1_263 : b254 ≠ m1_263) (ne_b3_m2_263 : b3 ≠ m2_263) (ne_b10_m2_263 : b10 ≠ m2_263) (ne_b21_m2_263 : b21 ≠ m2_263) (ne_b39_m2_263 : b39 ≠ m2_263) (ne_b54_m2_263 : b54 ≠ m2_263) (ne_b244_m2_263 : b244 ≠ m2_263) (ne_b254_m2_263 : b254 ≠ m2_263) (ne_b3_m3_263 : b3 ≠ m3_263) (ne_b10_m3_263 : b10 ≠ m3_263) (ne_b21_m3_263 : b21 ≠ m3_263) (ne_b39_m3_263 : b39 ≠ m3_263) (ne_b54_m3_263 : b54 ≠ m3_263) (ne_b244_m3_263 : b244 ≠ m3_263) (ne_b254_m3_263 : b254 ≠ m3_263) (ne_b3_m4_263 : b3 ≠ m4_263) (ne_b10_m4_263 : b10 ≠ m4_263) (ne_b21_m4_263 : b21 ≠ m4_263) (ne_b39_m4_263 : b39 ≠ m4_263) (ne_b54_m4_263 : b54 ≠ m4_263) (ne_b244_m4_263 : b244 ≠ m4_263) (ne_b254_m4_263 : b254 ≠ m4_263) (ne_b3_m5_263 : b3 ≠ m5_263) (ne_b10_m5_263 : b10 ≠ m5_263) (ne_b21_m5_263 : b21 ≠ m5_263) (ne_b39_m5_263 : b39 ≠ m5_263) (ne_b54_m5_263 : b54 ≠ m5_263) (ne_b244_m5_263 : b244 ≠ m5_263) (ne_b254_m5_263 : b254 ≠ m5_263) (ne_b3_m6_263 : b3 ≠ m6_263) (ne_b10_m6_263 : b10 ≠ m6_263) (ne_b21_m6_263 : b21 ≠ m6_263) (ne_b39_m6_263 : b39 ≠ m6_263) (ne_b54_m6_263 : b54 ≠ m6_263) (ne_b244_m6_263 : b244 ≠ m6_263) (ne_b254_m6_263 : b254 ≠ m6_263) (ne_m1_263_m2_263 : m1_263 ≠ m2_263) (ne_m1_263_m3_263 : m1_263 ≠ m3_263) (ne_m1_263_m4_263 : m1_263 ≠ m4_263) (ne_m1_263_m5_263 : m1_263 ≠ m5_263) (ne_m1_263_m6_263 : m1_263 ≠ m6_263) (ne_m2_263_m3_263 : m2_263 ≠ m3_263) (ne_m2_263_m4_263 : m2_263 ≠ m4_263) (ne_m2_263_m5_263 : m2_263 ≠ m5_263) (ne_m2_263_m6_263 : m2_263 ≠ m6_263) (ne_m3_263_m4_263 : m3_263 ≠ m4_263) (ne_m3_263_m5_263 : m3_263 ≠ m5_263) (ne_m3_263_m6_263 : m3_263 ≠ m6_263) (ne_m4_263_m5_263 : m4_263 ≠ m5_263) (ne_m4_263_m6_263 : m4_263 ≠ m6_263) (ne_m5_263_m6_263 : m5_263 ≠ m6_263) (g_b254 : n0 ≤ b254) (g_m1_263 : n0 ≤ m1_263) (g_m2_263 : n0 ≤ m2_263) (g_m3_263 : n0 ≤ m3_263) (g_m4_263 : n0 ≤ m4_263) (g_m5_263 : n0 ≤ m5_263) (g_m6_263 : n0 ≤ m6_263) (hz : ¬ (ln = (0 : Int32))) (ov1_263 : Ovr Z kq1_263 "java/lang/String") (ov3_263 : OvrA Z kq3_263 .char "[C") (ov6_263 : Ovr Z kq6_263 "java/lang/String") (k_kl : own_kl sx ln) (k_c0 : own_c8 c0) (k_c1 : own_c8 c1) :
    OwnS Z consts_1 p e below s (Q0 n0) room_1.cells room_1.slots (T315.setTop (mkF m 306 #[.val (.int p1), .val (.int p2), .val (.int p3), .val (.int pp), .val (.int nsx), .val (.int c0), .val (.int c1), .val (.int e0), .val (.int e1), .val (.ref b3), .val (.ref b10), .val (.ref b18), .val (.ref b34), .val (.ref b54), .val .null, .val (.ref b244), .val (.ref b254), .val (.int (1 : Int32)), .val (.int sx), .val (.int ln), .unset, .unset] [])) := by
  obtain ⟨SC, hw0, SF, hf0⟩ := id sts
  have hEL : EW Z a0 consts_1 := own_hEL hw
  have wS := own_wS hw
  refine Gen.on (b := T315.setTop (mkF m 308 #[.val (.int p1), .val (.int p2), .val (.int p3), .val (.int pp), .val (.int nsx), .val (.int c0), .val (.int c1), .val (.int e0), .val (.int e1), .val (.ref b3), .val (.ref b10), .val (.ref b18), .val (.ref b34), .val (.ref b54), .val .null, .val (.ref b244), .val (.ref b254), .val (.int (1 : Int32)), .val (.int sx), .val (.int ln), .unset, .unset] [(.ref b254)])) ?_ (fun t k => XS.aload X315.here hx rfl (hb hby at_306) rfl rfl k)
  refine Gen.on (b := T315.setTop (mkF m 310 #[.val (.int p1), .val (.int p2), .val (.int p3), .val (.int pp), .val (.int nsx), .val (.int c0), .val (.int c1), .val (.int e0), .val (.int e1), .val (.ref b3), .val (.ref b10), .val (.ref b18), .val (.ref b34), .val (.ref b54), .val .null, .val (.ref b244), .val (.ref b254), .val (.int (1 : Int32)), .val (.int sx), .val (.int ln), .unset, .unset] [(.ref b34), (.ref b254)])) ?_ (fun t k => XS.aload X315.here hx rfl (hb hby at_308) rfl rfl k)
  refine Gen.on (b := T315.setTop (mkF m 311 #[.val (.int p1), .val (.int p2), .val (.int p3), .val (.int pp), .val (.int nsx), .val (.int c0), .val (.int c1), .val (.int e0), .val (.int e1), .val (.ref b3), .val (.ref b10), .val (.ref b18), .val (.ref b34), .val (.ref b54), .val .null, .val (.ref b244), .val (.ref b254), .val (.int (1 : Int32)), .val (.int sx), .val (.int ln), .unset, .unset] [(.int pp), (.ref b34), (.ref b254)])) ?_ (fun t k => XS.iloadN X315.here hx rfl (hb hby at_310) rfl k)
  refine Gen.on (b := T315.setTop (mkF m 312 #[.val (.int p1), .val (.int p2), .val (.int p3), .val (.int pp), .val (.int nsx), .val (.int c0), .val (.int c1), .val (.int e0), .val (.int e1), .val (.ref b3), .val (.ref b10), .val (.ref b18), .val (.ref b34), .val (.ref b54), .val .null, .val (.ref b244), .val (.ref b254), .val (.int (1 : Int32)), .val (.int sx), .val (.int ln), .unset, .unset] [.null, (.int pp), (.ref b34), (.ref b254)])) ?_ (fun t k => XS.aconstNull X315.here hx rfl (hb hby at_311) k)
  refine Gen.on (b := T315.setTop (mkF m 314 #[.val (.int p1), .val (.int p2), .val (.int p3), .val (.int pp), .val (.int nsx), .val (.int c0), .val (.int c1), .val (.int e0), .val (.int e1), .val (.ref b3), .val (.ref b10), .val (.ref b18), .val (.ref b34), .val (.ref b54), .val .null, .val (.ref b244), .val (.ref b254), .val (.int (1 : Int32)), .val (.int sx), .val (.int ln), .unset, .unset] [(.int sx), .null, (.int pp), (.ref b34), (.ref b254)])) ?_ (fun t k => XS.iload X315.here hx rfl (hb hby at_312) rfl k)
  refine Gen.on (b := T315.setTop (mkF m 316 #[.val (.int p1), .val (.int p2), .val (.int p3), .val (.int pp), .val (.int nsx), .val (.int c0), .val (.int c1), .val (.int e0), .val (.int e1), .val (.ref b3), .val (.ref b10), .val (.ref b18), .val (.ref b34), .val (.ref b54), .val .null, .val (.ref b244), .val (.ref b254), .val (.int (1 : Int32)), .val (.int sx), .val (.int ln), .unset, .unset] [(.int ln), (.int sx), .null, (.int pp), (.ref b34), (.ref b254)])) ?_ (fun t k => XS.iload X315.here hx rfl (hb hby at_314) rfl k)
  obtain ⟨cq370, kq370, q370a, q370b, q370c⟩ := isOf hZ e315 hf303_0
  obtain ⟨_, _, ⟨T370, L370, k370, n370⟩, -, X370, ⟨Lc370, hQ370, l370, y370, z370⟩, st370⟩ := X315.virtualBack hx (y := (⟨"com/example/scheherazade/scheherazade/reader/TagParts", "addAttribute", "(Ljava/lang/String;Z[CII)V"⟩ : MethodName)) (z := (⟨"com/example/scheherazade/scheherazade/reader/TagParts", "addAttribute", "(Ljava/lang/String;Z[CII)V"⟩ : MethodName)) hown (mvT hZ (hw _ (List.mem_of_getElem? (i := 70) rfl))) (mvT hZ (hw _ (List.mem_of_getElem? (i := 71) rfl))) (notFace_of_selects (args := #[]) (mvT hZ (hw _ (List.mem_of_getElem? (i := 73) rfl)))) (mvT hZ (hw _ (List.mem_of_getElem? (i := 73) rfl))) (mvT hZ (hw _ (List.mem_of_getElem? (i := 72) rfl))) (by decide) (backOf (W := 0) (rm9n l Z a0 hw [] b254 b34 pp sx ln (.ref b34) (.int (nar .boolean pp)) .null (.ref b10) m1_263 m2_263 m3_263 m4_263 m5_263 m6_263 kq1_263 kq2_263 kq3_263 kq4_263 kq5_263 kq6_263 (.ref b18) (nar .boolean (if pp = (0 : Int32) then (1 : Int32) else (0 : Int32))) (.ref b244) (0 : Int32) (2 : Int32) .null T303.heap n0 Z303 hf303_0 fa362 hf303_1 hf303_2 hf303_3 hf303_4 hf303_5 hf303_6 hf303_7 hf303_8 hf303_9 hf303_10 hf303_11 fa306 fa307 fa308 fa309 fa310 fa311 g_b254 g_m1_263 g_m2_263 g_m3_263 g_m4_263 g_m5_263 g_m6_263 ne_b254_m1_263 ne_b254_m2_263 ne_b254_m3_263 ne_b254_m4_263 ne_b254_m5_263 ne_b254_m6_263 ne_m1_263_m2_263 ne_m1_263_m3_263 ne_m1_263_m4_263 ne_m1_263_m5_263 ne_m1_263_m6_263 ne_m2_263_m3_263 ne_m2_263_m4_263 ne_m2_263_m5_263 ne_m2_263_m6_263 ne_m3_263_m4_263 ne_m3_263_m5_263 ne_m3_263_m6_263 ne_m4_263_m5_263 ne_m4_263_m6_263 ne_m5_263_m6_263 (ov1_263) (ov3_263) (ov6_263)) hZ (hw _ (List.mem_of_getElem? (i := 74) rfl)) (hw _ (List.mem_of_getElem? (i := 32) rfl)) (by decide) (by decide)) q370a q370c (g := (mkF m 316 #[.val (.int p1), .val (.int p2), .val (.int p3), .val (.int pp), .val (.int nsx), .val (.int c0), .val (.int c1), .val (.int e0), .val (.int e1), .val (.ref b3), .val (.ref b10), .val (.ref b18), .val (.ref b34), .val (.ref b54), .val .null, .val (.ref b244), .val (.ref b254), .val (.int (1 : Int32)), .val (.int sx), .val (.int ln), .unset, .unset] [(.int ln), (.int sx), .null, (.int pp), (.ref b34), (.ref b254)])) rfl (by rw [hml]; rfl) (Steps.refl _) (argsL := [(.ref b34), (.int pp), .null, (.int sx), (.int ln)]) (rest := []) (lenOf pd_0_3 rfl) rfl (by show 2 * 0 + _ ≤ _; exact Nat.le_of_eq rfl) (hb hby at_316) (fun _ _ => ⟨rfl, e315, (by decide : 17 + 0 ≤ _), (by decide : 58 + 0 ≤ _)⟩)
  dsimp only [Pt.U, Pt.locs, Pt.cells, Pt.slots] at X370 l370 y370 z370 st370 hQ370
  subst l370 y370 z370
  obtain ⟨rfl, N370q, Kc370, hf370_0, hf370_1, hf370_2, hf370_3, hf370_4, hf370_5, hf370_6, hf370_7, hf370_8, hf370_9, hf370_10, hf370_11, hf370_12, hf370_13, hf370_14, hf370_15, hf370_16, hf370_17⟩ := hQ370
  have N370 := Fr.app N315 N370q
  have sf371_b18 := Safe.keep Kc370 (sfS (Safe.exa hZ.alike hf303_0 (by decide) (by decide)) (sfS (Safe.arv hZ.alike fa306 (by decide)) (sfS (Safe.arv hZ.alike fa307 (by decide)) (sfS (Safe.arv hZ.alike fa308 (by decide)) (sfS (Safe.arv hZ.alike fa309 (by decide)) (sfS (Safe.arv hZ.alike fa310 (by decide)) (sfS (Safe.arv hZ.alike fa311 (by decide)) sf0))))))) CH304.1 sf304_b18
  have sf371_b34 := Safe.keep Kc370 (sfS (Safe.exa hZ.alike hf303_0 (by decide) (by decide)) (sfS (Safe.arv hZ.alike fa306 (by decide)) (sfS (Safe.arv hZ.alike fa307 (by decide)) (sfS (Safe.arv hZ.alike fa308 (by decide)) (sfS (Safe.arv hZ.alike fa309 (by decide)) (sfS (Safe.arv hZ.alike fa310 (by decide)) (sfS (Safe.arv hZ.alike fa311 (by decide)) sf0))))))) CH304.1 sf304_b34
  have CH371 := CHr.trans CH304 (CHr.keep Kc370 (sfS (Safe.exa hZ.alike hf303_0 (by decide) (by decide)) (sfS (Safe.arv hZ.alike fa306 (by decide)) (sfS (Safe.arv hZ.alike fa307 (by decide)) (sfS (Safe.arv hZ.alike fa308 (by decide)) (sfS (Safe.arv hZ.alike fa309 (by decide)) (sfS (Safe.arv hZ.alike fa310 (by decide)) (sfS (Safe.arv hZ.alike fa311 (by decide)) sf0))))))) CH304.1)
  have hk371 := Nat.le_trans hk304 Kc370.1
  have Z370 : n0 ≤ T370.heap.size := Nat.le_trans Z303 Kc370.1
  refine Gen.on (b := T370.setTop (mkF m 319 #[.val (.int p1), .val (.int p2), .val (.int p3), .val (.int pp), .val (.int nsx), .val (.int c0), .val (.int c1), .val (.int e0), .val (.int e1), .val (.ref b3), .val (.ref b10), .val (.ref b18), .val (.ref b34), .val (.ref b54), .val .null, .val (.ref b244), .val (.ref b254), .val (.int (1 : Int32)), .val (.int sx), .val (.int ln), .unset, .unset] [])) ?_ (fun t k => st370.trans k)
  refine Gen.on (b := T370.setTop (mkF m 321 #[.val (.int p1), .val (.int p2), .val (.int p3), .val (.int pp), .val (.int nsx), .val (.int c0), .val (.int c1), .val (.int e0), .val (.int e1), .val (.ref b3), .val (.ref b10), .val (.ref b18), .val (.ref b34), .val (.ref b54), .val .null, .val (.ref b244), .val (.ref b254), .val (.int (1 : Int32)), .val (.int sx), .val (.int ln), .unset, .unset] [(.ref b254)])) ?_ (fun t k => XS.aload X370.here hx rfl (hb hby at_319) rfl rfl k)
  refine Gen.on (b := T370.setTop (mkF m 322 #[.val (.int p1), .val (.int p2), .val (.int p3), .val (.int pp), .val (.int nsx), .val (.int c0), .val (.int c1), .val (.int e0), .val (.int e1), .val (.ref b3), .val (.ref b10), .val (.ref b18), .val (.ref b34), .val (.ref b54), .val .null, .val (.ref b244), .val (.ref b254), .val (.int (1 : Int32)), .val (.int sx), .val (.int ln), .unset, .unset] [(.int (0 : Int32)), (.ref b254)])) ?_ (fun t k => XS.iconst X370.here hx rfl (hb hby at_321) k)
  have fa373 := (fa355.keep Kc370 (ninS ne_b3_b254 (ninS ne_b3_m1_263 (ninS ne_b3_m2_263 (ninS ne_b3_m3_263 (ninS ne_b3_m4_263 (ninS ne_b3_m5_263 (ninS ne_b3_m6_263 nin0))))))))
  have fa374 := (fa357.keep Kc370 (ninS ne_b10_b254 (ninS ne_b10_m1_263 (ninS ne_b10_m2_263 (ninS ne_b10_m3_263 (ninS ne_b10_m4_263 (ninS ne_b10_m5_263 (ninS ne_b10_m6_263 nin0))))))))
  have fa375 := (fa359.keep Kc370)
  have fa376 := (fa360.keep Kc370 (ninS ne_b21_b254 (ninS ne_b21_m1_263 (ninS ne_b21_m2_263 (ninS ne_b21_m3_263 (ninS ne_b21_m4_263 (ninS ne_b21_m5_263 (ninS ne_b21_m6_263 nin0))))))))
  have fa377 := (fa362.keep Kc370)
  have fa378 := (fa363.keep Kc370 (ninS ne_b39_b254 (ninS ne_b39_m1_263 (ninS ne_b39_m2_263 (ninS ne_b39_m3_263 (ninS ne_b39_m4_263 (ninS ne_b39_m5_263 (ninS ne_b39_m6_263 nin0))))))))
  have fa379 := (fa365.keep Kc370 (ninS ne_b54_b254 (ninS ne_b54_m1_263 (ninS ne_b54_m2_263 (ninS ne_b54_m3_263 (ninS ne_b54_m4_263 (ninS ne_b54_m5_263 (ninS ne_b54_m6_263 nin0))))))))
  have fa380 := (fa367.keep Kc370 (ninS ne_b244_b254 (ninS ne_b244_m1_263 (ninS ne_b244_m2_263 (ninS ne_b244_m3_263 (ninS ne_b244_m4_263 (ninS ne_b244_m5_263 (ninS ne_b244_m6_263 nin0))))))))
  have fa381 := (fa354.keep Kc370 (allS g_b254 (allS g_m1_263 (allS g_m2_263 (allS g_m3_263 (allS g_m4_263 (allS g_m5_263 (allS g_m6_263 all0))))))))
  obtain ⟨cq372, kq372, q372a, q372b, q372c⟩ := isOf hZ rfl hf370_0
  obtain ⟨_, _, ⟨T372, L372, k372, n372⟩, -, X372, ⟨Lc372, hQ372, l372, y372, z372⟩, st372⟩ := X370.virtualBack hx (y := (⟨"com/example/scheherazade/scheherazade/reader/TagParts", "getAttributeValue", "(I)Ljava/lang/String;"⟩ : MethodName)) (z := (⟨"com/example/scheherazade/scheherazade/reader/TagParts", "getAttributeValue", "(I)Ljava/lang/String;"⟩ : MethodName)) hown (mvT hZ (hw _ (List.mem_of_getElem? (i := 101) rfl))) (mvT hZ (hw _ (List.mem_of_getElem? (i := 102) rfl))) (notFace_of_selects (args := #[]) (mvT hZ (hw _ (List.mem_of_getElem? (i := 104) rfl)))) (mvT hZ (hw _ (List.mem_of_getElem? (i := 104) rfl))) (mvT hZ (hw _ (List.mem_of_getElem? (i := 103) rfl))) (by decide) (backOf (W := 0) (rm15 l Z a0 hw [] b254 m4_263 m5_263 m6_263 b10 (2 : Int32) (own_y c0 c1) kq4_263 kq5_263 kq6_263 sx ln w0 f0 T370.heap n0 Z370 hf370_0 hf370_9 hf370_10 hf370_11 hf370_4 fa374 hf370_15 hf370_16 hf370_17 fa381 g_m6_263 ne_b254_m6_263 ne_b10_m6_263 ne_m4_263_m6_263 ne_m5_263_m6_263 (own_co1 k_kl) (own_co2 k_kl) (sts) (ov6_263) (own_l0 k_kl) (own_cap k_kl) (own_hin2 k_kl k_c0 k_c1) (hz)) hZ (hw _ (List.mem_of_getElem? (i := 105) rfl)) (hw _ (List.mem_of_getElem? (i := 32) rfl)) (by decide) (by decide)) q372a q372c (g := (mkF m 322 #[.val (.int p1), .val (.int p2), .val (.int p3), .val (.int pp), .val (.int nsx), .val (.int c0), .val (.int c1), .val (.int e0), .val (.int e1), .val (.ref b3), .val (.ref b10), .val (.ref b18), .val (.ref b34), .val (.ref b54), .val .null, .val (.ref b244), .val (.ref b254), .val (.int (1 : Int32)), .val (.int sx), .val (.int ln), .unset, .unset] [(.int (0 : Int32)), (.ref b254)])) rfl (by rw [hml]; rfl) (Steps.refl _) (argsL := [(.int (0 : Int32))]) (rest := []) (lenOf pd_0_9 rfl) rfl (by show 2 * 0 + _ ≤ _; exact Nat.le_of_eq rfl) (hb hby at_322) (fun _ _ => ⟨rfl, rfl, (by decide : 17 + 2 ≤ _), (by decide : 58 + 6 ≤ _)⟩)
  dsimp only [Pt.U, Pt.locs, Pt.cells, Pt.slots] at X372 l372 y372 z372 st372 hQ372
  subst l372 y372 z372
  obtain ⟨xr372, rfl, N372q, Kc372, hf372_0, hf372_1, hf372_2⟩ := hQ372
  have N372 := Fr.app N370 N372q
  have sf382_b18 := Safe.keep Kc372 (sfS (Safe.arv hZ.alike hf370_17 (by decide)) sf0) CH371.1 sf371_b18
  have sf382_b34 := Safe.keep Kc372 (sfS (Safe.arv hZ.alike hf370_17 (by decide)) sf0) CH371.1 sf371_b34
  have CH382 := CHr.trans CH371 (CHr.keep Kc372 (sfS (Safe.arv hZ.alike hf370_17 (by decide)) sf0) CH371.1)
  have hk382 := Nat.le_trans hk371 Kc372.1
  have Z372 : n0 ≤ T372.heap.size := Nat.le_trans Z370 Kc372.1
  obtain ⟨xb372, xv372, xk372, xy372⟩ := hf372_1
  refine Gen.on (b := T372.setTop (mkF m 325 #[.val (.int p1), .val (.int p2), .val (.int p3), .val (.int pp), .val (.int nsx), .val (.int c0), .val (.int c1), .val (.int e0), .val (.int e1), .val (.ref b3), .val (.ref b10), .val (.ref b18), .val (.ref b34), .val (.ref b54), .val .null, .val (.ref b244), .val (.ref b254), .val (.int (1 : Int32)), .val (.int sx), .val (.int ln), .unset, .unset] [(.ref xr372)])) ?_ (fun t k => st372.trans k)
  refine Gen.on (b := T372.setTop (mkF m 327 #[.val (.int p1), .val (.int p2), .val (.int p3), .val (.int pp), .val (.int nsx), .val (.int c0), .val (.int c1), .val (.int e0), .val (.int e1), .val (.ref b3), .val (.ref b10), .val (.ref b18), .val (.ref b34), .val (.ref b54), .val .null, .val (.ref b244), .val (.ref b254), .val (.int (1 : Int32)), .val (.int sx), .val (.int ln), .val (.ref xr372), .unset] [])) ?_ (fun t k => XS.astore X372.here hx rfl (hb hby at_325) rfl rfl (l' := #[.val (.int p1), .val (.int p2), .val (.int p3), .val (.int pp), .val (.int nsx), .val (.int c0), .val (.int c1), .val (.int e0), .val (.int e1), .val (.ref b3), .val (.ref b10), .val (.ref b18), .val (.ref b34), .val (.ref b54), .val .null, .val (.ref b244), .val (.ref b254), .val (.int (1 : Int32)), .val (.int sx), .val (.int ln), .val (.ref xr372), .unset]) rfl k)
  refine Gen.on (b := T372.setTop (mkF m 329 #[.val (.int p1), .val (.int p2), .val (.int p3), .val (.int pp), .val (.int nsx), .val (.int c0), .val (.int c1), .val (.int e0), .val (.int e1), .val (.ref b3), .val (.ref b10), .val (.ref b18), .val (.ref b34), .val (.ref b54), .val .null, .val (.ref b244), .val (.ref b254), .val (.int (1 : Int32)), .val (.int sx), .val (.int ln), .val (.ref xr372), .unset] [(.ref xr372)])) ?_ (fun t k => XS.aload X372.here hx rfl (hb hby at_327) rfl rfl k)
  have fa384 := (hf370_12.keep Kc372 (ninS ne_m1_263_m6_263 nin0))
  have fa385 := (hf370_13.keep Kc372 (ninS ne_m2_263_m6_263 nin0))
  have fa386 := (hf370_14.keep Kc372 (ninS ne_m3_263_m6_263 nin0))
  have fa387 := (hf370_15.keep Kc372 (ninS ne_m4_263_m6_263 nin0))
  have fa388 := (hf370_16.keep Kc372 (ninS ne_m5_263_m6_263 nin0))
  have fa389 := (fa381.keep Kc372 (allS g_m6_263 all0))
  obtain ⟨cq383, kq383, q383a, q383b, q383c⟩ := isOf hZ rfl hf372_0
  obtain ⟨_, _, ⟨T383, L383, k383, n383⟩, -, X383, ⟨Lc383, hQ383, l383, y383, z383⟩, st383⟩ := X372.virtualBack hx (y := (⟨"java/lang/String", "length", "()I"⟩ : MethodName)) (z := (⟨"java/lang/String", "length", "()I"⟩ : MethodName)) hown (mvT hZ (hw _ (List.mem_of_getElem? (i := 123) rfl))) (mvT hZ (hw _ (List.mem_of_getElem? (i := 124) rfl))) (notFace_of_selects (args := #[]) (mvT hZ (hw _ (List.mem_of_getElem? (i := 126) rfl)))) (mvT hZ (hw _ (List.mem_of_getElem? (i := 126) rfl))) (mvT hZ (hw _ (List.mem_of_getElem? (i := 125) rfl))) (by decide) (backOf (W := 0) (rm20 l Z a0 hw [] xr372 xb372 ln (fun j => own_b ((fun j => (own_y c0 c1) (sx + j)) j)) w0 f0 T372.heap n0 Z372 hf372_0 xv372 xk372 xy372 fa389 (sts)) hZ (hw _ (List.mem_of_getElem? (i := 127) rfl)) (hw _ (List.mem_of_getElem? (i := 3) rfl)) (by decide) (by decide)) q383a q383c (g := (mkF m 329 #[.val (.int p1), .val (.int p2), .val (.int p3), .val (.int pp), .val (.int nsx), .val (.int c0), .val (.int c1), .val (.int e0), .val (.int e1), .val (.ref b3), .val (.ref b10), .val (.ref b18), .val (.ref b34), .val (.ref b54), .val .null, .val (.ref b244), .val (.ref b254), .val (.int (1 : Int32)), .val (.int sx), .val (.int ln), .val (.ref xr372), .unset] [(.ref xr372)])) rfl (by rw [hml]; rfl) (Steps.refl _) (argsL := []) (rest := []) (lenOf pd_0_7 rfl) rfl (by show 2 * 0 + _ ≤ _; exact Nat.le_of_eq rfl) (hb hby at_329) (fun _ _ => ⟨rfl, rfl, (by decide : 19 + 0 ≤ _), (by decide : 64 + 0 ≤ _)⟩)
  dsimp only [Pt.U, Pt.locs, Pt.cells, Pt.slots] at X383 l383 y383 z383 st383 hQ383
  subst l383 y383 z383
  obtain ⟨rfl, N383q, e383⟩ := hQ383
  have N383 := Fr.app N372 N383q
  refine Gen.on (b := T383.setTop (mkF m 332 #[.val (.int p1), .val (.int p2), .val (.int p3), .val (.int pp), .val (.int nsx), .val (.int c0), .val (.int c1), .val (.int e0), .val (.int e1), .val (.ref b3), .val (.ref b10), .val (.ref b18), .val (.ref b34), .val (.ref b54), .val .null, .val (.ref b244), .val (.ref b254), .val (.int (1 : Int32)), .val (.int sx), .val (.int ln), .val (.ref xr372), .unset] [(.int ln)])) ?_ (fun t k => st383.trans k)
  refine Gen.on (b := T383.setTop (mkF m 334 #[.val (.int p1), .val (.int p2), .val (.int p3), .val (.int pp), .val (.int nsx), .val (.int c0), .val (.int c1), .val (.int e0), .val (.int e1), .val (.ref b3), .val (.ref b10), .val (.ref b18), .val (.ref b34), .val (.ref b54), .val .null, .val (.ref b244), .val (.ref b254), .val (.int (1 : Int32)), .val (.int sx), .val (.int ln), .val (.ref xr372), .unset] [(.int ln), (.int ln)])) ?_ (fun t k => XS.iload X383.here hx rfl (hb hby at_332) rfl k)
  refine Gen.on (b := T383.setTop (mkF m 337 #[.val (.int p1), .val (.int p2), .val (.int p3), .val (.int pp), .val (.int nsx), .val (.int c0), .val (.int c1), .val (.int e0), .val (.int e1), .val (.ref b3), .val (.ref b10), .val (.ref b18), .val (.ref b34), .val (.ref b54), .val .null, .val (.ref b244), .val (.ref b254), .val (.int (1 : Int32)), .val (.int sx), .val (.int ln), .val (.ref xr372), .unset] [])) ?_ (fun t k => XS.icmpNo X383.here hx rfl (hb hby at_334) rfl (teq (rfl : ln = ln)).2 k)
  refine Gen.on (b := T383.setTop (mkF m 339 #[.val (.int p1), .val (.int p2), .val (.int p3), .val (.int pp), .val (.int nsx), .val (.int c0), .val (.int c1), .val (.int e0), .val (.int e1), .val (.ref b3), .val (.ref b10), .val (.ref b18), .val (.ref b34), .val (.ref b54), .val .null, .val (.ref b244), .val (.ref b254), .val (.int (1 : Int32)), .val (.int sx), .val (.int ln), .val (.ref xr372), .unset] [(.int ln)])) ?_ (fun t k => XS.iload X383.here hx rfl (hb hby at_337) rfl k)
  refine Gen.on (b := T383.setTop (mkF m 340 #[.val (.int p1), .val (.int p2), .val (.int p3), .val (.int pp), .val (.int nsx), .val (.int c0), .val (.int c1), .val (.int e0), .val (.int e1), .val (.ref b3), .val (.ref b10), .val (.ref b18), .val (.ref b34), .val (.ref b54), .val .null, .val (.ref b244), .val (.ref b254), .val (.int (1 : Int32)), .val (.int sx), .val (.int ln), .val (.ref xr372), .unset] [(.int (1 : Int32)), (.int ln)])) ?_ (fun t k => XS.iconst X383.here hx rfl (hb hby at_339) k)
  refine Gen.on (b := T383.setTop (mkF m 343 #[.val (.int p1), .val (.int p2), .val (.int p3), .val (.int pp), .val (.int nsx), .val (.int c0), .val (.int c1), .val (.int e0), .val (.int e1), .val (.ref b3), .val (.ref b10), .val (.ref b18), .val (.ref b34), .val (.ref b54), .val .null, .val (.ref b244), .val (.ref b254), .val (.int (1 : Int32)), .val (.int sx), .val (.int ln), .val (.ref xr372), .unset] [])) ?_ (fun t k => XS.icmpNo X383.here hx rfl (hb hby at_340) rfl (flt (own_n1 k_kl hz)).1 k)
  refine Gen.on (b := T383.setTop (mkF m 345 #[.val (.int p1), .val (.int p2), .val (.int p3), .val (.int pp), .val (.int nsx), .val (.int c0), .val (.int c1), .val (.int e0), .val (.int e1), .val (.ref b3), .val (.ref b10), .val (.ref b18), .val (.ref b34), .val (.ref b54), .val .null, .val (.ref b244), .val (.ref b254), .val (.int (1 : Int32)), .val (.int sx), .val (.int ln), .val (.ref xr372), .unset] [(.ref xr372)])) ?_ (fun t k => XS.aload X383.here hx rfl (hb hby at_343) rfl rfl k)
  refine Gen.on (b := T383.setTop (mkF m 346 #[.val (.int p1), .val (.int p2), .val (.int p3), .val (.int pp), .val (.int nsx), .val (.int c0), .val (.int c1), .val (.int e0), .val (.int e1), .val (.ref b3), .val (.ref b10), .val (.ref b18), .val (.ref b34), .val (.ref b54), .val .null, .val (.ref b244), .val (.ref b254), .val (.int (1 : Int32)), .val (.int sx), .val (.int ln), .val (.ref xr372), .unset] [(.int (0 : Int32)), (.ref xr372)])) ?_ (fun t k => XS.iconst X383.here hx rfl (hb hby at_345) k)
  obtain ⟨cq390, kq390, q390a, q390b, q390c⟩ := isOf hZ e383 hf372_0
  obtain ⟨_, _, ⟨T390, L390, k390, n390⟩, -, X390, ⟨Lc390, hQ390, l390, y390, z390⟩, st390⟩ := X383.virtualBack hx (y := (⟨"java/lang/String", "charAt", "(I)C"⟩ : MethodName)) (z := (⟨"java/lang/String", "charAt", "(I)C"⟩ : MethodName)) hown (mvT hZ (hw _ (List.mem_of_getElem? (i := 133) rfl))) (mvT hZ (hw _ (List.mem_of_getElem? (i := 134) rfl))) (notFace_of_selects (args := #[]) (mvT hZ (hw _ (List.mem_of_getElem? (i := 136) rfl)))) (mvT hZ (hw _ (List.mem_of_getElem? (i := 136) rfl))) (mvT hZ (hw _ (List.mem_of_getElem? (i := 135) rfl))) (by decide) (backOf (W := 0) (rm22 l Z a0 hw [] xr372 (0 : Int32) xb372 ln (fun j => own_b ((fun j => (own_y c0 c1) (sx + j)) j)) w0 f0 T372.heap n0 Z372 hf372_0 xv372 xk372 xy372 fa389 (by decide) (own_p0 k_kl hz) (sts)) hZ (hw _ (List.mem_of_getElem? (i := 137) rfl)) (hw _ (List.mem_of_getElem? (i := 3) rfl)) (by decide) (by decide)) q390a q390c (g := (mkF m 346 #[.val (.int p1), .val (.int p2), .val (.int p3), .val (.int pp), .val (.int nsx), .val (.int c0), .val (.int c1), .val (.int e0), .val (.int e1), .val (.ref b3), .val (.ref b10), .val (.ref b18), .val (.ref b34), .val (.ref b54), .val .null, .val (.ref b244), .val (.ref b254), .val (.int (1 : Int32)), .val (.int sx), .val (.int ln), .val (.ref xr372), .unset] [(.int (0 : Int32)), (.ref xr372)])) rfl (by rw [hml]; rfl) (Steps.refl _) (argsL := [(.int (0 : Int32))]) (rest := []) (lenOf pd_0_10 rfl) rfl (by show 2 * 0 + _ ≤ _; exact Nat.le_of_eq rfl) (hb hby at_346) (fun _ _ => ⟨rfl, e383, (by decide : 19 + 0 ≤ _), (by decide : 64 + 0 ≤ _)⟩)
  dsimp only [Pt.U, Pt.locs, Pt.cells, Pt.slots] at X390 l390 y390 z390 st390 hQ390
  subst l390 y390 z390
  obtain ⟨rfl, N390q, e390⟩ := hQ390
  have N390 := Fr.app N383 N390q
  refine Gen.on (b := T390.setTop (mkF m 349 #[.val (.int p1), .val (.int p2), .val (.int p3), .val (.int pp), .val (.int nsx), .val (.int c0), .val (.int c1), .val (.int e0), .val (.int e1), .val (.ref b3), .val (.ref b10), .val (.ref b18), .val (.ref b34), .val (.ref b54), .val .null, .val (.ref b244), .val (.ref b254), .val (.int (1 : Int32)), .val (.int sx), .val (.int ln), .val (.ref xr372), .unset] [(.int (own_lc ((fun j => own_b ((fun j => (own_y c0 c1) (sx + j)) j)) (0 : Int32))))])) ?_ (fun t k => st390.trans k)
  refine Gen.on (b := T390.setTop (mkF m 351 #[.val (.int p1), .val (.int p2), .val (.int p3), .val (.int pp), .val (.int nsx), .val (.int c0), .val (.int c1), .val (.int e0), .val (.int e1), .val (.ref b3), .val (.ref b10), .val (.ref b18), .val (.ref b34), .val (.ref b54), .val .null, .val (.ref b244), .val (.ref b254), .val (.int (1 : Int32)), .val (.int sx), .val (.int ln), .val (.ref xr372), .unset] [(.ref b10), (.int (own_lc ((fun j => own_b ((fun j => (own_y c0 c1) (sx + j)) j)) (0 : Int32))))])) ?_ (fun t k => XS.aload X390.here hx rfl (hb hby at_349) rfl rfl k)
  refine Gen.on (b := T390.setTop (mkF m 353 #[.val (.int p1), .val (.int p2), .val (.int p3), .val (.int pp), .val (.int nsx), .val (.int c0), .val (.int c1), .val (.int e0), .val (.int e1), .val (.ref b3), .val (.ref b10), .val (.ref b18), .val (.ref b34), .val (.ref b54), .val .null, .val (.ref b244), .val (.ref b254), .val (.int (1 : Int32)), .val (.int sx), .val (.int ln), .val (.ref xr372), .unset] [(.int sx), (.ref b10), (.int (own_lc ((fun j => own_b ((fun j => (own_y c0 c1) (sx + j)) j)) (0 : Int32))))])) ?_ (fun t k => XS.iload X390.here hx rfl (hb hby at_351) rfl k)
  have fa391 := (fa374.keep Kc372 (ninS ne_b10_m6_263 nin0))
  obtain ⟨cl392, Ar392, SA392, NA392, HA392⟩ := id fa391
  have hin392 : ¬ (sx < 0 ∨ cl392.slots.size ≤ (sx).toNatClampNeg) := inb_of SA392 ⟨(own_s0 k_kl), (own_s2 k_kl)⟩
  refine Gen.on (b := T390.setTop (mkF m 354 #[.val (.int p1), .val (.int p2), .val (.int p3), .val (.int pp), .val (.int nsx), .val (.int c0), .val (.int c1), .val (.int e0), .val (.int e1), .val (.ref b3), .val (.ref b10), .val (.ref b18), .val (.ref b34), .val (.ref b54), .val .null, .val (.ref b244), .val (.ref b254), .val (.int (1 : Int32)), .val (.int sx), .val (.int ln), .val (.ref xr372), .unset] [(.int ((own_y c0 c1) sx)), (.int (own_lc ((fun j => own_b ((fun j => (own_y c0 c1) (sx + j)) j)) (0 : Int32))))])) ?_ (fun t k => X390.caload hx (j := sx) (v := (.int ((own_y c0 c1) sx))) (by rw [e390]; exact Ar392.1) (State.isArrayOf_alike hZ.alike Ar392.2.1) Ar392.2.2 hin392 (HA392 _ hin392) (g := (mkF m 353 #[.val (.int p1), .val (.int p2), .val (.int p3), .val (.int pp), .val (.int nsx), .val (.int c0), .val (.int c1), .val (.int e0), .val (.int e1), .val (.ref b3), .val (.ref b10), .val (.ref b18), .val (.ref b34), .val (.ref b54), .val .null, .val (.ref b244), .val (.ref b254), .val (.int (1 : Int32)), .val (.int sx), .val (.int ln), .val (.ref xr372), .unset] [(.int sx), (.ref b10), (.int (own_lc ((fun j => own_b ((fun j => (own_y c0 c1) (sx + j)) j)) (0 : Int32))))])) rfl rfl (hb hby at_353) t k)
  refine Gen.on (b := T390.setTop (mkF m 357 #[.val (.int p1), .val (.int p2), .val (.int p3), .val (.int pp), .val (.int nsx), .val (.int c0), .val (.int c1), .val (.int e0), .val (.int e1), .val (.ref b3), .val (.ref b10), .val (.ref b18), .val (.ref b34), .val (.ref b54), .val .null, .val (.ref b244), .val (.ref b254), .val (.int (1 : Int32)), .val (.int sx), .val (.int ln), .val (.ref xr372), .unset] [])) ?_ (fun t k => XS.icmpNo X390.here hx rfl (hb hby at_354) rfl (teq (own_chr0 k_c0 k_c1 sx : (own_lc ((fun j => own_b ((fun j => (own_y c0 c1) (sx + j)) j)) (0 : Int32))) = ((own_y c0 c1) sx))).2 k)
  refine Gen.on (b := T390.setTop (mkF m 359 #[.val (.int p1), .val (.int p2), .val (.int p3), .val (.int pp), .val (.int nsx), .val (.int c0), .val (.int c1), .val (.int e0), .val (.int e1), .val (.ref b3), .val (.ref b10), .val (.ref b18), .val (.ref b34), .val (.ref b54), .val .null, .val (.ref b244), .val (.ref b254), .val (.int (1 : Int32)), .val (.int sx), .val (.int ln), .val (.ref xr372), .unset] [(.int ln)])) ?_ (fun t k => XS.iload X390.here hx rfl (hb hby at_357) rfl k)
  refine Gen.on (b := T390.setTop (mkF m 360 #[.val (.int p1), .val (.int p2), .val (.int p3), .val (.int pp), .val (.int nsx), .val (.int c0), .val (.int c1), .val (.int e0), .val (.int e1), .val (.ref b3), .val (.ref b10), .val (.ref b18), .val (.ref b34), .val (.ref b54), .val .null, .val (.ref b244), .val (.ref b254), .val (.int (1 : Int32)), .val (.int sx), .val (.int ln), .val (.ref xr372), .unset] [(.int (2 : Int32)), (.int ln)])) ?_ (fun t k => XS.iconst X390.here hx rfl (hb hby at_359) k)
  by_cases c360_9 : ln < (2 : Int32)
  · refine Gen.on (b := T390.setTop (mkF m 379 #[.val (.int p1), .val (.int p2), .val (.int p3), .val (.int pp), .val (.int nsx), .val (.int c0), .val (.int c1), .val (.int e0), .val (.int e1), .val (.ref b3), .val (.ref b10), .val (.ref b18), .val (.ref b34), .val (.ref b54), .val .null, .val (.ref b244), .val (.ref b254), .val (.int (1 : Int32)), .val (.int sx), .val (.int ln), .val (.ref xr372), .unset] [])) ?_ (fun t k => XS.icmpYes X390.here hx rfl (pc0 := 360) (pc' := 379) rfl (hb hby at_360) rfl (tlt c360_9).1 (by decide) (by decide) k)
    refine Gen.on (b := T390.setTop (mkF m 380 #[.val (.int p1), .val (.int p2), .val (.int p3), .val (.int pp), .val (.int nsx), .val (.int c0), .val (.int c1), .val (.int e0), .val (.int e1), .val (.ref b3), .val (.ref b10), .val (.ref b18), .val (.ref b34), .val (.ref b54), .val .null, .val (.ref b244), .val (.ref b254), .val (.int (1 : Int32)), .val (.int sx), .val (.int ln), .val (.ref xr372), .unset] [(.int (1 : Int32))])) ?_ (fun t k => XS.iconst X390.here hx rfl (hb hby at_379) k)
    refine Gen.on (b := T390.setTop (mkF m 384 #[.val (.int p1), .val (.int p2), .val (.int p3), .val (.int pp), .val (.int nsx), .val (.int c0), .val (.int c1), .val (.int e0), .val (.int e1), .val (.ref b3), .val (.ref b10), .val (.ref b18), .val (.ref b34), .val (.ref b54), .val .null, .val (.ref b244), .val (.ref b254), .val (.int (1 : Int32)), .val (.int sx), .val (.int ln), .val (.ref xr372), .unset] [(.int (1 : Int32))])) ?_ (fun t k => XS.goto X390.here hx rfl (pc0 := 380) (pc' := 384) rfl (hb hby at_380) (by decide) (by decide) k)
    refine Gen.on (b := T390.setTop (mkF m 386 #[.val (.int p1), .val (.int p2), .val (.int p3), .val (.int pp), .val (.int nsx), .val (.int c0), .val (.int c1), .val (.int e0), .val (.int e1), .val (.ref b3), .val (.ref b10), .val (.ref b18), .val (.ref b34), .val (.ref b54), .val .null, .val (.ref b244), .val (.ref b254), .val (.int (1 : Int32)), .val (.int sx), .val (.int ln), .val (.ref xr372), .val (.int (1 : Int32))] [])) ?_ (fun t k => XS.istore X390.here hx rfl (hb hby at_384) rfl (l' := #[.val (.int p1), .val (.int p2), .val (.int p3), .val (.int pp), .val (.int nsx), .val (.int c0), .val (.int c1), .val (.int e0), .val (.int e1), .val (.ref b3), .val (.ref b10), .val (.ref b18), .val (.ref b34), .val (.ref b54), .val .null, .val (.ref b244), .val (.ref b254), .val (.int (1 : Int32)), .val (.int sx), .val (.int ln), .val (.ref xr372), .val (.int (1 : Int32))]) rfl k)
    refine Gen.on (b := T390.setTop (mkF m 388 #[.val (.int p1), .val (.int p2), .val (.int p3), .val (.int pp), .val (.int nsx), .val (.int c0), .val (.int c1), .val (.int e0), .val (.int e1), .val (.ref b3), .val (.ref b10), .val (.ref b18), .val (.ref b34), .val (.ref b54), .val .null, .val (.ref b244), .val (.ref b254), .val (.int (1 : Int32)), .val (.int sx), .val (.int ln), .val (.ref xr372), .val (.int (1 : Int32))] [(.int (1 : Int32))])) ?_ (fun t k => XS.iload X390.here hx rfl (hb hby at_386) rfl k)
    refine Gen.on (b := T390.setTop (mkF m 391 #[.val (.int p1), .val (.int p2), .val (.int p3), .val (.int pp), .val (.int nsx), .val (.int c0), .val (.int c1), .val (.int e0), .val (.int e1), .val (.ref b3), .val (.ref b10), .val (.ref b18), .val (.ref b34), .val (.ref b54), .val .null, .val (.ref b244), .val (.ref b254), .val (.int (1 : Int32)), .val (.int sx), .val (.int ln), .val (.ref xr372), .val (.int (1 : Int32))] [])) ?_ (fun t k => XS.ifNo X390.here hx rfl (hb hby at_388) rfl ((if0 _ _).trans (feq (by decide : ¬ ((1 : Int32) = (0 : Int32)))).1) k)
    refine Gen.on (b := T390.setTop (mkF m 393 #[.val (.int p1), .val (.int p2), .val (.int p3), .val (.int pp), .val (.int nsx), .val (.int c0), .val (.int c1), .val (.int e0), .val (.int e1), .val (.ref b3), .val (.ref b10), .val (.ref b18), .val (.ref b34), .val (.ref b54), .val .null, .val (.ref b244), .val (.ref b254), .val (.int (1 : Int32)), .val (.int sx), .val (.int ln), .val (.ref xr372), .val (.int (1 : Int32))] [(.int (1 : Int32))])) ?_ (fun t k => XS.iload X390.here hx rfl (hb hby at_391) rfl k)
    refine Gen.on (b := T390.setTop (mkF m 396 #[.val (.int p1), .val (.int p2), .val (.int p3), .val (.int pp), .val (.int nsx), .val (.int c0), .val (.int c1), .val (.int e0), .val (.int e1), .val (.ref b3), .val (.ref b10), .val (.ref b18), .val (.ref b34), .val (.ref b54), .val .null, .val (.ref b244), .val (.ref b254), .val (.int (1 : Int32)), .val (.int sx), .val (.int ln), .val (.ref xr372), .val (.int (1 : Int32))] [])) ?_ (fun t k => XS.ifNo X390.here hx rfl (hb hby at_393) rfl ((if0 _ _).trans (feq (by decide : ¬ ((1 : Int32) = (0 : Int32)))).1) k)
    refine Gen.on (b := T390.setTop (mkF m 398 #[.val (.int p1), .val (.int p2), .val (.int p3), .val (.int pp), .val (.int nsx), .val (.int c0), .val (.int c1), .val (.int e0), .val (.int e1), .val (.ref b3), .val (.ref b10), .val (.ref b18), .val (.ref b34), .val (.ref b54), .val .null, .val (.ref b244), .val (.ref b254), .val (.int (1 : Int32)), .val (.int sx), .val (.int ln), .val (.ref xr372), .val (.int (1 : Int32))] [(.ref b254)])) ?_ (fun t k => XS.aload X390.here hx rfl (hb hby at_396) rfl rfl k)
    have fa394 := (hf370_0.keep Kc372)
    have fa395 := (hf370_5.keep Kc372 (ninS ne_b254_m6_263 nin0))
    obtain ⟨cq393, kq393, q393a, q393b, q393c⟩ := isOf hZ e390 fa394
    obtain ⟨_, _, ⟨T393, L393, k393, n393⟩, -, X393, ⟨Lc393, hQ393, l393, y393, z393⟩, st393⟩ := X390.virtualBack hx (y := (⟨"com/example/scheherazade/scheherazade/reader/TagParts", "getAttributeCount", "()I"⟩ : MethodName)) (z := (⟨"com/example/scheherazade/scheherazade/reader/TagParts", "getAttributeCount", "()I"⟩ : MethodName)) hown (mvT hZ (hw _ (List.mem_of_getElem? (i := 91) rfl))) (mvT hZ (hw _ (List.mem_of_getElem? (i := 92) rfl))) (notFace_of_selects (args := #[]) (mvT hZ (hw _ (List.mem_of_getElem? (i := 94) rfl)))) (mvT hZ (hw _ (List.mem_of_getElem? (i := 94) rfl))) (mvT hZ (hw _ (List.mem_of_getElem? (i := 93) rfl))) (by decide) (backOf (W := 0) (rm13 l Z a0 hw [] b254 ((0 : Int32) + (1 : Int32)) T372.heap n0 Z372 fa394 fa395) hZ (hw _ (List.mem_of_getElem? (i := 95) rfl)) (hw _ (List.mem_of_getElem? (i := 32) rfl)) (by decide) (by decide)) q393a q393c (g := (mkF m 398 #[.val (.int p1), .val (.int p2), .val (.int p3), .val (.int pp), .val (.int nsx), .val (.int c0), .val (.int c1), .val (.int e0), .val (.int e1), .val (.ref b3), .val (.ref b10), .val (.ref b18), .val (.ref b34), .val (.ref b54), .val .null, .val (.ref b244), .val (.ref b254), .val (.int (1 : Int32)), .val (.int sx), .val (.int ln), .val (.ref xr372), .val (.int (1 : Int32))] [(.ref b254)])) rfl (by rw [hml]; rfl) (Steps.refl _) (argsL := []) (rest := []) (lenOf pd_0_7 rfl) rfl (by show 2 * 0 + _ ≤ _; exact Nat.le_of_eq rfl) (hb hby at_398) (fun _ _ => ⟨rfl, e390, (by decide : 19 + 0 ≤ _), (by decide : 64 + 0 ≤ _)⟩)
    dsimp only [Pt.U, Pt.locs, Pt.cells, Pt.slots] at X393 l393 y393 z393 st393 hQ393
    subst l393 y393 z393
    obtain ⟨rfl, N393q, e393⟩ := hQ393
    have N393 := Fr.app N390 N393q
    refine Gen.on (b := T393.setTop (mkF m 401 #[.val (.int p1), .val (.int p2), .val (.int p3), .val (.int pp), .val (.int nsx), .val (.int c0), .val (.int c1), .val (.int e0), .val (.int e1), .val (.ref b3), .val (.ref b10), .val (.ref b18), .val (.ref b34), .val (.ref b54), .val .null, .val (.ref b244), .val (.ref b254), .val (.int (1 : Int32)), .val (.int sx), .val (.int ln), .val (.ref xr372), .val (.int (1 : Int32))] [(.int ((0 : Int32) + (1 : Int32)))])) ?_ (fun t k => st393.trans k)
    refine Gen.on (b := T393.setTop (mkF m 402 #[.val (.int p1), .val (.int p2), .val (.int p3), .val (.int pp), .val (.int nsx), .val (.int c0), .val (.int c1), .val (.int e0), .val (.int e1), .val (.ref b3), .val (.ref b10), .val (.ref b18), .val (.ref b34), .val (.ref b54), .val .null, .val (.ref b244), .val (.ref b254), .val (.int (1 : Int32)), .val (.int sx), .val (.int ln), .val (.ref xr372), .val (.int (1 : Int32))] [(.int (1 : Int32)), (.int ((0 : Int32) + (1 : Int32)))])) ?_ (fun t k => XS.iconst X393.here hx rfl (hb hby at_401) k)
    refine Gen.on (b := T393.setTop (mkF m 405 #[.val (.int p1), .val (.int p2), .val (.int p3), .val (.int pp), .val (.int nsx), .val (.int c0), .val (.int c1), .val (.int e0), .val (.int e1), .val (.ref b3), .val (.ref b10), .val (.ref b18), .val (.ref b34), .val (.ref b54), .val .null, .val (.ref b244), .val (.ref b254), .val (.int (1 : Int32)), .val (.int sx), .val (.int ln), .val (.ref xr372), .val (.int (1 : Int32))] [])) ?_ (fun t k => XS.icmpNo X393.here hx rfl (hb hby at_402) rfl (teq (by decide : ((0 : Int32) + (1 : Int32)) = (1 : Int32))).2 k)
    refine Gen.on (b := T393.setTop (mkF m 406 #[.val (.int p1), .val (.int p2), .val (.int p3), .val (.int pp), .val (.int nsx), .val (.int c0), .val (.int c1), .val (.int e0), .val (.int e1), .val (.ref b3), .val (.ref b10), .val (.ref b18), .val (.ref b34), .val (.ref b54), .val .null, .val (.ref b244), .val (.ref b254), .val (.int (1 : Int32)), .val (.int sx), .val (.int ln), .val (.ref xr372), .val (.int (1 : Int32))] [(.int (1 : Int32))])) ?_ (fun t k => XS.iconst X393.here hx rfl (hb hby at_405) k)
    refine Gen.on (b := T393.setTop (mkF m 410 #[.val (.int p1), .val (.int p2), .val (.int p3), .val (.int pp), .val (.int nsx), .val (.int c0), .val (.int c1), .val (.int e0), .val (.int e1), .val (.ref b3), .val (.ref b10), .val (.ref b18), .val (.ref b34), .val (.ref b54), .val .null, .val (.ref b244), .val (.ref b254), .val (.int (1 : Int32)), .val (.int sx), .val (.int ln), .val (.ref xr372), .val (.int (1 : Int32))] [(.int (1 : Int32))])) ?_ (fun t k => XS.goto X393.here hx rfl (pc0 := 406) (pc' := 410) rfl (hb hby at_406) (by decide) (by decide) k)
    refine ownS_retN (t := .boolean) X393 hh hS0 e393 hk382 hZ hEL CH382 hx hret (by simp) (by decide) (hb hby at_410) (by decide) (by decide) ?_
    exact ⟨rfl, N393⟩
  · refine Gen.on (b := T390.setTop (mkF m 363 #[.val (.int p1), .val (.int p2), .val (.int p3), .val (.int pp), .val (.int nsx), .val (.int c0), .val (.int c1), .val (.int e0), .val (.int e1), .val (.ref b3), .val (.ref b10), .val (.ref b18), .val (.ref b34), .val (.ref b54), .val .null, .val (.ref b244), .val (.ref b254), .val (.int (1 : Int32)), .val (.int sx), .val (.int ln), .val (.ref xr372), .unset] [])) ?_ (fun t k => XS.icmpNo X390.here hx rfl (hb hby at_360) rfl (flt c360_9).1 k)
    refine Gen.on (b := T390.setTop (mkF m 365 #[.val (.int p1), .val (.int p2), .val (.int p3), .val (.int pp), .val (.int nsx), .val (.int c0), .val (.int c1), .val (.int e0), .val (.int e1), .val (.ref b3), .val (.ref b10), .val (.ref b18), .val (.ref b34), .val (.ref b54), .val .null, .val (.ref b244), .val (.ref b254), .val (.int (1 : Int32)), .val (.int sx), .val (.int ln), .val (.ref xr372), .unset] [(.ref xr372)])) ?_ (fun t k => XS.aload X390.here hx rfl (hb hby at_363) rfl rfl k)
    refine Gen.on (b := T390.setTop (mkF m 366 #[.val (.int p1), .val (.int p2), .val (.int p3), .val (.int pp), .val (.int nsx), .val (.int c0), .val (.int c1), .val (.int e0), .val (.int e1), .val (.ref b3), .val (.ref b10), .val (.ref b18), .val (.ref b34), .val (.ref b54), .val .null, .val (.ref b244), .val (.ref b254), .val (.int (1 : Int32)), .val (.int sx), .val (.int ln), .val (.ref xr372), .unset] [(.int (1 : Int32)), (.ref xr372)])) ?_ (fun t k => XS.iconst X390.here hx rfl (hb hby at_365) k)
    obtain ⟨cq396, kq396, q396a, q396b, q396c⟩ := isOf hZ e390 hf372_0
    obtain ⟨_, _, ⟨T396, L396, k396, n396⟩, -, X396, ⟨Lc396, hQ396, l396, y396, z396⟩, st396⟩ := X390.virtualBack hx (y := (⟨"java/lang/String", "charAt", "(I)C"⟩ : MethodName)) (z := (⟨"java/lang/String", "charAt", "(I)C"⟩ : MethodName)) hown (mvT hZ (hw _ (List.mem_of_getElem? (i := 133) rfl))) (mvT hZ (hw _ (List.mem_of_getElem? (i := 134) rfl))) (notFace_of_selects (args := #[]) (mvT hZ (hw _ (List.mem_of_getElem? (i := 136) rfl)))) (mvT hZ (hw _ (List.mem_of_getElem? (i := 136) rfl))) (mvT hZ (hw _ (List.mem_of_getElem? (i := 135) rfl))) (by decide) (backOf (W := 0) (rm22 l Z a0 hw [] xr372 (1 : Int32) xb372 ln (fun j => own_b ((fun j => (own_y c0 c1) (sx + j)) j)) w0 f0 T372.heap n0 Z372 hf372_0 xv372 xk372 xy372 fa389 (by decide) (own_p1 k_kl c360_9) (sts)) hZ (hw _ (List.mem_of_getElem? (i := 137) rfl)) (hw _ (List.mem_of_getElem? (i := 3) rfl)) (by decide) (by decide)) q396a q396c (g := (mkF m 366 #[.val (.int p1), .val (.int p2), .val (.int p3), .val (.int pp), .val (.int nsx), .val (.int c0), .val (.int c1), .val (.int e0), .val (.int e1), .val (.ref b3), .val (.ref b10), .val (.ref b18), .val (.ref b34), .val (.ref b54), .val .null, .val (.ref b244), .val (.ref b254), .val (.int (1 : Int32)), .val (.int sx), .val (.int ln), .val (.ref xr372), .unset] [(.int (1 : Int32)), (.ref xr372)])) rfl (by rw [hml]; rfl) (Steps.refl _) (argsL := [(.int (1 : Int32))]) (rest := []) (lenOf pd_0_10 rfl) rfl (by show 2 * 0 + _ ≤ _; exact Nat.le_of_eq rfl) (hb hby at_366) (fun _ _ => ⟨rfl, e390, (by decide : 19 + 0 ≤ _), (by decide : 64 + 0 ≤ _)⟩)
    dsimp only [Pt.U, Pt.locs, Pt.cells, Pt.slots] at X396 l396 y396 z396 st396 hQ396
    subst l396 y396 z396
    obtain ⟨rfl, N396q, e396⟩ := hQ396
    have N396 := Fr.app N390 N396q
    refine Gen.on (b := T396.setTop (mkF m 369 #[.val (.int p1), .val (.int p2), .val (.int p3), .val (.int pp), .val (.int nsx), .val (.int c0), .val (.int c1), .val (.int e0), .val (.int e1), .val (.ref b3), .val (.ref b10), .val (.ref b18), .val (.ref b34), .val (.ref b54), .val .null, .val (.ref b244), .val (.ref b254), .val (.int (1 : Int32)), .val (.int sx), .val (.int ln), .val (.ref xr372), .unset] [(.int (own_lc ((fun j => own_b ((fun j => (own_y c0 c1) (sx + j)) j)) (1 : Int32))))])) ?_ (fun t k => st396.trans k)
    refine Gen.on (b := T396.setTop (mkF m 371 #[.val (.int p1), .val (.int p2), .val (.int p3), .val (.int pp), .val (.int nsx), .val (.int c0), .val (.int c1), .val (.int e0), .val (.int e1), .val (.ref b3), .val (.ref b10), .val (.ref b18), .val (.ref b34), .val (.ref b54), .val .null, .val (.ref b244), .val (.ref b254), .val (.int (1 : Int32)), .val (.int sx), .val (.int ln), .val (.ref xr372), .unset] [(.ref b10), (.int (own_lc ((fun j => own_b ((fun j => (own_y c0 c1) (sx + j)) j)) (1 : Int32))))])) ?_ (fun t k => XS.aload X396.here hx rfl (hb hby at_369) rfl rfl k)
    refine Gen.on (b := T396.setTop (mkF m 373 #[.val (.int p1), .val (.int p2), .val (.int p3), .val (.int pp), .val (.int nsx), .val (.int c0), .val (.int c1), .val (.int e0), .val (.int e1), .val (.ref b3), .val (.ref b10), .val (.ref b18), .val (.ref b34), .val (.ref b54), .val .null, .val (.ref b244), .val (.ref b254), .val (.int (1 : Int32)), .val (.int sx), .val (.int ln), .val (.ref xr372), .unset] [(.int sx), (.ref b10), (.int (own_lc ((fun j => own_b ((fun j => (own_y c0 c1) (sx + j)) j)) (1 : Int32))))])) ?_ (fun t k => XS.iload X396.here hx rfl (hb hby at_371) rfl k)
    refine Gen.on (b := T396.setTop (mkF m 374 #[.val (.int p1), .val (.int p2), .val (.int p3), .val (.int pp), .val (.int nsx), .val (.int c0), .val (.int c1), .val (.int e0), .val (.int e1), .val (.ref b3), .val (.ref b10), .val (.ref b18), .val (.ref b34), .val (.ref b54), .val .null, .val (.ref b244), .val (.ref b254), .val (.int (1 : Int32)), .val (.int sx), .val (.int ln), .val (.ref xr372), .unset] [(.int (1 : Int32)), (.int sx), (.ref b10), (.int (own_lc ((fun j => own_b ((fun j => (own_y c0 c1) (sx + j)) j)) (1 : Int32))))])) ?_ (fun t k => XS.iconst X396.here hx rfl (hb hby at_373) k)
    refine Gen.on (b := T396.setTop (mkF m 375 #[.val (.int p1), .val (.int p2), .val (.int p3), .val (.int pp), .val (.int nsx), .val (.int c0), .val (.int c1), .val (.int e0), .val (.int e1), .val (.ref b3), .val (.ref b10), .val (.ref b18), .val (.ref b34), .val (.ref b54), .val .null, .val (.ref b244), .val (.ref b254), .val (.int (1 : Int32)), .val (.int sx), .val (.int ln), .val (.ref xr372), .unset] [(.int (sx + (1 : Int32))), (.ref b10), (.int (own_lc ((fun j => own_b ((fun j => (own_y c0 c1) (sx + j)) j)) (1 : Int32))))])) ?_ (fun t k => XS.iadd X396.here hx rfl (hb hby at_374) rfl k)
    obtain ⟨cl397, Ar397, SA397, NA397, HA397⟩ := id fa391
    have hin397 : ¬ ((sx + (1 : Int32)) < 0 ∨ cl397.slots.size ≤ ((sx + (1 : Int32))).toNatClampNeg) := inb_of SA397 ⟨(own_t0 k_kl c360_9).1, (own_t0 k_kl c360_9).2⟩
    refine Gen.on (b := T396.setTop (mkF m 376 #[.val (.int p1), .val (.int p2), .val (.int p3), .val (.int pp), .val (.int nsx), .val (.int c0), .val (.int c1), .val (.int e0), .val (.int e1), .val (.ref b3), .val (.ref b10), .val (.ref b18), .val (.ref b34), .val (.ref b54), .val .null, .val (.ref b244), .val (.ref b254), .val (.int (1 : Int32)), .val (.int sx), .val (.int ln), .val (.ref xr372), .unset] [(.int ((own_y c0 c1) (sx + (1 : Int32)))), (.int (own_lc ((fun j => own_b ((fun j => (own_y c0 c1) (sx + j)) j)) (1 : Int32))))])) ?_ (fun t k => X396.caload hx (j := (sx + (1 : Int32))) (v := (.int ((own_y c0 c1) (sx + (1 : Int32))))) (by rw [e396]; exact Ar397.1) (State.isArrayOf_alike hZ.alike Ar397.2.1) Ar397.2.2 hin397 (HA397 _ hin397) (g := (mkF m 375 #[.val (.int p1), .val (.int p2), .val (.int p3), .val (.int pp), .val (.int nsx), .val (.int c0), .val (.int c1), .val (.int e0), .val (.int e1), .val (.ref b3), .val (.ref b10), .val (.ref b18), .val (.ref b34), .val (.ref b54), .val .null, .val (.ref b244), .val (.ref b254), .val (.int (1 : Int32)), .val (.int sx), .val (.int ln), .val (.ref xr372), .unset] [(.int (sx + (1 : Int32))), (.ref b10), (.int (own_lc ((fun j => own_b ((fun j => (own_y c0 c1) (sx + j)) j)) (1 : Int32))))])) rfl rfl (hb hby at_375) t k)
    refine Gen.on (b := T396.setTop (mkF m 379 #[.val (.int p1), .val (.int p2), .val (.int p3), .val (.int pp), .val (.int nsx), .val (.int c0), .val (.int c1), .val (.int e0), .val (.int e1), .val (.ref b3), .val (.ref b10), .val (.ref b18), .val (.ref b34), .val (.ref b54), .val .null, .val (.ref b244), .val (.ref b254), .val (.int (1 : Int32)), .val (.int sx), .val (.int ln), .val (.ref xr372), .unset] [])) ?_ (fun t k => XS.icmpNo X396.here hx rfl (hb hby at_376) rfl (teq (own_chr1 k_c0 k_c1 sx : (own_lc ((fun j => own_b ((fun j => (own_y c0 c1) (sx + j)) j)) (1 : Int32))) = ((own_y c0 c1) (sx + (1 : Int32))))).2 k)
    refine Gen.on (b := T396.setTop (mkF m 380 #[.val (.int p1), .val (.int p2), .val (.int p3), .val (.int pp), .val (.int nsx), .val (.int c0), .val (.int c1), .val (.int e0), .val (.int e1), .val (.ref b3), .val (.ref b10), .val (.ref b18), .val (.ref b34), .val (.ref b54), .val .null, .val (.ref b244), .val (.ref b254), .val (.int (1 : Int32)), .val (.int sx), .val (.int ln), .val (.ref xr372), .unset] [(.int (1 : Int32))])) ?_ (fun t k => XS.iconst X396.here hx rfl (hb hby at_379) k)
    refine Gen.on (b := T396.setTop (mkF m 384 #[.val (.int p1), .val (.int p2), .val (.int p3), .val (.int pp), .val (.int nsx), .val (.int c0), .val (.int c1), .val (.int e0), .val (.int e1), .val (.ref b3), .val (.ref b10), .val (.ref b18), .val (.ref b34), .val (.ref b54), .val .null, .val (.ref b244), .val (.ref b254), .val (.int (1 : Int32)), .val (.int sx), .val (.int ln), .val (.ref xr372), .unset] [(.int (1 : Int32))])) ?_ (fun t k => XS.goto X396.here hx rfl (pc0 := 380) (pc' := 384) rfl (hb hby at_380) (by decide) (by decide) k)
    refine Gen.on (b := T396.setTop (mkF m 386 #[.val (.int p1), .val (.int p2), .val (.int p3), .val (.int pp), .val (.int nsx), .val (.int c0), .val (.int c1), .val (.int e0), .val (.int e1), .val (.ref b3), .val (.ref b10), .val (.ref b18), .val (.ref b34), .val (.ref b54), .val .null, .val (.ref b244), .val (.ref b254), .val (.int (1 : Int32)), .val (.int sx), .val (.int ln), .val (.ref xr372), .val (.int (1 : Int32))] [])) ?_ (fun t k => XS.istore X396.here hx rfl (hb hby at_384) rfl (l' := #[.val (.int p1), .val (.int p2), .val (.int p3), .val (.int pp), .val (.int nsx), .val (.int c0), .val (.int c1), .val (.int e0), .val (.int e1), .val (.ref b3), .val (.ref b10), .val (.ref b18), .val (.ref b34), .val (.ref b54), .val .null, .val (.ref b244), .val (.ref b254), .val (.int (1 : Int32)), .val (.int sx), .val (.int ln), .val (.ref xr372), .val (.int (1 : Int32))]) rfl k)
    refine Gen.on (b := T396.setTop (mkF m 388 #[.val (.int p1), .val (.int p2), .val (.int p3), .val (.int pp), .val (.int nsx), .val (.int c0), .val (.int c1), .val (.int e0), .val (.int e1), .val (.ref b3), .val (.ref b10), .val (.ref b18), .val (.ref b34), .val (.ref b54), .val .null, .val (.ref b244), .val (.ref b254), .val (.int (1 : Int32)), .val (.int sx), .val (.int ln), .val (.ref xr372), .val (.int (1 : Int32))] [(.int (1 : Int32))])) ?_ (fun t k => XS.iload X396.here hx rfl (hb hby at_386) rfl k)
    refine Gen.on (b := T396.setTop (mkF m 391 #[.val (.int p1), .val (.int p2), .val (.int p3), .val (.int pp), .val (.int nsx), .val (.int c0), .val (.int c1), .val (.int e0), .val (.int e1), .val (.ref b3), .val (.ref b10), .val (.ref b18), .val (.ref b34), .val (.ref b54), .val .null, .val (.ref b244), .val (.ref b254), .val (.int (1 : Int32)), .val (.int sx), .val (.int ln), .val (.ref xr372), .val (.int (1 : Int32))] [])) ?_ (fun t k => XS.ifNo X396.here hx rfl (hb hby at_388) rfl ((if0 _ _).trans (feq (by decide : ¬ ((1 : Int32) = (0 : Int32)))).1) k)
    refine Gen.on (b := T396.setTop (mkF m 393 #[.val (.int p1), .val (.int p2), .val (.int p3), .val (.int pp), .val (.int nsx), .val (.int c0), .val (.int c1), .val (.int e0), .val (.int e1), .val (.ref b3), .val (.ref b10), .val (.ref b18), .val (.ref b34), .val (.ref b54), .val .null, .val (.ref b244), .val (.ref b254), .val (.int (1 : Int32)), .val (.int sx), .val (.int ln), .val (.ref xr372), .val (.int (1 : Int32))] [(.int (1 : Int32))])) ?_ (fun t k => XS.iload X396.here hx rfl (hb hby at_391) rfl k)
    refine Gen.on (b := T396.setTop (mkF m 396 #[.val (.int p1), .val (.int p2), .val (.int p3), .val (.int pp), .val (.int nsx), .val (.int c0), .val (.int c1), .val (.int e0), .val (.int e1), .val (.ref b3), .val (.ref b10), .val (.ref b18), .val (.ref b34), .val (.ref b54), .val .null, .val (.ref b244), .val (.ref b254), .val (.int (1 : Int32)), .val (.int sx), .val (.int ln), .val (.ref xr372), .val (.int (1 : Int32))] [])) ?_ (fun t k => XS.ifNo X396.here hx rfl (hb hby at_393) rfl ((if0 _ _).trans (feq (by decide : ¬ ((1 : Int32) = (0 : Int32)))).1) k)
    refine Gen.on (b := T396.setTop (mkF m 398 #[.val (.int p1), .val (.int p2), .val (.int p3), .val (.int pp), .val (.int nsx), .val (.int c0), .val (.int c1), .val (.int e0), .val (.int e1), .val (.ref b3), .val (.ref b10), .val (.ref b18), .val (.ref b34), .val (.ref b54), .val .null, .val (.ref b244), .val (.ref b254), .val (.int (1 : Int32)), .val (.int sx), .val (.int ln), .val (.ref xr372), .val (.int (1 : Int32))] [(.ref b254)])) ?_ (fun t k => XS.aload X396.here hx rfl (hb hby at_396) rfl rfl k)
    have fa399 := (hf370_0.keep Kc372)
    have fa400 := (hf370_5.keep Kc372 (ninS ne_b254_m6_263 nin0))
    obtain ⟨cq398, kq398, q398a, q398b, q398c⟩ := isOf hZ e396 fa399
    obtain ⟨_, _, ⟨T398, L398, k398, n398⟩, -, X398, ⟨Lc398, hQ398, l398, y398, z398⟩, st398⟩ := X396.virtualBack hx (y := (⟨"com/example/scheherazade/scheherazade/reader/TagParts", "getAttributeCount", "()I"⟩ : MethodName)) (z := (⟨"com/example/scheherazade/scheherazade/reader/TagParts", "getAttributeCount", "()I"⟩ : MethodName)) hown (mvT hZ (hw _ (List.mem_of_getElem? (i := 91) rfl))) (mvT hZ (hw _ (List.mem_of_getElem? (i := 92) rfl))) (notFace_of_selects (args := #[]) (mvT hZ (hw _ (List.mem_of_getElem? (i := 94) rfl)))) (mvT hZ (hw _ (List.mem_of_getElem? (i := 94) rfl))) (mvT hZ (hw _ (List.mem_of_getElem? (i := 93) rfl))) (by decide) (backOf (W := 0) (rm13 l Z a0 hw [] b254 ((0 : Int32) + (1 : Int32)) T372.heap n0 Z372 fa399 fa400) hZ (hw _ (List.mem_of_getElem? (i := 95) rfl)) (hw _ (List.mem_of_getElem? (i := 32) rfl)) (by decide) (by decide)) q398a q398c (g := (mkF m 398 #[.val (.int p1), .val (.int p2), .val (.int p3), .val (.int pp), .val (.int nsx), .val (.int c0), .val (.int c1), .val (.int e0), .val (.int e1), .val (.ref b3), .val (.ref b10), .val (.ref b18), .val (.ref b34), .val (.ref b54), .val .null, .val (.ref b244), .val (.ref b254), .val (.int (1 : Int32)), .val (.int sx), .val (.int ln), .val (.ref xr372), .val (.int (1 : Int32))] [(.ref b254)])) rfl (by rw [hml]; rfl) (Steps.refl _) (argsL := []) (rest := []) (lenOf pd_0_7 rfl) rfl (by show 2 * 0 + _ ≤ _; exact Nat.le_of_eq rfl) (hb hby at_398) (fun _ _ => ⟨rfl, e396, (by decide : 19 + 0 ≤ _), (by decide : 64 + 0 ≤ _)⟩)
    dsimp only [Pt.U, Pt.locs, Pt.cells, Pt.slots] at X398 l398 y398 z398 st398 hQ398
    subst l398 y398 z398
    obtain ⟨rfl, N398q, e398⟩ := hQ398
    have N398 := Fr.app N396 N398q
    refine Gen.on (b := T398.setTop (mkF m 401 #[.val (.int p1), .val (.int p2), .val (.int p3), .val (.int pp), .val (.int nsx), .val (.int c0), .val (.int c1), .val (.int e0), .val (.int e1), .val (.ref b3), .val (.ref b10), .val (.ref b18), .val (.ref b34), .val (.ref b54), .val .null, .val (.ref b244), .val (.ref b254), .val (.int (1 : Int32)), .val (.int sx), .val (.int ln), .val (.ref xr372), .val (.int (1 : Int32))] [(.int ((0 : Int32) + (1 : Int32)))])) ?_ (fun t k => st398.trans k)
    refine Gen.on (b := T398.setTop (mkF m 402 #[.val (.int p1), .val (.int p2), .val (.int p3), .val (.int pp), .val (.int nsx), .val (.int c0), .val (.int c1), .val (.int e0), .val (.int e1), .val (.ref b3), .val (.ref b10), .val (.ref b18), .val (.ref b34), .val (.ref b54), .val .null, .val (.ref b244), .val (.ref b254), .val (.int (1 : Int32)), .val (.int sx), .val (.int ln), .val (.ref xr372), .val (.int (1 : Int32))] [(.int (1 : Int32)), (.int ((0 : Int32) + (1 : Int32)))])) ?_ (fun t k => XS.iconst X398.here hx rfl (hb hby at_401) k)
    refine Gen.on (b := T398.setTop (mkF m 405 #[.val (.int p1), .val (.int p2), .val (.int p3), .val (.int pp), .val (.int nsx), .val (.int c0), .val (.int c1), .val (.int e0), .val (.int e1), .val (.ref b3), .val (.ref b10), .val (.ref b18), .val (.ref b34), .val (.ref b54), .val .null, .val (.ref b244), .val (.ref b254), .val (.int (1 : Int32)), .val (.int sx), .val (.int ln), .val (.ref xr372), .val (.int (1 : Int32))] [])) ?_ (fun t k => XS.icmpNo X398.here hx rfl (hb hby at_402) rfl (teq (by decide : ((0 : Int32) + (1 : Int32)) = (1 : Int32))).2 k)
    refine Gen.on (b := T398.setTop (mkF m 406 #[.val (.int p1), .val (.int p2), .val (.int p3), .val (.int pp), .val (.int nsx), .val (.int c0), .val (.int c1), .val (.int e0), .val (.int e1), .val (.ref b3), .val (.ref b10), .val (.ref b18), .val (.ref b34), .val (.ref b54), .val .null, .val (.ref b244), .val (.ref b254), .val (.int (1 : Int32)), .val (.int sx), .val (.int ln), .val (.ref xr372), .val (.int (1 : Int32))] [(.int (1 : Int32))])) ?_ (fun t k => XS.iconst X398.here hx rfl (hb hby at_405) k)
    refine Gen.on (b := T398.setTop (mkF m 410 #[.val (.int p1), .val (.int p2), .val (.int p3), .val (.int pp), .val (.int nsx), .val (.int c0), .val (.int c1), .val (.int e0), .val (.int e1), .val (.ref b3), .val (.ref b10), .val (.ref b18), .val (.ref b34), .val (.ref b54), .val .null, .val (.ref b244), .val (.ref b254), .val (.int (1 : Int32)), .val (.int sx), .val (.int ln), .val (.ref xr372), .val (.int (1 : Int32))] [(.int (1 : Int32))])) ?_ (fun t k => XS.goto X398.here hx rfl (pc0 := 406) (pc' := 410) rfl (hb hby at_406) (by decide) (by decide) k)
    refine ownS_retN (t := .boolean) X398 hh hS0 e398 hk382 hZ hEL CH382 hx hret (by simp) (by decide) (hb hby at_410) (by decide) (by decide) ?_
    exact ⟨rfl, N398⟩
set_option maxRecDepth 65536 in
set_option maxHeartbeats 40000000 in
theorem seg288 {p : Program} {l : Launch} {e : Env} {s : State} {m : MethodId} {below : List Frame} {meth : Method} {c : Code} {Z : State} {a0 : Array Value} {locs : List Loc} {kS n0 : Nat} {f0 : Value} {h0 : Heap} {w0 : Int32} {p1 : Int32} {p2 : Int32} {p3 : Int32} {T263 : State} {b3 : Addr} {e0 : Int32} {e1 : Int32} {b10 : Addr} {c0 : Int32} {c1 : Int32} {b18 : Addr} {b21 : Addr} {b34 : Addr} {b39 : Addr} {b54 : Addr} {b244 : Addr} {b254 : Addr} {m1_263 : Addr} {m2_263 : Addr} {m3_263 : Addr} {m4_263 : Addr} {m5_263 : Addr} {m6_263 : Addr} {kq1_263 : ClassId} {kq2_263 : ClassId} {kq3_263 : ClassId} {kq4_263 : ClassId} {kq5_263 : ClassId} {kq6_263 : ClassId} {pp : Int32} {nsx : Int32} (hw : ∀ d ∈ tables_1, d.before a0 Z = true) (hx : p.tables.exec = Jvm.exec) (hby : c.code = code) (hml : c.maxLocals = 22) (hret : meth.sig.returnType = ret) (hlocks : meth.locks = false) (hh : s.heap = h0) (sts : Sts Z w0 f0) (hZ : Z.Warmed39 (s.setVm s.vm).vm) (hown : (s.setVm s.vm).vm.findClass "com/example/scheherazade/scheherazade/reader/TagPartsStartPinLaw" = some m.cls) (X263 : Stand p l e room_1 (s.setVm s.vm) m #[(.int p1), (.int p2), (.int p3)] below meth c T263 locs 17 58) (N263 : Fr n0 locs) (Z263 : n0 ≤ T263.heap.size) (hS0 : s.Since s.vm kS) (hk272 : kS ≤ T263.heap.size) (CH272 : CHr Z consts_1 s.vm h0 s.vm T263.heap) (fa273 : Old Z n0 T263.heap) (fa274 : Afn Z T263.heap b3 .char (2 : Int32) (own_upd (own_upd (fun _ => 0) (0 : Int32) (nar .char e0)) (1 : Int32) (nar .char e1))) (fa275 : Exa Z T263.heap b3 "[C") (fa276 : Afn Z T263.heap b10 .char (2 : Int32) (own_y c0 c1)) (fa277 : Exa Z T263.heap b10 "[C") (fa278 : Exa Z T263.heap b18 "java/lang/String") (fa279 : Afn Z T263.heap b21 .char (1 : Int32) (own_y e0 e0)) (fa280 : Exa Z T263.heap b21 "[C") (fa281 : Exa Z T263.heap b34 "java/lang/String") (fa282 : Afn Z T263.heap b39 .char (1 : Int32) (own_y c0 c0)) (fa283 : Exa Z T263.heap b39 "[C") (fa284 : Afn Z T263.heap b54 .char (1 : Int32) (own_upd (fun _ => 0) (0 : Int32) (nar .char e0))) (fa285 : Exa Z T263.heap b54 "[C") (fa286 : Afn Z T263.heap b244 .char (1 : Int32) (own_upd (fun _ => 0) (0 : Int32) (nar .char e1))) (fa287 : Exa Z T263.heap b244 "[C") (hf263_0 : Exa Z T263.heap b254 "com/example/scheherazade/scheherazade/reader/TagParts") (hf263_1 : Fld Z T263.heap b254 "com/example/scheherazade/scheherazade/reader/TagParts" "name" "Ljava/lang/String;" .null) (hf263_2 : Fld Z T263.heap b254 "com/example/scheherazade/scheherazade/reader/TagParts" "prefixed" "Z" (.int (0 : Int32))) (hf263_3 : Fld Z T263.heap b254 "com/example/scheherazade/scheherazade/reader/TagParts" "nameSpelling" "[C" .null) (hf263_4 : Fld Z T263.heap b254 "com/example/scheherazade/scheherazade/reader/TagParts" "source" "[C" .null) (hf263_5 : Fld Z T263.heap b254 "com/example/scheherazade/scheherazade/reader/TagParts" "attributeCount" "I" (.int (0 : Int32))) (hf263_6 : Fld Z T263.heap b254 "com/example/scheherazade/scheherazade/reader/TagParts" "attributeNames" "[Ljava/lang/String;" (.ref m1_263)) (hf263_7 : Fld Z T263.heap b254 "com/example/scheherazade/scheherazade/reader/TagParts" "attributePrefixes" "[Z" (.ref m2_263)) (hf263_8 : Fld Z T263.heap b254 "com/example/scheherazade/scheherazade/reader/TagParts" "attributeSpellings" "[[C" (.ref m3_263)) (hf263_9 : Fld Z T263.heap b254 "com/example/scheherazade/scheherazade/reader/TagParts" "valueStarts" "[I" (.ref m4_263)) (hf263_10 : Fld Z T263.heap b254 "com/example/scheherazade/scheherazade/reader/TagParts" "valueLengths" "[I" (.ref m5_263)) (hf263_11 : Fld Z T263.heap b254 "com/example/scheherazade/scheherazade/reader/TagParts" "attributeValues" "[Ljava/lang/String;" (.ref m6_263)) (hf263_12 : Arv Z T263.heap m1_263 kq1_263 (.object "java/lang/String") (4 : Int32) [.null, .null, .null, .null] .null) (hf263_13 : Arv Z T263.heap m2_263 kq2_263 .boolean (4 : Int32) [(.int (0 : Int32)), (.int (0 : Int32)), (.int (0 : Int32)), (.int (0 : Int32))] (.int (0 : Int32))) (hf263_14 : Arv Z T263.heap m3_263 kq3_263 (.array .char) (4 : Int32) [.null, .null, .null, .null] .null) (hf263_15 : Arv Z T263.heap m4_263 kq4_263 .int (4 : Int32) [(.int (0 : Int32)), (.int (0 : Int32)), (.int (0 : Int32)), (.int (0 : Int32))] (.int (0 : Int32))) (hf263_16 : Arv Z T263.heap m5_263 kq5_263 .int (4 : Int32) [(.int (0 : Int32)), (.int (0 : Int32)), (.int (0 : Int32)), (.int (0 : Int32))] (.int (0 : Int32))) (hf263_17 : Arv Z T263.heap m6_263 kq6_263 (.object "java/lang/String") (4 : Int32) [.null, .null, .null, .null] .null) (sf272_b18 : Safe Z consts_1 s.vm T263.heap b18) (sf272_b34 : Safe Z consts_1 s.vm T263.heap b34) (ne_b3_b254 : b3 ≠ b254) (ne_b10_b254 : b10 ≠ b254) (ne_b21_b254 : b21 ≠ b254) (ne_b39_b254 : b39 ≠ b254) (ne_b54_b254 : b54 ≠ b254) (ne_b244_b254 : b244 ≠ b254) (ne_b3_m1_263 : b3 ≠ m1_263) (ne_b10_m1_263 : b10 ≠ m1_263) (ne_b21_m1_263 : b21 ≠ m1_263) (ne_b39_m1_263 : b39 ≠ m1_263) (ne_b54_m1_263 : b54 ≠ m1_263) (ne_b244_m1_263 : b244 ≠ m1_263) (ne_b254_m1_263 : b254 ≠ m1_263) (ne_b3_m2_263 : b3 ≠ m2_263) (ne_b10_m2_263 : b10 ≠ m2_263) (ne_b21_m2_263 : b21 ≠ m2_263) (ne_b39_m2_263 : b39 ≠ m2_263) (ne_b54_m2_263 : b54 ≠ m2_263) (ne_b244_m2_263 : b244 ≠ m2_263) (ne_b254_m2_263 : b254 ≠ m2_263) (ne_b3_m3_263 : b3 ≠ m3_263) (ne_b10_m3_263 : b10 ≠ m3_263) (ne_b21_m3_263 : b21 ≠ m3_263) (ne_b39_m3_263 : b39 ≠ m3_263) (ne_b54_m3_263 : b54 ≠ m3_263) (ne_b244_m3_263 : b244 ≠ m3_263) (ne_b254_m3_263 : b254 ≠ m3_263) (ne_b3_m4_263 : b3 ≠ m4_263) (ne_b10_m4_263 : b10 ≠ m4_263) (ne_b21_m4_263 : b21 ≠ m4_263) (ne_b39_m4_263 : b39 ≠ m4_263) (ne_b54_m4_263 : b54 ≠ m4_263) (ne_b244_m4_263 : b244 ≠ m4_263) (ne_b254_m4_263 : b254 ≠ m4_263) (ne_b3_m5_263 : b3 ≠ m5_263) (ne_b10_m5_263 : b10 ≠ m5_263) (ne_b21_m5_263 : b21 ≠ m5_263) (ne_b39_m5_263 : b39 ≠ m5_263) (ne_b54_m5_263 : b54 ≠ m5_263) (ne_b244_m5_263 : b244 ≠ m5_263) (ne_b254_m5_263 : b254 ≠ m5_263) (ne_b3_m6_263 : b3 ≠ m6_263) (ne_b10_m6_263 : b10 ≠ m6_263) (ne_b21_m6_263 : b21 ≠ m6_263) (ne_b39_m6_263 : b39 ≠ m6_263) (ne_b54_m6_263 : b54 ≠ m6_263) (ne_b244_m6_263 : b244 ≠ m6_263) (ne_b254_m6_263 : b254 ≠ m6_263) (ne_m1_263_m2_263 : m1_263 ≠ m2_263) (ne_m1_263_m3_263 : m1_263 ≠ m3_263) (ne_m1_263_m4_263 : m1_263 ≠ m4_263) (ne_m1_263_m5_263 : m1_263 ≠ m5_263) (ne_m1_263_m6_263 : m1_263 ≠ m6_263) (ne_m2_263_m3_263 : m2_263 ≠ m3_263) (ne_m2_263_m4_263 : m2_263 ≠ m4_263) (ne_m2_263_m5_263 : m2_263 ≠ m5_263) (ne_m2_263_m6_263 : m2_263 ≠ m6_263) (ne_m3_263_m4_263 : m3_263 ≠ m4_263) (ne_m3_263_m5_263 : m3_263 ≠ m5_263) (ne_m3_263_m6_263 : m3_263 ≠ m6_263) (ne_m4_263_m5_263 : m4_263 ≠ m5_263) (ne_m4_263_m6_263 : m4_263 ≠ m6_263) (ne_m5_263_m6_263 : m5_263 ≠ m6_263) (g_b254 : n0 ≤ b254) (g_m1_263 : n0 ≤ m1_263) (g_m2_263 : n0 ≤ m2_263) (g_m3_263 : n0 ≤ m3_263) (g_m4_263 : n0 ≤ m4_263) (g_m5_263 : n0 ≤ m5_263) (g_m6_263 : n0 ≤ m6_263) (ov1_263 : Ovr Z kq1_263 "java/lang/String") (ov3_263 : OvrA Z kq3_263 .char "[C") (ov6_263 : Ovr Z kq6_263 "java/lang/String") (k_pp : nar .boolean pp = pp) (k_c0 : own_c8 c0) (k_c1 : own_c8 c1) :
    OwnS Z consts_1 p e below s (Q0 n0) room_1.cells room_1.slots (T263.setTop (mkF m 180 #[.val (.int p1), .val (.int p2), .val (.int p3), .val (.int pp), .val (.int nsx), .val (.int c0), .val (.int c1), .val (.int e0), .val (.int e1), .val (.ref b3), .val (.ref b10), .val (.ref b18), .val (.ref b34), .val (.ref b54), .val .null, .val (.ref b244), .val (.ref b254), .unset, .unset, .unset, .unset, .unset] [])) := by
  obtain ⟨SC, hw0, SF, hf0⟩ := id sts
  have hEL : EW Z a0 consts_1 := own_hEL hw
  have wS := own_wS hw
  refine Gen.on (b := T263.setTop (mkF m 182 #[.val (.int p1), .val (.int p2), .val (.int p3), .val (.int pp), .val (.int nsx), .val (.int c0), .val (.int c1), .val (.int e0), .val (.int e1), .val (.ref b3), .val (.ref b10), .val (.ref b18), .val (.ref b34), .val (.ref b54), .val .null, .val (.ref b244), .val (.ref b254), .unset, .unset, .unset, .unset, .unset] [(.ref b254)])) ?_ (fun t k => XS.aload X263.here hx rfl (hb hby at_180) rfl rfl k)
  refine Gen.on (b := T263.setTop (mkF m 184 #[.val (.int p1), .val (.int p2), .val (.int p3), .val (.int pp), .val (.int nsx), .val (.int c0), .val (.int c1), .val (.int e0), .val (.int e1), .val (.ref b3), .val (.ref b10), .val (.ref b18), .val (.ref b34), .val (.ref b54), .val .null, .val (.ref b244), .val (.ref b254), .unset, .unset, .unset, .unset, .unset] [(.ref b18), (.ref b254)])) ?_ (fun t k => XS.aload X263.here hx rfl (hb hby at_182) rfl rfl k)
  obtain ⟨_, st289, T289, X289, e289, rfl⟩ : Gen p e below (own_at X263 T263.heap (mkF m 193 #[.val (.int p1), .val (.int p2), .val (.int p3), .val (.int pp), .val (.int nsx), .val (.int c0), .val (.int c1), .val (.int e0), .val (.int e1), .val (.ref b3), .val (.ref b10), .val (.ref b18), .val (.ref b34), .val (.ref b54), .val .null, .val (.ref b244), .val (.ref b254), .unset, .unset, .unset, .unset, .unset] [(.int (if pp = (0 : Int32) then (1 : Int32) else (0 : Int32))), (.ref b18), (.ref b254)])) (T263.setTop (mkF m 184 #[.val (.int p1), .val (.int p2), .val (.int p3), .val (.int pp), .val (.int nsx), .val (.int c0), .val (.int c1), .val (.int e0), .val (.int e1), .val (.ref b3), .val (.ref b10), .val (.ref b18), .val (.ref b34), .val (.ref b54), .val .null, .val (.ref b244), .val (.ref b254), .unset, .unset, .unset, .unset, .unset] [(.ref b18), (.ref b254)])) := by
    refine Gen.on (b := T263.setTop (mkF m 185 #[.val (.int p1), .val (.int p2), .val (.int p3), .val (.int pp), .val (.int nsx), .val (.int c0), .val (.int c1), .val (.int e0), .val (.int e1), .val (.ref b3), .val (.ref b10), .val (.ref b18), .val (.ref b34), .val (.ref b54), .val .null, .val (.ref b244), .val (.ref b254), .unset, .unset, .unset, .unset, .unset] [(.int pp), (.ref b18), (.ref b254)])) ?_ (fun t k => XS.iloadN X263.here hx rfl (hb hby at_184) rfl k)
    by_cases c185_7 : pp = (0 : Int32)
    · refine Gen.on (b := T263.setTop (mkF m 188 #[.val (.int p1), .val (.int p2), .val (.int p3), .val (.int pp), .val (.int nsx), .val (.int c0), .val (.int c1), .val (.int e0), .val (.int e1), .val (.ref b3), .val (.ref b10), .val (.ref b18), .val (.ref b34), .val (.ref b54), .val .null, .val (.ref b244), .val (.ref b254), .unset, .unset, .unset, .unset, .unset] [(.ref b18), (.ref b254)])) ?_ (fun t k => XS.ifNo X263.here hx rfl (hb hby at_185) rfl ((if0 _ _).trans (teq c185_7).2) k)
      refine Gen.on (b := T263.setTop (mkF m 189 #[.val (.int p1), .val (.int p2), .val (.int p3), .val (.int pp), .val (.int nsx), .val (.int c0), .val (.int c1), .val (.int e0), .val (.int e1), .val (.ref b3), .val (.ref b10), .val (.ref b18), .val (.ref b34), .val (.ref b54), .val .null, .val (.ref b244), .val (.ref b254), .unset, .unset, .unset, .unset, .unset] [(.int (1 : Int32)), (.ref b18), (.ref b254)])) ?_ (fun t k => XS.iconst X263.here hx rfl (hb hby at_188) k)
      refine Gen.on (b := T263.setTop (mkF m 193 #[.val (.int p1), .val (.int p2), .val (.int p3), .val (.int pp), .val (.int nsx), .val (.int c0), .val (.int c1), .val (.int e0), .val (.int e1), .val (.ref b3), .val (.ref b10), .val (.ref b18), .val (.ref b34), .val (.ref b54), .val .null, .val (.ref b244), .val (.ref b254), .unset, .unset, .unset, .unset, .unset] [(.int (1 : Int32)), (.ref b18), (.ref b254)])) ?_ (fun t k => XS.goto X263.here hx rfl (pc0 := 189) (pc' := 193) rfl (hb hby at_189) (by decide) (by decide) k)
      exact ⟨_, Steps.refl _, T263, X263, rfl, by simp only [if_pos c185_7]⟩
    · refine Gen.on (b := T263.setTop (mkF m 192 #[.val (.int p1), .val (.int p2), .val (.int p3), .val (.int pp), .val (.int nsx), .val (.int c0), .val (.int c1), .val (.int e0), .val (.int e1), .val (.ref b3), .val (.ref b10), .val (.ref b18), .val (.ref b34), .val (.ref b54), .val .null, .val (.ref b244), .val (.ref b254), .unset, .unset, .unset, .unset, .unset] [(.ref b18), (.ref b254)])) ?_ (fun t k => XS.ifYes X263.here hx rfl (pc0 := 185) (pc' := 192) rfl (hb hby at_185) rfl ((if0 _ _).trans (feq c185_7).2) (by decide) (by decide) k)
      refine Gen.on (b := T263.setTop (mkF m 193 #[.val (.int p1), .val (.int p2), .val (.int p3), .val (.int pp), .val (.int nsx), .val (.int c0), .val (.int c1), .val (.int e0), .val (.int e1), .val (.ref b3), .val (.ref b10), .val (.ref b18), .val (.ref b34), .val (.ref b54), .val .null, .val (.ref b244), .val (.ref b254), .unset, .unset, .unset, .unset, .unset] [(.int (0 : Int32)), (.ref b18), (.ref b254)])) ?_ (fun t k => XS.iconst X263.here hx rfl (hb hby at_192) k)
      exact ⟨_, Steps.refl _, T263, X263, rfl, by simp only [if_neg c185_7]⟩
  refine Gen.on (b := T289.setTop (mkF m 193 #[.val (.int p1), .val (.int p2), .val (.int p3), .val (.int pp), .val (.int nsx), .val (.int c0), .val (.int c1), .val (.int e0), .val (.int e1), .val (.ref b3), .val (.ref b10), .val (.ref b18), .val (.ref b34), .val (.ref b54), .val .null, .val (.ref b244), .val (.ref b254), .unset, .unset, .unset, .unset, .unset] [(.int (if pp = (0 : Int32) then (1 : Int32) else (0 : Int32))), (.ref b18), (.ref b254)])) ?_ (fun t k => st289.trans k)
  refine Gen.on (b := T289.setTop (mkF m 195 #[.val (.int p1), .val (.int p2), .val (.int p3), .val (.int pp), .val (.int nsx), .val (.int c0), .val (.int c1), .val (.int e0), .val (.int e1), .val (.ref b3), .val (.ref b10), .val (.ref b18), .val (.ref b34), .val (.ref b54), .val .null, .val (.ref b244), .val (.ref b254), .unset, .unset, .unset, .unset, .unset] [(.ref b54), (.int (if pp = (0 : Int32) then (1 : Int32) else (0 : Int32))), (.ref b18), (.ref b254)])) ?_ (fun t k => XS.aload X289.here hx rfl (hb hby at_193) rfl rfl k)
  refine Gen.on (b := T289.setTop (mkF m 197 #[.val (.int p1), .val (.int p2), .val (.int p3), .val (.int pp), .val (.int nsx), .val (.int c0), .val (.int c1), .val (.int e0), .val (.int e1), .val (.ref b3), .val (.ref b10), .val (.ref b18), .val (.ref b34), .val (.ref b54), .val .null, .val (.ref b244), .val (.ref b254), .unset, .unset, .unset, .unset, .unset] [(.ref b3), (.ref b54), (.int (if pp = (0 : Int32) then (1 : Int32) else (0 : Int32))), (.ref b18), (.ref b254)])) ?_ (fun t k => XS.aload X289.here hx rfl (hb hby at_195) rfl rfl k)
  obtain ⟨cq290, kq290, q290a, q290b, q290c⟩ := isOf hZ e289 hf263_0
  obtain ⟨_, _, ⟨T290, L290, k290, n290⟩, -, X290, ⟨Lc290, hQ290, l290, y290, z290⟩, st290⟩ := X289.virtualBack hx (y := (⟨"com/example/scheherazade/scheherazade/reader/TagParts", "start", "(Ljava/lang/String;Z[C[C)V"⟩ : MethodName)) (z := (⟨"com/example/scheherazade/scheherazade/reader/TagParts", "start", "(Ljava/lang/String;Z[C[C)V"⟩ : MethodName)) hown (mvT hZ (hw _ (List.mem_of_getElem? (i := 55) rfl))) (mvT hZ (hw _ (List.mem_of_getElem? (i := 56) rfl))) (notFace_of_selects (args := #[]) (mvT hZ (hw _ (List.mem_of_getElem? (i := 58) rfl)))) (mvT hZ (hw _ (List.mem_of_getElem? (i := 58) rfl))) (mvT hZ (hw _ (List.mem_of_getElem? (i := 57) rfl))) (by decide) (backOf (W := 0) (rm8 l Z a0 hw [] b254 b18 (if pp = (0 : Int32) then (1 : Int32) else (0 : Int32)) b54 b3 .null (.int (0 : Int32)) .null .null (.int (0 : Int32)) m1_263 m2_263 m3_263 m4_263 m5_263 m6_263 T263.heap n0 Z263 hf263_0 hf263_1 hf263_2 hf263_3 hf263_4 hf263_5 hf263_6 hf263_7 hf263_8 hf263_9 hf263_10 hf263_11 g_b254) hZ (hw _ (List.mem_of_getElem? (i := 59) rfl)) (hw _ (List.mem_of_getElem? (i := 32) rfl)) (by decide) (by decide)) q290a q290c (g := (mkF m 197 #[.val (.int p1), .val (.int p2), .val (.int p3), .val (.int pp), .val (.int nsx), .val (.int c0), .val (.int c1), .val (.int e0), .val (.int e1), .val (.ref b3), .val (.ref b10), .val (.ref b18), .val (.ref b34), .val (.ref b54), .val .null, .val (.ref b244), .val (.ref b254), .unset, .unset, .unset, .unset, .unset] [(.ref b3), (.ref b54), (.int (if pp = (0 : Int32) then (1 : Int32) else (0 : Int32))), (.ref b18), (.ref b254)])) rfl (by rw [hml]; rfl) (Steps.refl _) (argsL := [(.ref b18), (.int (if pp = (0 : Int32) then (1 : Int32) else (0 : Int32))), (.ref b54), (.ref b3)]) (rest := []) (lenOf pd_0_2 rfl) rfl (by show 2 * 0 + _ ≤ _; exact Nat.le_of_eq rfl) (hb hby at_197) (fun _ _ => ⟨rfl, e289, (by decide : 17 + 0 ≤ _), (by decide : 58 + 0 ≤ _)⟩)
  dsimp only [Pt.U, Pt.locs, Pt.cells, Pt.slots] at X290 l290 y290 z290 st290 hQ290
  subst l290 y290 z290
  obtain ⟨rfl, N290q, Kc290, hf290_0, hf290_1, hf290_2, hf290_3, hf290_4, hf290_5, hf290_6, hf290_7, hf290_8, hf290_9, hf290_10, hf290_11⟩ := hQ290
  have N290 := Fr.app N263 N290q
  have sf291_b18 := Safe.keep Kc290 (sfS (Safe.exa hZ.alike hf263_0 (by decide) (by decide)) sf0) CH272.1 sf272_b18
  have sf291_b34 := Safe.keep Kc290 (sfS (Safe.exa hZ.alike hf263_0 (by decide) (by decide)) sf0) CH272.1 sf272_b34
  have CH291 := CHr.trans CH272 (CHr.keep Kc290 (sfS (Safe.exa hZ.alike hf263_0 (by decide) (by decide)) sf0) CH272.1)
  have hk291 := Nat.le_trans hk272 Kc290.1
  have Z290 : n0 ≤ T290.heap.size := Nat.le_trans Z263 Kc290.1
  refine Gen.on (b := T290.setTop (mkF m 200 #[.val (.int p1), .val (.int p2), .val (.int p3), .val (.int pp), .val (.int nsx), .val (.int c0), .val (.int c1), .val (.int e0), .val (.int e1), .val (.ref b3), .val (.ref b10), .val (.ref b18), .val (.ref b34), .val (.ref b54), .val .null, .val (.ref b244), .val (.ref b254), .unset, .unset, .unset, .unset, .unset] [])) ?_ (fun t k => st290.trans k)
  refine Gen.on (b := T290.setTop (mkF m 202 #[.val (.int p1), .val (.int p2), .val (.int p3), .val (.int pp), .val (.int nsx), .val (.int c0), .val (.int c1), .val (.int e0), .val (.int e1), .val (.ref b3), .val (.ref b10), .val (.ref b18), .val (.ref b34), .val (.ref b54), .val .null, .val (.ref b244), .val (.ref b254), .unset, .unset, .unset, .unset, .unset] [(.ref b254)])) ?_ (fun t k => XS.aload X290.here hx rfl (hb hby at_200) rfl rfl k)
  refine Gen.on (b := T290.setTop (mkF m 204 #[.val (.int p1), .val (.int p2), .val (.int p3), .val (.int pp), .val (.int nsx), .val (.int c0), .val (.int c1), .val (.int e0), .val (.int e1), .val (.ref b3), .val (.ref b10), .val (.ref b18), .val (.ref b34), .val (.ref b54), .val .null, .val (.ref b244), .val (.ref b254), .unset, .unset, .unset, .unset, .unset] [(.ref b18), (.ref b254)])) ?_ (fun t k => XS.aload X290.here hx rfl (hb hby at_202) rfl rfl k)
  obtain ⟨_, st292, T292, X292, e292, rfl⟩ : Gen p e below (own_at X290 T290.heap (mkF m 213 #[.val (.int p1), .val (.int p2), .val (.int p3), .val (.int pp), .val (.int nsx), .val (.int c0), .val (.int c1), .val (.int e0), .val (.int e1), .val (.ref b3), .val (.ref b10), .val (.ref b18), .val (.ref b34), .val (.ref b54), .val .null, .val (.ref b244), .val (.ref b254), .unset, .unset, .unset, .unset, .unset] [(.int (if pp = (0 : Int32) then (1 : Int32) else (0 : Int32))), (.ref b18), (.ref b254)])) (T290.setTop (mkF m 204 #[.val (.int p1), .val (.int p2), .val (.int p3), .val (.int pp), .val (.int nsx), .val (.int c0), .val (.int c1), .val (.int e0), .val (.int e1), .val (.ref b3), .val (.ref b10), .val (.ref b18), .val (.ref b34), .val (.ref b54), .val .null, .val (.ref b244), .val (.ref b254), .unset, .unset, .unset, .unset, .unset] [(.ref b18), (.ref b254)])) := by
    refine Gen.on (b := T290.setTop (mkF m 205 #[.val (.int p1), .val (.int p2), .val (.int p3), .val (.int pp), .val (.int nsx), .val (.int c0), .val (.int c1), .val (.int e0), .val (.int e1), .val (.ref b3), .val (.ref b10), .val (.ref b18), .val (.ref b34), .val (.ref b54), .val .null, .val (.ref b244), .val (.ref b254), .unset, .unset, .unset, .unset, .unset] [(.int pp), (.ref b18), (.ref b254)])) ?_ (fun t k => XS.iloadN X290.here hx rfl (hb hby at_204) rfl k)
    by_cases c205_8 : pp = (0 : Int32)
    · refine Gen.on (b := T290.setTop (mkF m 208 #[.val (.int p1), .val (.int p2), .val (.int p3), .val (.int pp), .val (.int nsx), .val (.int c0), .val (.int c1), .val (.int e0), .val (.int e1), .val (.ref b3), .val (.ref b10), .val (.ref b18), .val (.ref b34), .val (.ref b54), .val .null, .val (.ref b244), .val (.ref b254), .unset, .unset, .unset, .unset, .unset] [(.ref b18), (.ref b254)])) ?_ (fun t k => XS.ifNo X290.here hx rfl (hb hby at_205) rfl ((if0 _ _).trans (teq c205_8).2) k)
      refine Gen.on (b := T290.setTop (mkF m 209 #[.val (.int p1), .val (.int p2), .val (.int p3), .val (.int pp), .val (.int nsx), .val (.int c0), .val (.int c1), .val (.int e0), .val (.int e1), .val (.ref b3), .val (.ref b10), .val (.ref b18), .val (.ref b34), .val (.ref b54), .val .null, .val (.ref b244), .val (.ref b254), .unset, .unset, .unset, .unset, .unset] [(.int (1 : Int32)), (.ref b18), (.ref b254)])) ?_ (fun t k => XS.iconst X290.here hx rfl (hb hby at_208) k)
      refine Gen.on (b := T290.setTop (mkF m 213 #[.val (.int p1), .val (.int p2), .val (.int p3), .val (.int pp), .val (.int nsx), .val (.int c0), .val (.int c1), .val (.int e0), .val (.int e1), .val (.ref b3), .val (.ref b10), .val (.ref b18), .val (.ref b34), .val (.ref b54), .val .null, .val (.ref b244), .val (.ref b254), .unset, .unset, .unset, .unset, .unset] [(.int (1 : Int32)), (.ref b18), (.ref b254)])) ?_ (fun t k => XS.goto X290.here hx rfl (pc0 := 209) (pc' := 213) rfl (hb hby at_209) (by decide) (by decide) k)
      exact ⟨_, Steps.refl _, T290, X290, rfl, by simp only [if_pos c205_8]⟩
    · refine Gen.on (b := T290.setTop (mkF m 212 #[.val (.int p1), .val (.int p2), .val (.int p3), .val (.int pp), .val (.int nsx), .val (.int c0), .val (.int c1), .val (.int e0), .val (.int e1), .val (.ref b3), .val (.ref b10), .val (.ref b18), .val (.ref b34), .val (.ref b54), .val .null, .val (.ref b244), .val (.ref b254), .unset, .unset, .unset, .unset, .unset] [(.ref b18), (.ref b254)])) ?_ (fun t k => XS.ifYes X290.here hx rfl (pc0 := 205) (pc' := 212) rfl (hb hby at_205) rfl ((if0 _ _).trans (feq c205_8).2) (by decide) (by decide) k)
      refine Gen.on (b := T290.setTop (mkF m 213 #[.val (.int p1), .val (.int p2), .val (.int p3), .val (.int pp), .val (.int nsx), .val (.int c0), .val (.int c1), .val (.int e0), .val (.int e1), .val (.ref b3), .val (.ref b10), .val (.ref b18), .val (.ref b34), .val (.ref b54), .val .null, .val (.ref b244), .val (.ref b254), .unset, .unset, .unset, .unset, .unset] [(.int (0 : Int32)), (.ref b18), (.ref b254)])) ?_ (fun t k => XS.iconst X290.here hx rfl (hb hby at_212) k)
      exact ⟨_, Steps.refl _, T290, X290, rfl, by simp only [if_neg c205_8]⟩
  refine Gen.on (b := T292.setTop (mkF m 213 #[.val (.int p1), .val (.int p2), .val (.int p3), .val (.int pp), .val (.int nsx), .val (.int c0), .val (.int c1), .val (.int e0), .val (.int e1), .val (.ref b3), .val (.ref b10), .val (.ref b18), .val (.ref b34), .val (.ref b54), .val .null, .val (.ref b244), .val (.ref b254), .unset, .unset, .unset, .unset, .unset] [(.int (if pp = (0 : Int32) then (1 : Int32) else (0 : Int32))), (.ref b18), (.ref b254)])) ?_ (fun t k => st292.trans k)
  refine Gen.on (b := T292.setTop (mkF m 215 #[.val (.int p1), .val (.int p2), .val (.int p3), .val (.int pp), .val (.int nsx), .val (.int c0), .val (.int c1), .val (.int e0), .val (.int e1), .val (.ref b3), .val (.ref b10), .val (.ref b18), .val (.ref b34), .val (.ref b54), .val .null, .val (.ref b244), .val (.ref b254), .unset, .unset, .unset, .unset, .unset] [(.ref b244), (.int (if pp = (0 : Int32) then (1 : Int32) else (0 : Int32))), (.ref b18), (.ref b254)])) ?_ (fun t k => XS.aload X292.here hx rfl (hb hby at_213) rfl rfl k)
  refine Gen.on (b := T292.setTop (mkF m 216 #[.val (.int p1), .val (.int p2), .val (.int p3), .val (.int pp), .val (.int nsx), .val (.int c0), .val (.int c1), .val (.int e0), .val (.int e1), .val (.ref b3), .val (.ref b10), .val (.ref b18), .val (.ref b34), .val (.ref b54), .val .null, .val (.ref b244), .val (.ref b254), .unset, .unset, .unset, .unset, .unset] [(.int (0 : Int32)), (.ref b244), (.int (if pp = (0 : Int32) then (1 : Int32) else (0 : Int32))), (.ref b18), (.ref b254)])) ?_ (fun t k => XS.iconst X292.here hx rfl (hb hby at_215) k)
  refine Gen.on (b := T292.setTop (mkF m 217 #[.val (.int p1), .val (.int p2), .val (.int p3), .val (.int pp), .val (.int nsx), .val (.int c0), .val (.int c1), .val (.int e0), .val (.int e1), .val (.ref b3), .val (.ref b10), .val (.ref b18), .val (.ref b34), .val (.ref b54), .val .null, .val (.ref b244), .val (.ref b254), .unset, .unset, .unset, .unset, .unset] [(.int (2 : Int32)), (.int (0 : Int32)), (.ref b244), (.int (if pp = (0 : Int32) then (1 : Int32) else (0 : Int32))), (.ref b18), (.ref b254)])) ?_ (fun t k => XS.iconst X292.here hx rfl (hb hby at_216) k)
  have fa294 := (hf263_12.keep Kc290 (ninS (Ne.symm ne_b254_m1_263) nin0))
  have fa295 := (hf263_13.keep Kc290 (ninS (Ne.symm ne_b254_m2_263) nin0))
  have fa296 := (hf263_14.keep Kc290 (ninS (Ne.symm ne_b254_m3_263) nin0))
  have fa297 := (hf263_15.keep Kc290 (ninS (Ne.symm ne_b254_m4_263) nin0))
  have fa298 := (hf263_16.keep Kc290 (ninS (Ne.symm ne_b254_m5_263) nin0))
  have fa299 := (hf263_17.keep Kc290 (ninS (Ne.symm ne_b254_m6_263) nin0))
  have fa300 := (fa278.keep Kc290)
  have fa301 := (fa287.keep Kc290)
  obtain ⟨cq293, kq293, q293a, q293b, q293c⟩ := isOf hZ e292 hf290_0
  obtain ⟨_, _, ⟨T293, L293, k293, n293⟩, -, X293, ⟨Lc293, hQ293, l293, y293, z293⟩, st293⟩ := X292.virtualBack hx (y := (⟨"com/example/scheherazade/scheherazade/reader/TagParts", "addAttribute", "(Ljava/lang/String;Z[CII)V"⟩ : MethodName)) (z := (⟨"com/example/scheherazade/scheherazade/reader/TagParts", "addAttribute", "(Ljava/lang/String;Z[CII)V"⟩ : MethodName)) hown (mvT hZ (hw _ (List.mem_of_getElem? (i := 70) rfl))) (mvT hZ (hw _ (List.mem_of_getElem? (i := 71) rfl))) (notFace_of_selects (args := #[]) (mvT hZ (hw _ (List.mem_of_getElem? (i := 73) rfl)))) (mvT hZ (hw _ (List.mem_of_getElem? (i := 73) rfl))) (mvT hZ (hw _ (List.mem_of_getElem? (i := 72) rfl))) (by decide) (backOf (W := 0) (rm9 l Z a0 hw [] b254 b18 (if pp = (0 : Int32) then (1 : Int32) else (0 : Int32)) b244 (0 : Int32) (2 : Int32) (.ref b18) (.int (nar .boolean (if pp = (0 : Int32) then (1 : Int32) else (0 : Int32)))) (.ref b54) (.ref b3) m1_263 m2_263 m3_263 m4_263 m5_263 m6_263 kq1_263 kq2_263 kq3_263 kq4_263 kq5_263 kq6_263 .null (0 : Int32) .null (0 : Int32) (0 : Int32) .null T290.heap n0 Z290 hf290_0 fa300 fa301 hf290_1 hf290_2 hf290_3 hf290_4 hf290_5 hf290_6 hf290_7 hf290_8 hf290_9 hf290_10 hf290_11 fa294 fa295 fa296 fa297 fa298 fa299 g_b254 g_m1_263 g_m2_263 g_m3_263 g_m4_263 g_m5_263 g_m6_263 ne_b254_m1_263 ne_b254_m2_263 ne_b254_m3_263 ne_b254_m4_263 ne_b254_m5_263 ne_b254_m6_263 ne_m1_263_m2_263 ne_m1_263_m3_263 ne_m1_263_m4_263 ne_m1_263_m5_263 ne_m1_263_m6_263 ne_m2_263_m3_263 ne_m2_263_m4_263 ne_m2_263_m5_263 ne_m2_263_m6_263 ne_m3_263_m4_263 ne_m3_263_m5_263 ne_m3_263_m6_263 ne_m4_263_m5_263 ne_m4_263_m6_263 ne_m5_263_m6_263 (ov1_263) (ov3_263) (ov6_263)) hZ (hw _ (List.mem_of_getElem? (i := 74) rfl)) (hw _ (List.mem_of_getElem? (i := 32) rfl)) (by decide) (by decide)) q293a q293c (g := (mkF m 217 #[.val (.int p1), .val (.int p2), .val (.int p3), .val (.int pp), .val (.int nsx), .val (.int c0), .val (.int c1), .val (.int e0), .val (.int e1), .val (.ref b3), .val (.ref b10), .val (.ref b18), .val (.ref b34), .val (.ref b54), .val .null, .val (.ref b244), .val (.ref b254), .unset, .unset, .unset, .unset, .unset] [(.int (2 : Int32)), (.int (0 : Int32)), (.ref b244), (.int (if pp = (0 : Int32) then (1 : Int32) else (0 : Int32))), (.ref b18), (.ref b254)])) rfl (by rw [hml]; rfl) (Steps.refl _) (argsL := [(.ref b18), (.int (if pp = (0 : Int32) then (1 : Int32) else (0 : Int32))), (.ref b244), (.int (0 : Int32)), (.int (2 : Int32))]) (rest := []) (lenOf pd_0_3 rfl) rfl (by show 2 * 0 + _ ≤ _; exact Nat.le_of_eq rfl) (hb hby at_217) (fun _ _ => ⟨rfl, e292, (by decide : 17 + 0 ≤ _), (by decide : 58 + 0 ≤ _)⟩)
  dsimp only [Pt.U, Pt.locs, Pt.cells, Pt.slots] at X293 l293 y293 z293 st293 hQ293
  subst l293 y293 z293
  obtain ⟨rfl, N293q, Kc293, hf293_0, hf293_1, hf293_2, hf293_3, hf293_4, hf293_5, hf293_6, hf293_7, hf293_8, hf293_9, hf293_10, hf293_11, hf293_12, hf293_13, hf293_14, hf293_15, hf293_16, hf293_17⟩ := hQ293
  have N293 := Fr.app N290 N293q
  have sf302_b18 := Safe.keep Kc293 (sfS (Safe.exa hZ.alike hf290_0 (by decide) (by decide)) (sfS (Safe.arv hZ.alike fa294 (by decide)) (sfS (Safe.arv hZ.alike fa295 (by decide)) (sfS (Safe.arv hZ.alike fa296 (by decide)) (sfS (Safe.arv hZ.alike fa297 (by decide)) (sfS (Safe.arv hZ.alike fa298 (by decide)) (sfS (Safe.arv hZ.alike fa299 (by decide)) sf0))))))) CH291.1 sf291_b18
  have sf302_b34 := Safe.keep Kc293 (sfS (Safe.exa hZ.alike hf290_0 (by decide) (by decide)) (sfS (Safe.arv hZ.alike fa294 (by decide)) (sfS (Safe.arv hZ.alike fa295 (by decide)) (sfS (Safe.arv hZ.alike fa296 (by decide)) (sfS (Safe.arv hZ.alike fa297 (by decide)) (sfS (Safe.arv hZ.alike fa298 (by decide)) (sfS (Safe.arv hZ.alike fa299 (by decide)) sf0))))))) CH291.1 sf291_b34
  have CH302 := CHr.trans CH291 (CHr.keep Kc293 (sfS (Safe.exa hZ.alike hf290_0 (by decide) (by decide)) (sfS (Safe.arv hZ.alike fa294 (by decide)) (sfS (Safe.arv hZ.alike fa295 (by decide)) (sfS (Safe.arv hZ.alike fa296 (by decide)) (sfS (Safe.arv hZ.alike fa297 (by decide)) (sfS (Safe.arv hZ.alike fa298 (by decide)) (sfS (Safe.arv hZ.alike fa299 (by decide)) sf0))))))) CH291.1)
  have hk302 := Nat.le_trans hk291 Kc293.1
  have Z293 : n0 ≤ T293.heap.size := Nat.le_trans Z290 Kc293.1
  refine Gen.on (b := T293.setTop (mkF m 220 #[.val (.int p1), .val (.int p2), .val (.int p3), .val (.int pp), .val (.int nsx), .val (.int c0), .val (.int c1), .val (.int e0), .val (.int e1), .val (.ref b3), .val (.ref b10), .val (.ref b18), .val (.ref b34), .val (.ref b54), .val .null, .val (.ref b244), .val (.ref b254), .unset, .unset, .unset, .unset, .unset] [])) ?_ (fun t k => st293.trans k)
  refine Gen.on (b := T293.setTop (mkF m 222 #[.val (.int p1), .val (.int p2), .val (.int p3), .val (.int pp), .val (.int nsx), .val (.int c0), .val (.int c1), .val (.int e0), .val (.int e1), .val (.ref b3), .val (.ref b10), .val (.ref b18), .val (.ref b34), .val (.ref b54), .val .null, .val (.ref b244), .val (.ref b254), .unset, .unset, .unset, .unset, .unset] [(.ref b254)])) ?_ (fun t k => XS.aload X293.here hx rfl (hb hby at_220) rfl rfl k)
  refine Gen.on (b := T293.setTop (mkF m 224 #[.val (.int p1), .val (.int p2), .val (.int p3), .val (.int pp), .val (.int nsx), .val (.int c0), .val (.int c1), .val (.int e0), .val (.int e1), .val (.ref b3), .val (.ref b10), .val (.ref b18), .val (.ref b34), .val (.ref b54), .val .null, .val (.ref b244), .val (.ref b254), .unset, .unset, .unset, .unset, .unset] [(.ref b34), (.ref b254)])) ?_ (fun t k => XS.aload X293.here hx rfl (hb hby at_222) rfl rfl k)
  refine Gen.on (b := T293.setTop (mkF m 225 #[.val (.int p1), .val (.int p2), .val (.int p3), .val (.int pp), .val (.int nsx), .val (.int c0), .val (.int c1), .val (.int e0), .val (.int e1), .val (.ref b3), .val (.ref b10), .val (.ref b18), .val (.ref b34), .val (.ref b54), .val .null, .val (.ref b244), .val (.ref b254), .unset, .unset, .unset, .unset, .unset] [(.int pp), (.ref b34), (.ref b254)])) ?_ (fun t k => XS.iloadN X293.here hx rfl (hb hby at_224) rfl k)
  refine Gen.on (b := T293.setTop (mkF m 227 #[.val (.int p1), .val (.int p2), .val (.int p3), .val (.int pp), .val (.int nsx), .val (.int c0), .val (.int c1), .val (.int e0), .val (.int e1), .val (.ref b3), .val (.ref b10), .val (.ref b18), .val (.ref b34), .val (.ref b54), .val .null, .val (.ref b244), .val (.ref b254), .unset, .unset, .unset, .unset, .unset] [.null, (.int pp), (.ref b34), (.ref b254)])) ?_ (fun t k => XS.aload X293.here hx rfl (hb hby at_225) rfl rfl k)
  refine Gen.on (b := T293.setTop (mkF m 229 #[.val (.int p1), .val (.int p2), .val (.int p3), .val (.int pp), .val (.int nsx), .val (.int c0), .val (.int c1), .val (.int e0), .val (.int e1), .val (.ref b3), .val (.ref b10), .val (.ref b18), .val (.ref b34), .val (.ref b54), .val .null, .val (.ref b244), .val (.ref b254), .unset, .unset, .unset, .unset, .unset] [(.ref b10), .null, (.int pp), (.ref b34), (.ref b254)])) ?_ (fun t k => XS.aload X293.here hx rfl (hb hby at_227) rfl rfl k)
  obtain ⟨cq303, kq303, q303a, q303b, q303c⟩ := isOf hZ rfl hf293_0
  obtain ⟨_, _, ⟨T303, L303, k303, n303⟩, -, X303, ⟨Lc303, hQ303, l303, y303, z303⟩, st303⟩ := X293.virtualBack hx (y := (⟨"com/example/scheherazade/scheherazade/reader/TagParts", "start", "(Ljava/lang/String;Z[C[C)V"⟩ : MethodName)) (z := (⟨"com/example/scheherazade/scheherazade/reader/TagParts", "start", "(Ljava/lang/String;Z[C[C)V"⟩ : MethodName)) hown (mvT hZ (hw _ (List.mem_of_getElem? (i := 55) rfl))) (mvT hZ (hw _ (List.mem_of_getElem? (i := 56) rfl))) (notFace_of_selects (args := #[]) (mvT hZ (hw _ (List.mem_of_getElem? (i := 58) rfl)))) (mvT hZ (hw _ (List.mem_of_getElem? (i := 58) rfl))) (mvT hZ (hw _ (List.mem_of_getElem? (i := 57) rfl))) (by decide) (backOf (W := 0) (rm8n l Z a0 hw [] b254 b34 pp b10 (.ref b18) (.int (nar .boolean (if pp = (0 : Int32) then (1 : Int32) else (0 : Int32)))) (.ref b54) (.ref b3) (.int ((0 : Int32) + (1 : Int32))) m1_263 m2_263 m3_263 m4_263 m5_263 m6_263 T293.heap n0 Z293 hf293_0 hf293_1 hf293_2 hf293_3 hf293_4 hf293_5 hf293_6 hf293_7 hf293_8 hf293_9 hf293_10 hf293_11 g_b254) hZ (hw _ (List.mem_of_getElem? (i := 59) rfl)) (hw _ (List.mem_of_getElem? (i := 32) rfl)) (by decide) (by decide)) q303a q303c (g := (mkF m 229 #[.val (.int p1), .val (.int p2), .val (.int p3), .val (.int pp), .val (.int nsx), .val (.int c0), .val (.int c1), .val (.int e0), .val (.int e1), .val (.ref b3), .val (.ref b10), .val (.ref b18), .val (.ref b34), .val (.ref b54), .val .null, .val (.ref b244), .val (.ref b254), .unset, .unset, .unset, .unset, .unset] [(.ref b10), .null, (.int pp), (.ref b34), (.ref b254)])) rfl (by rw [hml]; rfl) (Steps.refl _) (argsL := [(.ref b34), (.int pp), .null, (.ref b10)]) (rest := []) (lenOf pd_0_2 rfl) rfl (by show 2 * 0 + _ ≤ _; exact Nat.le_of_eq rfl) (hb hby at_229) (fun _ _ => ⟨rfl, rfl, (by decide : 17 + 0 ≤ _), (by decide : 58 + 0 ≤ _)⟩)
  dsimp only [Pt.U, Pt.locs, Pt.cells, Pt.slots] at X303 l303 y303 z303 st303 hQ303
  subst l303 y303 z303
  obtain ⟨rfl, N303q, Kc303, hf303_0, hf303_1, hf303_2, hf303_3, hf303_4, hf303_5, hf303_6, hf303_7, hf303_8, hf303_9, hf303_10, hf303_11⟩ := hQ303
  have N303 := Fr.app N293 N303q
  have sf304_b18 := Safe.keep Kc303 (sfS (Safe.exa hZ.alike hf293_0 (by decide) (by decide)) sf0) CH302.1 sf302_b18
  have sf304_b34 := Safe.keep Kc303 (sfS (Safe.exa hZ.alike hf293_0 (by decide) (by decide)) sf0) CH302.1 sf302_b34
  have CH304 := CHr.trans CH302 (CHr.keep Kc303 (sfS (Safe.exa hZ.alike hf293_0 (by decide) (by decide)) sf0) CH302.1)
  have hk304 := Nat.le_trans hk302 Kc303.1
  have Z303 : n0 ≤ T303.heap.size := Nat.le_trans Z293 Kc303.1
  refine Gen.on (b := T303.setTop (mkF m 232 #[.val (.int p1), .val (.int p2), .val (.int p3), .val (.int pp), .val (.int nsx), .val (.int c0), .val (.int c1), .val (.int e0), .val (.int e1), .val (.ref b3), .val (.ref b10), .val (.ref b18), .val (.ref b34), .val (.ref b54), .val .null, .val (.ref b244), .val (.ref b254), .unset, .unset, .unset, .unset, .unset] [])) ?_ (fun t k => st303.trans k)
  refine Gen.on (b := T303.setTop (mkF m 234 #[.val (.int p1), .val (.int p2), .val (.int p3), .val (.int pp), .val (.int nsx), .val (.int c0), .val (.int c1), .val (.int e0), .val (.int e1), .val (.ref b3), .val (.ref b10), .val (.ref b18), .val (.ref b34), .val (.ref b54), .val .null, .val (.ref b244), .val (.ref b254), .unset, .unset, .unset, .unset, .unset] [(.ref b254)])) ?_ (fun t k => XS.aload X303.here hx rfl (hb hby at_232) rfl rfl k)
  have fa306 := (hf293_12.keep Kc303 (ninS (Ne.symm ne_b254_m1_263) nin0))
  have fa307 := (hf293_13.keep Kc303 (ninS (Ne.symm ne_b254_m2_263) nin0))
  have fa308 := (hf293_14.keep Kc303 (ninS (Ne.symm ne_b254_m3_263) nin0))
  have fa309 := (hf293_15.keep Kc303 (ninS (Ne.symm ne_b254_m4_263) nin0))
  have fa310 := (hf293_16.keep Kc303 (ninS (Ne.symm ne_b254_m5_263) nin0))
  have fa311 := (hf293_17.keep Kc303 (ninS (Ne.symm ne_b254_m6_263) nin0))
  obtain ⟨cq305, kq305, q305a, q305b, q305c⟩ := isOf hZ rfl hf303_0
  obtain ⟨_, _, ⟨T305, L305, k305, n305⟩, -, X305, ⟨Lc305, hQ305, l305, y305, z305⟩, st305⟩ := X303.virtualBack hx (y := (⟨"com/example/scheherazade/scheherazade/reader/TagParts", "getName", "()Ljava/lang/String;"⟩ : MethodName)) (z := (⟨"com/example/scheherazade/scheherazade/reader/TagParts", "getName", "()Ljava/lang/String;"⟩ : MethodName)) hown (mvT hZ (hw _ (List.mem_of_getElem? (i := 76) rfl))) (mvT hZ (hw _ (List.mem_of_getElem? (i := 77) rfl))) (notFace_of_selects (args := #[]) (mvT hZ (hw _ (List.mem_of_getElem? (i := 79) rfl)))) (mvT hZ (hw _ (List.mem_of_getElem? (i := 79) rfl))) (mvT hZ (hw _ (List.mem_of_getElem? (i := 78) rfl))) (by decide) (backOf (W := 0) (rm10 l Z a0 hw [] b254 b34 T303.heap n0 Z303 hf303_0 hf303_1) hZ (hw _ (List.mem_of_getElem? (i := 80) rfl)) (hw _ (List.mem_of_getElem? (i := 32) rfl)) (by decide) (by decide)) q305a q305c (g := (mkF m 234 #[.val (.int p1), .val (.int p2), .val (.int p3), .val (.int pp), .val (.int nsx), .val (.int c0), .val (.int c1), .val (.int e0), .val (.int e1), .val (.ref b3), .val (.ref b10), .val (.ref b18), .val (.ref b34), .val (.ref b54), .val .null, .val (.ref b244), .val (.ref b254), .unset, .unset, .unset, .unset, .unset] [(.ref b254)])) rfl (by rw [hml]; rfl) (Steps.refl _) (argsL := []) (rest := []) (lenOf pd_0_4 rfl) rfl (by show 2 * 0 + _ ≤ _; exact Nat.le_of_eq rfl) (hb hby at_234) (fun _ _ => ⟨rfl, rfl, (by decide : 17 + 0 ≤ _), (by decide : 58 + 0 ≤ _)⟩)
  dsimp only [Pt.U, Pt.locs, Pt.cells, Pt.slots] at X305 l305 y305 z305 st305 hQ305
  subst l305 y305 z305
  obtain ⟨rfl, N305q, e305⟩ := hQ305
  have N305 := Fr.app N303 N305q
  refine Gen.on (b := T305.setTop (mkF m 237 #[.val (.int p1), .val (.int p2), .val (.int p3), .val (.int pp), .val (.int nsx), .val (.int c0), .val (.int c1), .val (.int e0), .val (.int e1), .val (.ref b3), .val (.ref b10), .val (.ref b18), .val (.ref b34), .val (.ref b54), .val .null, .val (.ref b244), .val (.ref b254), .unset, .unset, .unset, .unset, .unset] [(.ref b34)])) ?_ (fun t k => st305.trans k)
  refine Gen.on (b := T305.setTop (mkF m 239 #[.val (.int p1), .val (.int p2), .val (.int p3), .val (.int pp), .val (.int nsx), .val (.int c0), .val (.int c1), .val (.int e0), .val (.int e1), .val (.ref b3), .val (.ref b10), .val (.ref b18), .val (.ref b34), .val (.ref b54), .val .null, .val (.ref b244), .val (.ref b254), .unset, .unset, .unset, .unset, .unset] [(.ref b34), (.ref b34)])) ?_ (fun t k => XS.aload X305.here hx rfl (hb hby at_237) rfl rfl k)
  refine Gen.on (b := T305.setTop (mkF m 242 #[.val (.int p1), .val (.int p2), .val (.int p3), .val (.int pp), .val (.int nsx), .val (.int c0), .val (.int c1), .val (.int e0), .val (.int e1), .val (.ref b3), .val (.ref b10), .val (.ref b18), .val (.ref b34), .val (.ref b54), .val .null, .val (.ref b244), .val (.ref b254), .unset, .unset, .unset, .unset, .unset] [])) ?_ (fun t k => Jvm.RoadKit.acmp (g := (mkF m 239 #[.val (.int p1), .val (.int p2), .val (.int p3), .val (.int pp), .val (.int nsx), .val (.int c0), .val (.int c1), .val (.int e0), .val (.int e1), .val (.ref b3), .val (.ref b10), .val (.ref b18), .val (.ref b34), .val (.ref b54), .val .null, .val (.ref b244), .val (.ref b254), .unset, .unset, .unset, .unset, .unset] [(.ref b34), (.ref b34)])) X305 hx rfl rfl rfl (pc0 := 239) (pc' := 242) (same := true) rfl (hb hby at_239) rfl (decide_eq_true rfl) (by decide) (by decide) k)
  refine Gen.on (b := T305.setTop (mkF m 244 #[.val (.int p1), .val (.int p2), .val (.int p3), .val (.int pp), .val (.int nsx), .val (.int c0), .val (.int c1), .val (.int e0), .val (.int e1), .val (.ref b3), .val (.ref b10), .val (.ref b18), .val (.ref b34), .val (.ref b54), .val .null, .val (.ref b244), .val (.ref b254), .unset, .unset, .unset, .unset, .unset] [(.ref b254)])) ?_ (fun t k => XS.aload X305.here hx rfl (hb hby at_242) rfl rfl k)
  obtain ⟨cq312, kq312, q312a, q312b, q312c⟩ := isOf hZ e305 hf303_0
  obtain ⟨_, _, ⟨T312, L312, k312, n312⟩, -, X312, ⟨Lc312, hQ312, l312, y312, z312⟩, st312⟩ := X305.virtualBack hx (y := (⟨"com/example/scheherazade/scheherazade/reader/TagParts", "hasPrefix", "()Z"⟩ : MethodName)) (z := (⟨"com/example/scheherazade/scheherazade/reader/TagParts", "hasPrefix", "()Z"⟩ : MethodName)) hown (mvT hZ (hw _ (List.mem_of_getElem? (i := 81) rfl))) (mvT hZ (hw _ (List.mem_of_getElem? (i := 82) rfl))) (notFace_of_selects (args := #[]) (mvT hZ (hw _ (List.mem_of_getElem? (i := 84) rfl)))) (mvT hZ (hw _ (List.mem_of_getElem? (i := 84) rfl))) (mvT hZ (hw _ (List.mem_of_getElem? (i := 83) rfl))) (by decide) (backOf (W := 0) (rm11 l Z a0 hw [] b254 (nar .boolean pp) T303.heap n0 Z303 hf303_0 hf303_2 (by rw [k_pp]; exact k_pp)) hZ (hw _ (List.mem_of_getElem? (i := 85) rfl)) (hw _ (List.mem_of_getElem? (i := 32) rfl)) (by decide) (by decide)) q312a q312c (g := (mkF m 244 #[.val (.int p1), .val (.int p2), .val (.int p3), .val (.int pp), .val (.int nsx), .val (.int c0), .val (.int c1), .val (.int e0), .val (.int e1), .val (.ref b3), .val (.ref b10), .val (.ref b18), .val (.ref b34), .val (.ref b54), .val .null, .val (.ref b244), .val (.ref b254), .unset, .unset, .unset, .unset, .unset] [(.ref b254)])) rfl (by rw [hml]; rfl) (Steps.refl _) (argsL := []) (rest := []) (lenOf pd_0_5 rfl) rfl (by show 2 * 0 + _ ≤ _; exact Nat.le_of_eq rfl) (hb hby at_244) (fun _ _ => ⟨rfl, e305, (by decide : 17 + 0 ≤ _), (by decide : 58 + 0 ≤ _)⟩)
  dsimp only [Pt.U, Pt.locs, Pt.cells, Pt.slots] at X312 l312 y312 z312 st312 hQ312
  subst l312 y312 z312
  obtain ⟨rfl, N312q, e312⟩ := hQ312
  have N312 := Fr.app N305 N312q
  refine Gen.on (b := T312.setTop (mkF m 247 #[.val (.int p1), .val (.int p2), .val (.int p3), .val (.int pp), .val (.int nsx), .val (.int c0), .val (.int c1), .val (.int e0), .val (.int e1), .val (.ref b3), .val (.ref b10), .val (.ref b18), .val (.ref b34), .val (.ref b54), .val .null, .val (.ref b244), .val (.ref b254), .unset, .unset, .unset, .unset, .unset] [(.int (nar .boolean pp))])) ?_ (fun t k => st312.trans k)
  refine Gen.on (b := T312.setTop (mkF m 248 #[.val (.int p1), .val (.int p2), .val (.int p3), .val (.int pp), .val (.int nsx), .val (.int c0), .val (.int c1), .val (.int e0), .val (.int e1), .val (.ref b3), .val (.ref b10), .val (.ref b18), .val (.ref b34), .val (.ref b54), .val .null, .val (.ref b244), .val (.ref b254), .unset, .unset, .unset, .unset, .unset] [(.int pp), (.int (nar .boolean pp))])) ?_ (fun t k => XS.iloadN X312.here hx rfl (hb hby at_247) rfl k)
  refine Gen.on (b := T312.setTop (mkF m 251 #[.val (.int p1), .val (.int p2), .val (.int p3), .val (.int pp), .val (.int nsx), .val (.int c0), .val (.int c1), .val (.int e0), .val (.int e1), .val (.ref b3), .val (.ref b10), .val (.ref b18), .val (.ref b34), .val (.ref b54), .val .null, .val (.ref b244), .val (.ref b254), .unset, .unset, .unset, .unset, .unset] [])) ?_ (fun t k => XS.icmpNo X312.here hx rfl (hb hby at_248) rfl (teq k_pp).2 k)
  refine Gen.on (b := T312.setTop (mkF m 253 #[.val (.int p1), .val (.int p2), .val (.int p3), .val (.int pp), .val (.int nsx), .val (.int c0), .val (.int c1), .val (.int e0), .val (.int e1), .val (.ref b3), .val (.ref b10), .val (.ref b18), .val (.ref b34), .val (.ref b54), .val .null, .val (.ref b244), .val (.ref b254), .unset, .unset, .unset, .unset, .unset] [(.ref b254)])) ?_ (fun t k => XS.aload X312.here hx rfl (hb hby at_251) rfl rfl k)
  obtain ⟨cq313, kq313, q313a, q313b, q313c⟩ := isOf hZ e312 hf303_0
  obtain ⟨_, _, ⟨T313, L313, k313, n313⟩, -, X313, ⟨Lc313, hQ313, l313, y313, z313⟩, st313⟩ := X312.virtualBack hx (y := (⟨"com/example/scheherazade/scheherazade/reader/TagParts", "getNameSpelling", "()[C"⟩ : MethodName)) (z := (⟨"com/example/scheherazade/scheherazade/reader/TagParts", "getNameSpelling", "()[C"⟩ : MethodName)) hown (mvT hZ (hw _ (List.mem_of_getElem? (i := 86) rfl))) (mvT hZ (hw _ (List.mem_of_getElem? (i := 87) rfl))) (notFace_of_selects (args := #[]) (mvT hZ (hw _ (List.mem_of_getElem? (i := 89) rfl)))) (mvT hZ (hw _ (List.mem_of_getElem? (i := 89) rfl))) (mvT hZ (hw _ (List.mem_of_getElem? (i := 88) rfl))) (by decide) (backOf (W := 0) (rm12n l Z a0 hw [] b254  T303.heap n0 Z303 hf303_0 hf303_3) hZ (hw _ (List.mem_of_getElem? (i := 90) rfl)) (hw _ (List.mem_of_getElem? (i := 32) rfl)) (by decide) (by decide)) q313a q313c (g := (mkF m 253 #[.val (.int p1), .val (.int p2), .val (.int p3), .val (.int pp), .val (.int nsx), .val (.int c0), .val (.int c1), .val (.int e0), .val (.int e1), .val (.ref b3), .val (.ref b10), .val (.ref b18), .val (.ref b34), .val (.ref b54), .val .null, .val (.ref b244), .val (.ref b254), .unset, .unset, .unset, .unset, .unset] [(.ref b254)])) rfl (by rw [hml]; rfl) (Steps.refl _) (argsL := []) (rest := []) (lenOf pd_0_6 rfl) rfl (by show 2 * 0 + _ ≤ _; exact Nat.le_of_eq rfl) (hb hby at_253) (fun _ _ => ⟨rfl, e312, (by decide : 17 + 0 ≤ _), (by decide : 58 + 0 ≤ _)⟩)
  dsimp only [Pt.U, Pt.locs, Pt.cells, Pt.slots] at X313 l313 y313 z313 st313 hQ313
  subst l313 y313 z313
  obtain ⟨rfl, N313q, e313⟩ := hQ313
  have N313 := Fr.app N312 N313q
  refine Gen.on (b := T313.setTop (mkF m 256 #[.val (.int p1), .val (.int p2), .val (.int p3), .val (.int pp), .val (.int nsx), .val (.int c0), .val (.int c1), .val (.int e0), .val (.int e1), .val (.ref b3), .val (.ref b10), .val (.ref b18), .val (.ref b34), .val (.ref b54), .val .null, .val (.ref b244), .val (.ref b254), .unset, .unset, .unset, .unset, .unset] [.null])) ?_ (fun t k => st313.trans k)
  refine Gen.on (b := T313.setTop (mkF m 258 #[.val (.int p1), .val (.int p2), .val (.int p3), .val (.int pp), .val (.int nsx), .val (.int c0), .val (.int c1), .val (.int e0), .val (.int e1), .val (.ref b3), .val (.ref b10), .val (.ref b18), .val (.ref b34), .val (.ref b54), .val .null, .val (.ref b244), .val (.ref b254), .unset, .unset, .unset, .unset, .unset] [.null, .null])) ?_ (fun t k => XS.aload X313.here hx rfl (hb hby at_256) rfl rfl k)
  refine Gen.on (b := T313.setTop (mkF m 261 #[.val (.int p1), .val (.int p2), .val (.int p3), .val (.int pp), .val (.int nsx), .val (.int c0), .val (.int c1), .val (.int e0), .val (.int e1), .val (.ref b3), .val (.ref b10), .val (.ref b18), .val (.ref b34), .val (.ref b54), .val .null, .val (.ref b244), .val (.ref b254), .unset, .unset, .unset, .unset, .unset] [])) ?_ (fun t k => Jvm.RoadKit.acmp (g := (mkF m 258 #[.val (.int p1), .val (.int p2), .val (.int p3), .val (.int pp), .val (.int nsx), .val (.int c0), .val (.int c1), .val (.int e0), .val (.int e1), .val (.ref b3), .val (.ref b10), .val (.ref b18), .val (.ref b34), .val (.ref b54), .val .null, .val (.ref b244), .val (.ref b254), .unset, .unset, .unset, .unset, .unset] [.null, .null])) X313 hx rfl rfl rfl (pc0 := 258) (pc' := 261) (same := true) rfl (hb hby at_258) rfl (decide_eq_true rfl) (by decide) (by decide) k)
  refine Gen.on (b := T313.setTop (mkF m 263 #[.val (.int p1), .val (.int p2), .val (.int p3), .val (.int pp), .val (.int nsx), .val (.int c0), .val (.int c1), .val (.int e0), .val (.int e1), .val (.ref b3), .val (.ref b10), .val (.ref b18), .val (.ref b34), .val (.ref b54), .val .null, .val (.ref b244), .val (.ref b254), .unset, .unset, .unset, .unset, .unset] [(.ref b254)])) ?_ (fun t k => XS.aload X313.here hx rfl (hb hby at_261) rfl rfl k)
  obtain ⟨cq314, kq314, q314a, q314b, q314c⟩ := isOf hZ e313 hf303_0
  obtain ⟨_, _, ⟨T314, L314, k314, n314⟩, -, X314, ⟨Lc314, hQ314, l314, y314, z314⟩, st314⟩ := X313.virtualBack hx (y := (⟨"com/example/scheherazade/scheherazade/reader/TagParts", "getAttributeCount", "()I"⟩ : MethodName)) (z := (⟨"com/example/scheherazade/scheherazade/reader/TagParts", "getAttributeCount", "()I"⟩ : MethodName)) hown (mvT hZ (hw _ (List.mem_of_getElem? (i := 91) rfl))) (mvT hZ (hw _ (List.mem_of_getElem? (i := 92) rfl))) (notFace_of_selects (args := #[]) (mvT hZ (hw _ (List.mem_of_getElem? (i := 94) rfl)))) (mvT hZ (hw _ (List.mem_of_getElem? (i := 94) rfl))) (mvT hZ (hw _ (List.mem_of_getElem? (i := 93) rfl))) (by decide) (backOf (W := 0) (rm13 l Z a0 hw [] b254 (0 : Int32) T303.heap n0 Z303 hf303_0 hf303_5) hZ (hw _ (List.mem_of_getElem? (i := 95) rfl)) (hw _ (List.mem_of_getElem? (i := 32) rfl)) (by decide) (by decide)) q314a q314c (g := (mkF m 263 #[.val (.int p1), .val (.int p2), .val (.int p3), .val (.int pp), .val (.int nsx), .val (.int c0), .val (.int c1), .val (.int e0), .val (.int e1), .val (.ref b3), .val (.ref b10), .val (.ref b18), .val (.ref b34), .val (.ref b54), .val .null, .val (.ref b244), .val (.ref b254), .unset, .unset, .unset, .unset, .unset] [(.ref b254)])) rfl (by rw [hml]; rfl) (Steps.refl _) (argsL := []) (rest := []) (lenOf pd_0_7 rfl) rfl (by show 2 * 0 + _ ≤ _; exact Nat.le_of_eq rfl) (hb hby at_263) (fun _ _ => ⟨rfl, e313, (by decide : 17 + 0 ≤ _), (by decide : 58 + 0 ≤ _)⟩)
  dsimp only [Pt.U, Pt.locs, Pt.cells, Pt.slots] at X314 l314 y314 z314 st314 hQ314
  subst l314 y314 z314
  obtain ⟨rfl, N314q, e314⟩ := hQ314
  have N314 := Fr.app N313 N314q
  refine Gen.on (b := T314.setTop (mkF m 266 #[.val (.int p1), .val (.int p2), .val (.int p3), .val (.int pp), .val (.int nsx), .val (.int c0), .val (.int c1), .val (.int e0), .val (.int e1), .val (.ref b3), .val (.ref b10), .val (.ref b18), .val (.ref b34), .val (.ref b54), .val .null, .val (.ref b244), .val (.ref b254), .unset, .unset, .unset, .unset, .unset] [(.int (0 : Int32))])) ?_ (fun t k => st314.trans k)
  refine Gen.on (b := T314.setTop (mkF m 269 #[.val (.int p1), .val (.int p2), .val (.int p3), .val (.int pp), .val (.int nsx), .val (.int c0), .val (.int c1), .val (.int e0), .val (.int e1), .val (.ref b3), .val (.ref b10), .val (.ref b18), .val (.ref b34), .val (.ref b54), .val .null, .val (.ref b244), .val (.ref b254), .unset, .unset, .unset, .unset, .unset] [])) ?_ (fun t k => XS.ifNo X314.here hx rfl (hb hby at_266) rfl ((if0 _ _).trans (teq (by decide : (0 : Int32) = (0 : Int32))).2) k)
  refine Gen.on (b := T314.setTop (mkF m 271 #[.val (.int p1), .val (.int p2), .val (.int p3), .val (.int pp), .val (.int nsx), .val (.int c0), .val (.int c1), .val (.int e0), .val (.int e1), .val (.ref b3), .val (.ref b10), .val (.ref b18), .val (.ref b34), .val (.ref b54), .val .null, .val (.ref b244), .val (.ref b254), .unset, .unset, .unset, .unset, .unset] [(.ref b254)])) ?_ (fun t k => XS.aload X314.here hx rfl (hb hby at_269) rfl rfl k)
  refine Gen.on (b := T314.setTop (mkF m 272 #[.val (.int p1), .val (.int p2), .val (.int p3), .val (.int pp), .val (.int nsx), .val (.int c0), .val (.int c1), .val (.int e0), .val (.int e1), .val (.ref b3), .val (.ref b10), .val (.ref b18), .val (.ref b34), .val (.ref b54), .val .null, .val (.ref b244), .val (.ref b254), .unset, .unset, .unset, .unset, .unset] [(.int (0 : Int32)), (.ref b254)])) ?_ (fun t k => XS.iconst X314.here hx rfl (hb hby at_271) k)
  obtain ⟨cq315, kq315, q315a, q315b, q315c⟩ := isOf hZ e314 hf303_0
  obtain ⟨_, _, ⟨T315, L315, k315, n315⟩, -, X315, ⟨Lc315, hQ315, l315, y315, z315⟩, st315⟩ := X314.virtualBack hx (y := (⟨"com/example/scheherazade/scheherazade/reader/TagParts", "getLikelyAttributeSpelling", "(I)[C"⟩ : MethodName)) (z := (⟨"com/example/scheherazade/scheherazade/reader/TagParts", "getLikelyAttributeSpelling", "(I)[C"⟩ : MethodName)) hown (mvT hZ (hw _ (List.mem_of_getElem? (i := 96) rfl))) (mvT hZ (hw _ (List.mem_of_getElem? (i := 97) rfl))) (notFace_of_selects (args := #[]) (mvT hZ (hw _ (List.mem_of_getElem? (i := 99) rfl)))) (mvT hZ (hw _ (List.mem_of_getElem? (i := 99) rfl))) (mvT hZ (hw _ (List.mem_of_getElem? (i := 98) rfl))) (by decide) (backOf (W := 0) (rm14 l Z a0 hw [] b254 m3_263 kq3_263 b244 T303.heap n0 Z303 hf303_0 hf303_8 fa308) hZ (hw _ (List.mem_of_getElem? (i := 100) rfl)) (hw _ (List.mem_of_getElem? (i := 32) rfl)) (by decide) (by decide)) q315a q315c (g := (mkF m 272 #[.val (.int p1), .val (.int p2), .val (.int p3), .val (.int pp), .val (.int nsx), .val (.int c0), .val (.int c1), .val (.int e0), .val (.int e1), .val (.ref b3), .val (.ref b10), .val (.ref b18), .val (.ref b34), .val (.ref b54), .val .null, .val (.ref b244), .val (.ref b254), .unset, .unset, .unset, .unset, .unset] [(.int (0 : Int32)), (.ref b254)])) rfl (by rw [hml]; rfl) (Steps.refl _) (argsL := [(.int (0 : Int32))]) (rest := []) (lenOf pd_0_8 rfl) rfl (by show 2 * 0 + _ ≤ _; exact Nat.le_of_eq rfl) (hb hby at_272) (fun _ _ => ⟨rfl, e314, (by decide : 17 + 0 ≤ _), (by decide : 58 + 0 ≤ _)⟩)
  dsimp only [Pt.U, Pt.locs, Pt.cells, Pt.slots] at X315 l315 y315 z315 st315 hQ315
  subst l315 y315 z315
  obtain ⟨rfl, N315q, e315⟩ := hQ315
  have N315 := Fr.app N314 N315q
  refine Gen.on (b := T315.setTop (mkF m 275 #[.val (.int p1), .val (.int p2), .val (.int p3), .val (.int pp), .val (.int nsx), .val (.int c0), .val (.int c1), .val (.int e0), .val (.int e1), .val (.ref b3), .val (.ref b10), .val (.ref b18), .val (.ref b34), .val (.ref b54), .val .null, .val (.ref b244), .val (.ref b254), .unset, .unset, .unset, .unset, .unset] [(.ref b244)])) ?_ (fun t k => st315.trans k)
  refine Gen.on (b := T315.setTop (mkF m 277 #[.val (.int p1), .val (.int p2), .val (.int p3), .val (.int pp), .val (.int nsx), .val (.int c0), .val (.int c1), .val (.int e0), .val (.int e1), .val (.ref b3), .val (.ref b10), .val (.ref b18), .val (.ref b34), .val (.ref b54), .val .null, .val (.ref b244), .val (.ref b254), .unset, .unset, .unset, .unset, .unset] [(.ref b244), (.ref b244)])) ?_ (fun t k => XS.aload X315.here hx rfl (hb hby at_275) rfl rfl k)
  refine Gen.on (b := T315.setTop (mkF m 280 #[.val (.int p1), .val (.int p2), .val (.int p3), .val (.int pp), .val (.int nsx), .val (.int c0), .val (.int c1), .val (.int e0), .val (.int e1), .val (.ref b3), .val (.ref b10), .val (.ref b18), .val (.ref b34), .val (.ref b54), .val .null, .val (.ref b244), .val (.ref b254), .unset, .unset, .unset, .unset, .unset] [])) ?_ (fun t k => Jvm.RoadKit.acmp (g := (mkF m 277 #[.val (.int p1), .val (.int p2), .val (.int p3), .val (.int pp), .val (.int nsx), .val (.int c0), .val (.int c1), .val (.int e0), .val (.int e1), .val (.ref b3), .val (.ref b10), .val (.ref b18), .val (.ref b34), .val (.ref b54), .val .null, .val (.ref b244), .val (.ref b254), .unset, .unset, .unset, .unset, .unset] [(.ref b244), (.ref b244)])) X315 hx rfl rfl rfl (pc0 := 277) (pc' := 280) (same := true) rfl (hb hby at_277) rfl (decide_eq_true rfl) (by decide) (by decide) k)
  refine Gen.on (b := T315.setTop (mkF m 281 #[.val (.int p1), .val (.int p2), .val (.int p3), .val (.int pp), .val (.int nsx), .val (.int c0), .val (.int c1), .val (.int e0), .val (.int e1), .val (.ref b3), .val (.ref b10), .val (.ref b18), .val (.ref b34), .val (.ref b54), .val .null, .val (.ref b244), .val (.ref b254), .unset, .unset, .unset, .unset, .unset] [(.int (1 : Int32))])) ?_ (fun t k => XS.iconst X315.here hx rfl (hb hby at_280) k)
  refine Gen.on (b := T315.setTop (mkF m 285 #[.val (.int p1), .val (.int p2), .val (.int p3), .val (.int pp), .val (.int nsx), .val (.int c0), .val (.int c1), .val (.int e0), .val (.int e1), .val (.ref b3), .val (.ref b10), .val (.ref b18), .val (.ref b34), .val (.ref b54), .val .null, .val (.ref b244), .val (.ref b254), .unset, .unset, .unset, .unset, .unset] [(.int (1 : Int32))])) ?_ (fun t k => XS.goto X315.here hx rfl (pc0 := 281) (pc' := 285) rfl (hb hby at_281) (by decide) (by decide) k)
  refine Gen.on (b := T315.setTop (mkF m 287 #[.val (.int p1), .val (.int p2), .val (.int p3), .val (.int pp), .val (.int nsx), .val (.int c0), .val (.int c1), .val (.int e0), .val (.int e1), .val (.ref b3), .val (.ref b10), .val (.ref b18), .val (.ref b34), .val (.ref b54), .val .null, .val (.ref b244), .val (.ref b254), .val (.int (1 : Int32)), .unset, .unset, .unset, .unset] [])) ?_ (fun t k => XS.istore X315.here hx rfl (hb hby at_285) rfl (l' := #[.val (.int p1), .val (.int p2), .val (.int p3), .val (.int pp), .val (.int nsx), .val (.int c0), .val (.int c1), .val (.int e0), .val (.int e1), .val (.ref b3), .val (.ref b10), .val (.ref b18), .val (.ref b34), .val (.ref b54), .val .null, .val (.ref b244), .val (.ref b254), .val (.int (1 : Int32)), .unset, .unset, .unset, .unset]) rfl k)
  refine Gen.on (b := T315.setTop (mkF m 288 #[.val (.int p1), .val (.int p2), .val (.int p3), .val (.int pp), .val (.int nsx), .val (.int c0), .val (.int c1), .val (.int e0), .val (.int e1), .val (.ref b3), .val (.ref b10), .val (.ref b18), .val (.ref b34), .val (.ref b54), .val .null, .val (.ref b244), .val (.ref b254), .val (.int (1 : Int32)), .unset, .unset, .unset, .unset] [(.int p3)])) ?_ (fun t k => XS.iloadN X315.here hx rfl (hb hby at_287) rfl k)
  refine Gen.on (b := T315.setTop (mkF m 289 #[.val (.int p1), .val (.int p2), .val (.int p3), .val (.int pp), .val (.int nsx), .val (.int c0), .val (.int c1), .val (.int e0), .val (.int e1), .val (.ref b3), .val (.ref b10), .val (.ref b18), .val (.ref b34), .val (.ref b54), .val .null, .val (.ref b244), .val (.ref b254), .val (.int (1 : Int32)), .unset, .unset, .unset, .unset] [(.int (2 : Int32)), (.int p3)])) ?_ (fun t k => XS.iconst X315.here hx rfl (hb hby at_288) k)
  refine Gen.on (b := T315.setTop (mkF m 290 #[.val (.int p1), .val (.int p2), .val (.int p3), .val (.int pp), .val (.int nsx), .val (.int c0), .val (.int c1), .val (.int e0), .val (.int e1), .val (.ref b3), .val (.ref b10), .val (.ref b18), .val (.ref b34), .val (.ref b54), .val .null, .val (.ref b244), .val (.ref b254), .val (.int (1 : Int32)), .unset, .unset, .unset, .unset] [(.int ((p3.toUInt32 >>> ((2 : Int32) &&& 31).toUInt32).toInt32))])) ?_ (fun t k => XS.iushr X315.here hx rfl (hb hby at_289) rfl k)
  refine Gen.on (b := T315.setTop (mkF m 291 #[.val (.int p1), .val (.int p2), .val (.int p3), .val (.int pp), .val (.int nsx), .val (.int c0), .val (.int c1), .val (.int e0), .val (.int e1), .val (.ref b3), .val (.ref b10), .val (.ref b18), .val (.ref b34), .val (.ref b54), .val .null, .val (.ref b244), .val (.ref b254), .val (.int (1 : Int32)), .unset, .unset, .unset, .unset] [(.int (1 : Int32)), (.int ((p3.toUInt32 >>> ((2 : Int32) &&& 31).toUInt32).toInt32))])) ?_ (fun t k => XS.iconst X315.here hx rfl (hb hby at_290) k)
  refine Gen.on (b := T315.setTop (mkF m 292 #[.val (.int p1), .val (.int p2), .val (.int p3), .val (.int pp), .val (.int nsx), .val (.int c0), .val (.int c1), .val (.int e0), .val (.int e1), .val (.ref b3), .val (.ref b10), .val (.ref b18), .val (.ref b34), .val (.ref b54), .val .null, .val (.ref b244), .val (.ref b254), .val (.int (1 : Int32)), .unset, .unset, .unset, .unset] [(.int (((p3.toUInt32 >>> ((2 : Int32) &&& 31).toUInt32).toInt32) &&& (1 : Int32)))])) ?_ (fun t k => XS.iand X315.here hx rfl (hb hby at_291) rfl k)
  refine Gen.on (b := T315.setTop (mkF m 294 #[.val (.int p1), .val (.int p2), .val (.int p3), .val (.int pp), .val (.int nsx), .val (.int c0), .val (.int c1), .val (.int e0), .val (.int e1), .val (.ref b3), .val (.ref b10), .val (.ref b18), .val (.ref b34), .val (.ref b54), .val .null, .val (.ref b244), .val (.ref b254), .val (.int (1 : Int32)), .val (.int (((p3.toUInt32 >>> ((2 : Int32) &&& 31).toUInt32).toInt32) &&& (1 : Int32))), .unset, .unset, .unset] [])) ?_ (fun t k => XS.istore X315.here hx rfl (hb hby at_292) rfl (l' := #[.val (.int p1), .val (.int p2), .val (.int p3), .val (.int pp), .val (.int nsx), .val (.int c0), .val (.int c1), .val (.int e0), .val (.int e1), .val (.ref b3), .val (.ref b10), .val (.ref b18), .val (.ref b34), .val (.ref b54), .val .null, .val (.ref b244), .val (.ref b254), .val (.int (1 : Int32)), .val (.int (((p3.toUInt32 >>> ((2 : Int32) &&& 31).toUInt32).toInt32) &&& (1 : Int32))), .unset, .unset, .unset]) rfl k)
  obtain ⟨sx, h_sx⟩ : ∃ z, z = (((p3.toUInt32 >>> ((2 : Int32) &&& 31).toUInt32).toInt32) &&& (1 : Int32)) := ⟨_, rfl⟩
  rw [← h_sx]
  refine Gen.on (b := T315.setTop (mkF m 295 #[.val (.int p1), .val (.int p2), .val (.int p3), .val (.int pp), .val (.int nsx), .val (.int c0), .val (.int c1), .val (.int e0), .val (.int e1), .val (.ref b3), .val (.ref b10), .val (.ref b18), .val (.ref b34), .val (.ref b54), .val .null, .val (.ref b244), .val (.ref b254), .val (.int (1 : Int32)), .val (.int sx), .unset, .unset, .unset] [(.int p3)])) ?_ (fun t k => XS.iloadN X315.here hx rfl (hb hby at_294) rfl k)
  refine Gen.on (b := T315.setTop (mkF m 296 #[.val (.int p1), .val (.int p2), .val (.int p3), .val (.int pp), .val (.int nsx), .val (.int c0), .val (.int c1), .val (.int e0), .val (.int e1), .val (.ref b3), .val (.ref b10), .val (.ref b18), .val (.ref b34), .val (.ref b54), .val .null, .val (.ref b244), .val (.ref b254), .val (.int (1 : Int32)), .val (.int sx), .unset, .unset, .unset] [(.int (3 : Int32)), (.int p3)])) ?_ (fun t k => XS.iconst X315.here hx rfl (hb hby at_295) k)
  refine Gen.on (b := T315.setTop (mkF m 297 #[.val (.int p1), .val (.int p2), .val (.int p3), .val (.int pp), .val (.int nsx), .val (.int c0), .val (.int c1), .val (.int e0), .val (.int e1), .val (.ref b3), .val (.ref b10), .val (.ref b18), .val (.ref b34), .val (.ref b54), .val .null, .val (.ref b244), .val (.ref b254), .val (.int (1 : Int32)), .val (.int sx), .unset, .unset, .unset] [(.int ((p3.toUInt32 >>> ((3 : Int32) &&& 31).toUInt32).toInt32))])) ?_ (fun t k => XS.iushr X315.here hx rfl (hb hby at_296) rfl k)
  refine Gen.on (b := T315.setTop (mkF m 298 #[.val (.int p1), .val (.int p2), .val (.int p3), .val (.int pp), .val (.int nsx), .val (.int c0), .val (.int c1), .val (.int e0), .val (.int e1), .val (.ref b3), .val (.ref b10), .val (.ref b18), .val (.ref b34), .val (.ref b54), .val .null, .val (.ref b244), .val (.ref b254), .val (.int (1 : Int32)), .val (.int sx), .unset, .unset, .unset] [(.int (3 : Int32)), (.int ((p3.toUInt32 >>> ((3 : Int32) &&& 31).toUInt32).toInt32))])) ?_ (fun t k => XS.iconst X315.here hx rfl (hb hby at_297) k)
  refine Gen.on (b := T315.setTop (mkF m 299 #[.val (.int p1), .val (.int p2), .val (.int p3), .val (.int pp), .val (.int nsx), .val (.int c0), .val (.int c1), .val (.int e0), .val (.int e1), .val (.ref b3), .val (.ref b10), .val (.ref b18), .val (.ref b34), .val (.ref b54), .val .null, .val (.ref b244), .val (.ref b254), .val (.int (1 : Int32)), .val (.int sx), .unset, .unset, .unset] [(.int (((p3.toUInt32 >>> ((3 : Int32) &&& 31).toUInt32).toInt32) &&& (3 : Int32)))])) ?_ (fun t k => XS.iand X315.here hx rfl (hb hby at_298) rfl k)
  refine Gen.on (b := T315.setTop (mkF m 300 #[.val (.int p1), .val (.int p2), .val (.int p3), .val (.int pp), .val (.int nsx), .val (.int c0), .val (.int c1), .val (.int e0), .val (.int e1), .val (.ref b3), .val (.ref b10), .val (.ref b18), .val (.ref b34), .val (.ref b54), .val .null, .val (.ref b244), .val (.ref b254), .val (.int (1 : Int32)), .val (.int sx), .unset, .unset, .unset] [(.int (3 : Int32)), (.int (((p3.toUInt32 >>> ((3 : Int32) &&& 31).toUInt32).toInt32) &&& (3 : Int32)))])) ?_ (fun t k => XS.iconst X315.here hx rfl (hb hby at_299) k)
  refine Gen.on (b := T315.setTop (mkF m 302 #[.val (.int p1), .val (.int p2), .val (.int p3), .val (.int pp), .val (.int nsx), .val (.int c0), .val (.int c1), .val (.int e0), .val (.int e1), .val (.ref b3), .val (.ref b10), .val (.ref b18), .val (.ref b34), .val (.ref b54), .val .null, .val (.ref b244), .val (.ref b254), .val (.int (1 : Int32)), .val (.int sx), .unset, .unset, .unset] [(.int sx), (.int (3 : Int32)), (.int (((p3.toUInt32 >>> ((3 : Int32) &&& 31).toUInt32).toInt32) &&& (3 : Int32)))])) ?_ (fun t k => XS.iload X315.here hx rfl (hb hby at_300) rfl k)
  refine Gen.on (b := T315.setTop (mkF m 303 #[.val (.int p1), .val (.int p2), .val (.int p3), .val (.int pp), .val (.int nsx), .val (.int c0), .val (.int c1), .val (.int e0), .val (.int e1), .val (.ref b3), .val (.ref b10), .val (.ref b18), .val (.ref b34), .val (.ref b54), .val .null, .val (.ref b244), .val (.ref b254), .val (.int (1 : Int32)), .val (.int sx), .unset, .unset, .unset] [(.int ((3 : Int32) - sx)), (.int (((p3.toUInt32 >>> ((3 : Int32) &&& 31).toUInt32).toInt32) &&& (3 : Int32)))])) ?_ (fun t k => XS.isub X315.here hx rfl (hb hby at_302) rfl k)
  refine Gen.on (b := T315.setTop (mkF m 304 #[.val (.int p1), .val (.int p2), .val (.int p3), .val (.int pp), .val (.int nsx), .val (.int c0), .val (.int c1), .val (.int e0), .val (.int e1), .val (.ref b3), .val (.ref b10), .val (.ref b18), .val (.ref b34), .val (.ref b54), .val .null, .val (.ref b244), .val (.ref b254), .val (.int (1 : Int32)), .val (.int sx), .unset, .unset, .unset] [(.int ((((p3.toUInt32 >>> ((3 : Int32) &&& 31).toUInt32).toInt32) &&& (3 : Int32)) % ((3 : Int32) - sx)))])) ?_ (fun t k => iremM X315 hx rfl (hb hby at_303) rfl (own_3s _ h_sx) k)
  refine Gen.on (b := T315.setTop (mkF m 306 #[.val (.int p1), .val (.int p2), .val (.int p3), .val (.int pp), .val (.int nsx), .val (.int c0), .val (.int c1), .val (.int e0), .val (.int e1), .val (.ref b3), .val (.ref b10), .val (.ref b18), .val (.ref b34), .val (.ref b54), .val .null, .val (.ref b244), .val (.ref b254), .val (.int (1 : Int32)), .val (.int sx), .val (.int ((((p3.toUInt32 >>> ((3 : Int32) &&& 31).toUInt32).toInt32) &&& (3 : Int32)) % ((3 : Int32) - sx))), .unset, .unset] [])) ?_ (fun t k => XS.istore X315.here hx rfl (hb hby at_304) rfl (l' := #[.val (.int p1), .val (.int p2), .val (.int p3), .val (.int pp), .val (.int nsx), .val (.int c0), .val (.int c1), .val (.int e0), .val (.int e1), .val (.ref b3), .val (.ref b10), .val (.ref b18), .val (.ref b34), .val (.ref b54), .val .null, .val (.ref b244), .val (.ref b254), .val (.int (1 : Int32)), .val (.int sx), .val (.int ((((p3.toUInt32 >>> ((3 : Int32) &&& 31).toUInt32).toInt32) &&& (3 : Int32)) % ((3 : Int32) - sx))), .unset, .unset]) rfl k)
  obtain ⟨ln, h_ln⟩ : ∃ z, z = ((((p3.toUInt32 >>> ((3 : Int32) &&& 31).toUInt32).toInt32) &&& (3 : Int32)) % ((3 : Int32) - sx)) := ⟨_, rfl⟩
  rw [← h_ln]
  have k_kl := own_klm _ _ h_sx h_ln
  by_cases hz : ln = (0 : Int32)
  · subst hz
    have fa316 := (((fa273.keep Kc290 (allS g_b254 all0)).keep Kc293 (allS g_b254 (allS g_m1_263 (allS g_m2_263 (allS g_m3_263 (allS g_m4_263 (allS g_m5_263 (allS g_m6_263 all0)))))))).keep Kc303 (allS g_b254 all0))
    have fa317 := (((fa274.keep Kc290 (ninS ne_b3_b254 nin0)).keep Kc293 (ninS ne_b3_b254 (ninS ne_b3_m1_263 (ninS ne_b3_m2_263 (ninS ne_b3_m3_263 (ninS ne_b3_m4_263 (ninS ne_b3_m5_263 (ninS ne_b3_m6_263 nin0)))))))).keep Kc303 (ninS ne_b3_b254 nin0))
    have fa318 := (((fa275.keep Kc290).keep Kc293).keep Kc303)
    have fa319 := (((fa276.keep Kc290 (ninS ne_b10_b254 nin0)).keep Kc293 (ninS ne_b10_b254 (ninS ne_b10_m1_263 (ninS ne_b10_m2_263 (ninS ne_b10_m3_263 (ninS ne_b10_m4_263 (ninS ne_b10_m5_263 (ninS ne_b10_m6_263 nin0)))))))).keep Kc303 (ninS ne_b10_b254 nin0))
    have fa320 := (((fa277.keep Kc290).keep Kc293).keep Kc303)
    have fa321 := ((fa300.keep Kc293).keep Kc303)
    have fa322 := (((fa279.keep Kc290 (ninS ne_b21_b254 nin0)).keep Kc293 (ninS ne_b21_b254 (ninS ne_b21_m1_263 (ninS ne_b21_m2_263 (ninS ne_b21_m3_263 (ninS ne_b21_m4_263 (ninS ne_b21_m5_263 (ninS ne_b21_m6_263 nin0)))))))).keep Kc303 (ninS ne_b21_b254 nin0))
    have fa323 := (((fa280.keep Kc290).keep Kc293).keep Kc303)
    have fa324 := (((fa281.keep Kc290).keep Kc293).keep Kc303)
    have fa325 := (((fa282.keep Kc290 (ninS ne_b39_b254 nin0)).keep Kc293 (ninS ne_b39_b254 (ninS ne_b39_m1_263 (ninS ne_b39_m2_263 (ninS ne_b39_m3_263 (ninS ne_b39_m4_263 (ninS ne_b39_m5_263 (ninS ne_b39_m6_263 nin0)))))))).keep Kc303 (ninS ne_b39_b254 nin0))
    have fa326 := (((fa283.keep Kc290).keep Kc293).keep Kc303)
    have fa327 := (((fa284.keep Kc290 (ninS ne_b54_b254 nin0)).keep Kc293 (ninS ne_b54_b254 (ninS ne_b54_m1_263 (ninS ne_b54_m2_263 (ninS ne_b54_m3_263 (ninS ne_b54_m4_263 (ninS ne_b54_m5_263 (ninS ne_b54_m6_263 nin0)))))))).keep Kc303 (ninS ne_b54_b254 nin0))
    have fa328 := (((fa285.keep Kc290).keep Kc293).keep Kc303)
    have fa329 := (((fa286.keep Kc290 (ninS ne_b244_b254 nin0)).keep Kc293 (ninS ne_b244_b254 (ninS ne_b244_m1_263 (ninS ne_b244_m2_263 (ninS ne_b244_m3_263 (ninS ne_b244_m4_263 (ninS ne_b244_m5_263 (ninS ne_b244_m6_263 nin0)))))))).keep Kc303 (ninS ne_b244_b254 nin0))
    have fa330 := ((fa301.keep Kc293).keep Kc303)
    exact seg331 hw hx hby hml hret hlocks hh sts hZ hown X315 N315 Z303 hS0 hk304 CH304 e315 fa316 fa317 fa319 fa321 fa322 fa324 fa325 fa327 fa329 hf303_0 fa306 fa307 fa308 fa309 fa310 fa311 hf303_1 hf303_2 hf303_3 hf303_4 hf303_5 hf303_6 hf303_7 hf303_8 hf303_9 hf303_10 hf303_11 sf304_b18 sf304_b34 ne_b3_b254 ne_b10_b254 ne_b21_b254 ne_b39_b254 ne_b54_b254 ne_b244_b254 ne_b3_m1_263 ne_b10_m1_263 ne_b21_m1_263 ne_b39_m1_263 ne_b54_m1_263 ne_b244_m1_263 ne_b254_m1_263 ne_b3_m2_263 ne_b10_m2_263 ne_b21_m2_263 ne_b39_m2_263 ne_b54_m2_263 ne_b244_m2_263 ne_b254_m2_263 ne_b3_m3_263 ne_b10_m3_263 ne_b21_m3_263 ne_b39_m3_263 ne_b54_m3_263 ne_b244_m3_263 ne_b254_m3_263 ne_b3_m4_263 ne_b10_m4_263 ne_b21_m4_263 ne_b39_m4_263 ne_b54_m4_263 ne_b244_m4_263 ne_b254_m4_263 ne_b3_m5_263 ne_b10_m5_263 ne_b21_m5_263 ne_b39_m5_263 ne_b54_m5_263 ne_b244_m5_263 ne_b254_m5_263 ne_b3_m6_263 ne_b10_m6_263 ne_b21_m6_263 ne_b39_m6_263 ne_b54_m6_263 ne_b244_m6_263 ne_b254_m6_263 ne_m1_263_m2_263 ne_m1_263_m3_263 ne_m1_263_m4_263 ne_m1_263_m5_263 ne_m1_263_m6_263 ne_m2_263_m3_263 ne_m2_263_m4_263 ne_m2_263_m5_263 ne_m2_263_m6_263 ne_m3_263_m4_263 ne_m3_263_m5_263 ne_m3_263_m6_263 ne_m4_263_m5_263 ne_m4_263_m6_263 ne_m5_263_m6_263 g_b254 g_m1_263 g_m2_263 g_m3_263 g_m4_263 g_m5_263 g_m6_263 ov1_263 ov3_263 ov6_263 k_kl
  · have fa354 := (((fa273.keep Kc290 (allS g_b254 all0)).keep Kc293 (allS g_b254 (allS g_m1_263 (allS g_m2_263 (allS g_m3_263 (allS g_m4_263 (allS g_m5_263 (allS g_m6_263 all0)))))))).keep Kc303 (allS g_b254 all0))
    have fa355 := (((fa274.keep Kc290 (ninS ne_b3_b254 nin0)).keep Kc293 (ninS ne_b3_b254 (ninS ne_b3_m1_263 (ninS ne_b3_m2_263 (ninS ne_b3_m3_263 (ninS ne_b3_m4_263 (ninS ne_b3_m5_263 (ninS ne_b3_m6_263 nin0)))))))).keep Kc303 (ninS ne_b3_b254 nin0))
    have fa356 := (((fa275.keep Kc290).keep Kc293).keep Kc303)
    have fa357 := (((fa276.keep Kc290 (ninS ne_b10_b254 nin0)).keep Kc293 (ninS ne_b10_b254 (ninS ne_b10_m1_263 (ninS ne_b10_m2_263 (ninS ne_b10_m3_263 (ninS ne_b10_m4_263 (ninS ne_b10_m5_263 (ninS ne_b10_m6_263 nin0)))))))).keep Kc303 (ninS ne_b10_b254 nin0))
    have fa358 := (((fa277.keep Kc290).keep Kc293).keep Kc303)
    have fa359 := ((fa300.keep Kc293).keep Kc303)
    have fa360 := (((fa279.keep Kc290 (ninS ne_b21_b254 nin0)).keep Kc293 (ninS ne_b21_b254 (ninS ne_b21_m1_263 (ninS ne_b21_m2_263 (ninS ne_b21_m3_263 (ninS ne_b21_m4_263 (ninS ne_b21_m5_263 (ninS ne_b21_m6_263 nin0)))))))).keep Kc303 (ninS ne_b21_b254 nin0))
    have fa361 := (((fa280.keep Kc290).keep Kc293).keep Kc303)
    have fa362 := (((fa281.keep Kc290).keep Kc293).keep Kc303)
    have fa363 := (((fa282.keep Kc290 (ninS ne_b39_b254 nin0)).keep Kc293 (ninS ne_b39_b254 (ninS ne_b39_m1_263 (ninS ne_b39_m2_263 (ninS ne_b39_m3_263 (ninS ne_b39_m4_263 (ninS ne_b39_m5_263 (ninS ne_b39_m6_263 nin0)))))))).keep Kc303 (ninS ne_b39_b254 nin0))
    have fa364 := (((fa283.keep Kc290).keep Kc293).keep Kc303)
    have fa365 := (((fa284.keep Kc290 (ninS ne_b54_b254 nin0)).keep Kc293 (ninS ne_b54_b254 (ninS ne_b54_m1_263 (ninS ne_b54_m2_263 (ninS ne_b54_m3_263 (ninS ne_b54_m4_263 (ninS ne_b54_m5_263 (ninS ne_b54_m6_263 nin0)))))))).keep Kc303 (ninS ne_b54_b254 nin0))
    have fa366 := (((fa285.keep Kc290).keep Kc293).keep Kc303)
    have fa367 := (((fa286.keep Kc290 (ninS ne_b244_b254 nin0)).keep Kc293 (ninS ne_b244_b254 (ninS ne_b244_m1_263 (ninS ne_b244_m2_263 (ninS ne_b244_m3_263 (ninS ne_b244_m4_263 (ninS ne_b244_m5_263 (ninS ne_b244_m6_263 nin0)))))))).keep Kc303 (ninS ne_b244_b254 nin0))
    have fa368 := ((fa301.keep Kc293).keep Kc303)
    exact seg369 hw hx hby hml hret hlocks hh sts hZ hown X315 N315 Z303 hS0 hk304 CH304 e315 fa354 fa355 fa357 fa359 fa360 fa362 fa363 fa365 fa367 hf303_0 fa306 fa307 fa308 fa309 fa310 fa311 hf303_1 hf303_2 hf303_3 hf303_4 hf303_5 hf303_6 hf303_7 hf303_8 hf303_9 hf303_10 hf303_11 sf304_b18 sf304_b34 ne_b3_b254 ne_b10_b254 ne_b21_b254 ne_b39_b254 ne_b54_b254 ne_b244_b254 ne_b3_m1_263 ne_b10_m1_263 ne_b21_m1_263 ne_b39_m1_263 ne_b54_m1_263 ne_b244_m1_263 ne_b254_m1_263 ne_b3_m2_263 ne_b10_m2_263 ne_b21_m2_263 ne_b39_m2_263 ne_b54_m2_263 ne_b244_m2_263 ne_b254_m2_263 ne_b3_m3_263 ne_b10_m3_263 ne_b21_m3_263 ne_b39_m3_263 ne_b54_m3_263 ne_b244_m3_263 ne_b254_m3_263 ne_b3_m4_263 ne_b10_m4_263 ne_b21_m4_263 ne_b39_m4_263 ne_b54_m4_263 ne_b244_m4_263 ne_b254_m4_263 ne_b3_m5_263 ne_b10_m5_263 ne_b21_m5_263 ne_b39_m5_263 ne_b54_m5_263 ne_b244_m5_263 ne_b254_m5_263 ne_b3_m6_263 ne_b10_m6_263 ne_b21_m6_263 ne_b39_m6_263 ne_b54_m6_263 ne_b244_m6_263 ne_b254_m6_263 ne_m1_263_m2_263 ne_m1_263_m3_263 ne_m1_263_m4_263 ne_m1_263_m5_263 ne_m1_263_m6_263 ne_m2_263_m3_263 ne_m2_263_m4_263 ne_m2_263_m5_263 ne_m2_263_m6_263 ne_m3_263_m4_263 ne_m3_263_m5_263 ne_m3_263_m6_263 ne_m4_263_m5_263 ne_m4_263_m6_263 ne_m5_263_m6_263 g_b254 g_m1_263 g_m2_263 g_m3_263 g_m4_263 g_m5_263 g_m6_263 hz ov1_263 ov3_263 ov6_263 k_kl k_c0 k_c1
set_option maxRecDepth 65536 in
set_option maxHeartbeats 40000000 in
theorem rm0 (l : Launch) (Z : State) (a0 : Array Value) (hw : ∀ d ∈ tables_1, d.before a0 Z = true) (wds : List Jvm.Cond) (p1 : Int32) (p2 : Int32) (p3 : Int32) (w0 : Int32) (f0 : Value) (h0 : Heap) (n0 : Nat) (Z0 : n0 ≤ h0.size) (OL : Old Z n0 h0) (sts : Sts Z w0 f0) :
    MetFree l x (head1 (Jvm.Cond.code x code maxLocals ret :: wds) room_1) (fun a U => a = #[(.int p1), (.int p2), (.int p3)] ∧ Z.Warmed39 U.vm ∧ U.heap = h0 ∧ CHv Z consts_1 U.vm h0) (fun _ _ _ _ _ => True) (fun _ U o U' => ∃ v L, o = .returned v ∧ Q0 n0 v U'.heap L ∧ CHr Z consts_1 U.vm U.heap U'.vm U'.heap ∧ ReturnedEndW U o U' L room_1.cells room_1.slots) := by
  refine MetFree.of_bodySF (plainFor_of_name pn_0) hisR ?_
  intro p e s m args below meth c s₁ Bd hml0 hP hK
  obtain ⟨rfl, hZ, hh, CHs⟩ := hP
  have hx := Bd.exec
  have hby := Bd.bytes
  have hml : c.maxLocals = 22 := hml0
  have hown : s.vm.findClass "com/example/scheherazade/scheherazade/reader/TagPartsStartPinLaw" = some m.cls := findClass_of_methodNamed Bd.named
  have hnm := (name_of_methodNamed Bd.named Bd.method).1
  have hZ : Z.Warmed39 (s.setVm s.vm).vm := hZ
  have hown : (s.setVm s.vm).vm.findClass "com/example/scheherazade/scheherazade/reader/TagPartsStartPinLaw" = some m.cls := hown
  have X0 : Stand p l e room_1 (s.setVm s.vm) m #[(.int p1), (.int p2), (.int p3)] below meth c s₁ [] 0 0 := Stand.of_body Bd
  have e0 : s₁.heap = h0 := by rw [← hh, Bd.state]; rfl
  have N0 := Fr.nil n0
  have hEL : EW Z a0 consts_1 := own_hEL hw
  have wS := own_wS hw
  have hS0 : s.Since s.vm h0.size := (State.WarmedH.refl s).since _
  have hk0 : h0.size ≤ h0.size := Nat.le_refl _
  have CH0 : CHr Z consts_1 s.vm h0 s.vm h0 := CHr.refl CHs
  refine ownS_start (Z := Z) (EL := consts_1) (Q := Q0 n0) (C := room_1.cells) (S := room_1.slots) ?_
  rw [ef_0 m p1 p2 p3]
  obtain ⟨SC, hw0, SF, hf0⟩ := id sts
  obtain ⟨_, st1, T1, X1, e1, rfl⟩ : Gen p e below (own_at X0 h0 (mkF m 11 #[.val (.int p1), .val (.int p2), .val (.int p3), .unset, .unset, .unset, .unset, .unset, .unset, .unset, .unset, .unset, .unset, .unset, .unset, .unset, .unset, .unset, .unset, .unset, .unset, .unset] [(.int (if (p3 &&& (1 : Int32)) = (0 : Int32) then (0 : Int32) else (1 : Int32)))])) (s₁.setTop (mkF m 0 #[.val (.int p1), .val (.int p2), .val (.int p3), .unset, .unset, .unset, .unset, .unset, .unset, .unset, .unset, .unset, .unset, .unset, .unset, .unset, .unset, .unset, .unset, .unset, .unset, .unset] [])) := by
    refine Gen.on (b := s₁.setTop (mkF m 1 #[.val (.int p1), .val (.int p2), .val (.int p3), .unset, .unset, .unset, .unset, .unset, .unset, .unset, .unset, .unset, .unset, .unset, .unset, .unset, .unset, .unset, .unset, .unset, .unset, .unset] [(.int p3)])) ?_ (fun t k => XS.iloadN X0.here hx rfl (hb hby at_0) rfl k)
    refine Gen.on (b := s₁.setTop (mkF m 2 #[.val (.int p1), .val (.int p2), .val (.int p3), .unset, .unset, .unset, .unset, .unset, .unset, .unset, .unset, .unset, .unset, .unset, .unset, .unset, .unset, .unset, .unset, .unset, .unset, .unset] [(.int (1 : Int32)), (.int p3)])) ?_ (fun t k => XS.iconst X0.here hx rfl (hb hby at_1) k)
    refine Gen.on (b := s₁.setTop (mkF m 3 #[.val (.int p1), .val (.int p2), .val (.int p3), .unset, .unset, .unset, .unset, .unset, .unset, .unset, .unset, .unset, .unset, .unset, .unset, .unset, .unset, .unset, .unset, .unset, .unset, .unset] [(.int (p3 &&& (1 : Int32)))])) ?_ (fun t k => XS.iand X0.here hx rfl (hb hby at_2) rfl k)
    by_cases c3_1 : (p3 &&& (1 : Int32)) = (0 : Int32)
    · refine Gen.on (b := s₁.setTop (mkF m 10 #[.val (.int p1), .val (.int p2), .val (.int p3), .unset, .unset, .unset, .unset, .unset, .unset, .unset, .unset, .unset, .unset, .unset, .unset, .unset, .unset, .unset, .unset, .unset, .unset, .unset] [])) ?_ (fun t k => XS.ifYes X0.here hx rfl (pc0 := 3) (pc' := 10) rfl (hb hby at_3) rfl ((if0 _ _).trans (teq c3_1).1) (by decide) (by decide) k)
      refine Gen.on (b := s₁.setTop (mkF m 11 #[.val (.int p1), .val (.int p2), .val (.int p3), .unset, .unset, .unset, .unset, .unset, .unset, .unset, .unset, .unset, .unset, .unset, .unset, .unset, .unset, .unset, .unset, .unset, .unset, .unset] [(.int (0 : Int32))])) ?_ (fun t k => XS.iconst X0.here hx rfl (hb hby at_10) k)
      exact ⟨_, Steps.refl _, s₁, X0, e0, by simp only [if_pos c3_1]⟩
    · refine Gen.on (b := s₁.setTop (mkF m 6 #[.val (.int p1), .val (.int p2), .val (.int p3), .unset, .unset, .unset, .unset, .unset, .unset, .unset, .unset, .unset, .unset, .unset, .unset, .unset, .unset, .unset, .unset, .unset, .unset, .unset] [])) ?_ (fun t k => XS.ifNo X0.here hx rfl (hb hby at_3) rfl ((if0 _ _).trans (feq c3_1).1) k)
      refine Gen.on (b := s₁.setTop (mkF m 7 #[.val (.int p1), .val (.int p2), .val (.int p3), .unset, .unset, .unset, .unset, .unset, .unset, .unset, .unset, .unset, .unset, .unset, .unset, .unset, .unset, .unset, .unset, .unset, .unset, .unset] [(.int (1 : Int32))])) ?_ (fun t k => XS.iconst X0.here hx rfl (hb hby at_6) k)
      refine Gen.on (b := s₁.setTop (mkF m 11 #[.val (.int p1), .val (.int p2), .val (.int p3), .unset, .unset, .unset, .unset, .unset, .unset, .unset, .unset, .unset, .unset, .unset, .unset, .unset, .unset, .unset, .unset, .unset, .unset, .unset] [(.int (1 : Int32))])) ?_ (fun t k => XS.goto X0.here hx rfl (pc0 := 7) (pc' := 11) rfl (hb hby at_7) (by decide) (by decide) k)
      exact ⟨_, Steps.refl _, s₁, X0, e0, by simp only [if_neg c3_1]⟩
  refine Gen.on (b := T1.setTop (mkF m 11 #[.val (.int p1), .val (.int p2), .val (.int p3), .unset, .unset, .unset, .unset, .unset, .unset, .unset, .unset, .unset, .unset, .unset, .unset, .unset, .unset, .unset, .unset, .unset, .unset, .unset] [(.int (if (p3 &&& (1 : Int32)) = (0 : Int32) then (0 : Int32) else (1 : Int32)))])) ?_ (fun t k => st1.trans k)
  refine Gen.on (b := T1.setTop (mkF m 12 #[.val (.int p1), .val (.int p2), .val (.int p3), .val (.int (if (p3 &&& (1 : Int32)) = (0 : Int32) then (0 : Int32) else (1 : Int32))), .unset, .unset, .unset, .unset, .unset, .unset, .unset, .unset, .unset, .unset, .unset, .unset, .unset, .unset, .unset, .unset, .unset, .unset] [])) ?_ (fun t k => XS.istoreN X1.here hx rfl (hb hby at_11) rfl (l' := #[.val (.int p1), .val (.int p2), .val (.int p3), .val (.int (if (p3 &&& (1 : Int32)) = (0 : Int32) then (0 : Int32) else (1 : Int32))), .unset, .unset, .unset, .unset, .unset, .unset, .unset, .unset, .unset, .unset, .unset, .unset, .unset, .unset, .unset, .unset, .unset, .unset]) rfl k)
  obtain ⟨pp, h_pp⟩ : ∃ z, z = (if (p3 &&& (1 : Int32)) = (0 : Int32) then (0 : Int32) else (1 : Int32)) := ⟨_, rfl⟩
  rw [← h_pp]
  have k_pp := own_dl h_pp
  obtain ⟨_, st2, T2, X2, e2, rfl⟩ : Gen p e below (own_at X1 h0 (mkF m 23 #[.val (.int p1), .val (.int p2), .val (.int p3), .val (.int pp), .unset, .unset, .unset, .unset, .unset, .unset, .unset, .unset, .unset, .unset, .unset, .unset, .unset, .unset, .unset, .unset, .unset, .unset] [(.int (if (p3 &&& (2 : Int32)) = (0 : Int32) then (0 : Int32) else (1 : Int32)))])) (T1.setTop (mkF m 12 #[.val (.int p1), .val (.int p2), .val (.int p3), .val (.int pp), .unset, .unset, .unset, .unset, .unset, .unset, .unset, .unset, .unset, .unset, .unset, .unset, .unset, .unset, .unset, .unset, .unset, .unset] [])) := by
    refine Gen.on (b := T1.setTop (mkF m 13 #[.val (.int p1), .val (.int p2), .val (.int p3), .val (.int pp), .unset, .unset, .unset, .unset, .unset, .unset, .unset, .unset, .unset, .unset, .unset, .unset, .unset, .unset, .unset, .unset, .unset, .unset] [(.int p3)])) ?_ (fun t k => XS.iloadN X1.here hx rfl (hb hby at_12) rfl k)
    refine Gen.on (b := T1.setTop (mkF m 14 #[.val (.int p1), .val (.int p2), .val (.int p3), .val (.int pp), .unset, .unset, .unset, .unset, .unset, .unset, .unset, .unset, .unset, .unset, .unset, .unset, .unset, .unset, .unset, .unset, .unset, .unset] [(.int (2 : Int32)), (.int p3)])) ?_ (fun t k => XS.iconst X1.here hx rfl (hb hby at_13) k)
    refine Gen.on (b := T1.setTop (mkF m 15 #[.val (.int p1), .val (.int p2), .val (.int p3), .val (.int pp), .unset, .unset, .unset, .unset, .unset, .unset, .unset, .unset, .unset, .unset, .unset, .unset, .unset, .unset, .unset, .unset, .unset, .unset] [(.int (p3 &&& (2 : Int32)))])) ?_ (fun t k => XS.iand X1.here hx rfl (hb hby at_14) rfl k)
    by_cases c15_2 : (p3 &&& (2 : Int32)) = (0 : Int32)
    · refine Gen.on (b := T1.setTop (mkF m 22 #[.val (.int p1), .val (.int p2), .val (.int p3), .val (.int pp), .unset, .unset, .unset, .unset, .unset, .unset, .unset, .unset, .unset, .unset, .unset, .unset, .unset, .unset, .unset, .unset, .unset, .unset] [])) ?_ (fun t k => XS.ifYes X1.here hx rfl (pc0 := 15) (pc' := 22) rfl (hb hby at_15) rfl ((if0 _ _).trans (teq c15_2).1) (by decide) (by decide) k)
      refine Gen.on (b := T1.setTop (mkF m 23 #[.val (.int p1), .val (.int p2), .val (.int p3), .val (.int pp), .unset, .unset, .unset, .unset, .unset, .unset, .unset, .unset, .unset, .unset, .unset, .unset, .unset, .unset, .unset, .unset, .unset, .unset] [(.int (0 : Int32))])) ?_ (fun t k => XS.iconst X1.here hx rfl (hb hby at_22) k)
      exact ⟨_, Steps.refl _, T1, X1, e1, by simp only [if_pos c15_2]⟩
    · refine Gen.on (b := T1.setTop (mkF m 18 #[.val (.int p1), .val (.int p2), .val (.int p3), .val (.int pp), .unset, .unset, .unset, .unset, .unset, .unset, .unset, .unset, .unset, .unset, .unset, .unset, .unset, .unset, .unset, .unset, .unset, .unset] [])) ?_ (fun t k => XS.ifNo X1.here hx rfl (hb hby at_15) rfl ((if0 _ _).trans (feq c15_2).1) k)
      refine Gen.on (b := T1.setTop (mkF m 19 #[.val (.int p1), .val (.int p2), .val (.int p3), .val (.int pp), .unset, .unset, .unset, .unset, .unset, .unset, .unset, .unset, .unset, .unset, .unset, .unset, .unset, .unset, .unset, .unset, .unset, .unset] [(.int (1 : Int32))])) ?_ (fun t k => XS.iconst X1.here hx rfl (hb hby at_18) k)
      refine Gen.on (b := T1.setTop (mkF m 23 #[.val (.int p1), .val (.int p2), .val (.int p3), .val (.int pp), .unset, .unset, .unset, .unset, .unset, .unset, .unset, .unset, .unset, .unset, .unset, .unset, .unset, .unset, .unset, .unset, .unset, .unset] [(.int (1 : Int32))])) ?_ (fun t k => XS.goto X1.here hx rfl (pc0 := 19) (pc' := 23) rfl (hb hby at_19) (by decide) (by decide) k)
      exact ⟨_, Steps.refl _, T1, X1, e1, by simp only [if_neg c15_2]⟩
  refine Gen.on (b := T2.setTop (mkF m 23 #[.val (.int p1), .val (.int p2), .val (.int p3), .val (.int pp), .unset, .unset, .unset, .unset, .unset, .unset, .unset, .unset, .unset, .unset, .unset, .unset, .unset, .unset, .unset, .unset, .unset, .unset] [(.int (if (p3 &&& (2 : Int32)) = (0 : Int32) then (0 : Int32) else (1 : Int32)))])) ?_ (fun t k => st2.trans k)
  refine Gen.on (b := T2.setTop (mkF m 25 #[.val (.int p1), .val (.int p2), .val (.int p3), .val (.int pp), .val (.int (if (p3 &&& (2 : Int32)) = (0 : Int32) then (0 : Int32) else (1 : Int32))), .unset, .unset, .unset, .unset, .unset, .unset, .unset, .unset, .unset, .unset, .unset, .unset, .unset, .unset, .unset, .unset, .unset] [])) ?_ (fun t k => XS.istore X2.here hx rfl (hb hby at_23) rfl (l' := #[.val (.int p1), .val (.int p2), .val (.int p3), .val (.int pp), .val (.int (if (p3 &&& (2 : Int32)) = (0 : Int32) then (0 : Int32) else (1 : Int32))), .unset, .unset, .unset, .unset, .unset, .unset, .unset, .unset, .unset, .unset, .unset, .unset, .unset, .unset, .unset, .unset, .unset]) rfl k)
  obtain ⟨nsx, h_nsx⟩ : ∃ z, z = (if (p3 &&& (2 : Int32)) = (0 : Int32) then (0 : Int32) else (1 : Int32)) := ⟨_, rfl⟩
  rw [← h_nsx]
  refine Gen.on (b := T2.setTop (mkF m 26 #[.val (.int p1), .val (.int p2), .val (.int p3), .val (.int pp), .val (.int nsx), .unset, .unset, .unset, .unset, .unset, .unset, .unset, .unset, .unset, .unset, .unset, .unset, .unset, .unset, .unset, .unset, .unset] [(.int p1)])) ?_ (fun t k => XS.iloadN X2.here hx rfl (hb hby at_25) rfl k)
  refine Gen.on (b := T2.setTop (mkF m 29 #[.val (.int p1), .val (.int p2), .val (.int p3), .val (.int pp), .val (.int nsx), .unset, .unset, .unset, .unset, .unset, .unset, .unset, .unset, .unset, .unset, .unset, .unset, .unset, .unset, .unset, .unset, .unset] [(.int (255 : Int32)), (.int p1)])) ?_ (fun t k => XS.sipush X2.here hx rfl (hb hby at_26) k)
  refine Gen.on (b := T2.setTop (mkF m 30 #[.val (.int p1), .val (.int p2), .val (.int p3), .val (.int pp), .val (.int nsx), .unset, .unset, .unset, .unset, .unset, .unset, .unset, .unset, .unset, .unset, .unset, .unset, .unset, .unset, .unset, .unset, .unset] [(.int (p1 &&& (255 : Int32)))])) ?_ (fun t k => XS.iand X2.here hx rfl (hb hby at_29) rfl k)
  refine Gen.on (b := T2.setTop (mkF m 31 #[.val (.int p1), .val (.int p2), .val (.int p3), .val (.int pp), .val (.int nsx), .unset, .unset, .unset, .unset, .unset, .unset, .unset, .unset, .unset, .unset, .unset, .unset, .unset, .unset, .unset, .unset, .unset] [(.int (p1 &&& (255 : Int32)).toUInt32.toUInt16.toUInt32.toInt32)])) ?_ (fun t k => XS.i2c X2.here hx rfl (hb hby at_30) rfl k)
  refine Gen.on (b := T2.setTop (mkF m 33 #[.val (.int p1), .val (.int p2), .val (.int p3), .val (.int pp), .val (.int nsx), .val (.int (p1 &&& (255 : Int32)).toUInt32.toUInt16.toUInt32.toInt32), .unset, .unset, .unset, .unset, .unset, .unset, .unset, .unset, .unset, .unset, .unset, .unset, .unset, .unset, .unset, .unset] [])) ?_ (fun t k => XS.istore X2.here hx rfl (hb hby at_31) rfl (l' := #[.val (.int p1), .val (.int p2), .val (.int p3), .val (.int pp), .val (.int nsx), .val (.int (p1 &&& (255 : Int32)).toUInt32.toUInt16.toUInt32.toInt32), .unset, .unset, .unset, .unset, .unset, .unset, .unset, .unset, .unset, .unset, .unset, .unset, .unset, .unset, .unset, .unset]) rfl k)
  obtain ⟨c0, h_c0⟩ : ∃ z, z = (p1 &&& (255 : Int32)).toUInt32.toUInt16.toUInt32.toInt32 := ⟨_, rfl⟩
  rw [← h_c0]
  have k_c0 := own_c8m _ h_c0
  refine Gen.on (b := T2.setTop (mkF m 34 #[.val (.int p1), .val (.int p2), .val (.int p3), .val (.int pp), .val (.int nsx), .val (.int c0), .unset, .unset, .unset, .unset, .unset, .unset, .unset, .unset, .unset, .unset, .unset, .unset, .unset, .unset, .unset, .unset] [(.int p1)])) ?_ (fun t k => XS.iloadN X2.here hx rfl (hb hby at_33) rfl k)
  refine Gen.on (b := T2.setTop (mkF m 36 #[.val (.int p1), .val (.int p2), .val (.int p3), .val (.int pp), .val (.int nsx), .val (.int c0), .unset, .unset, .unset, .unset, .unset, .unset, .unset, .unset, .unset, .unset, .unset, .unset, .unset, .unset, .unset, .unset] [(.int (8 : Int32)), (.int p1)])) ?_ (fun t k => XS.bipush X2.here hx rfl (hb hby at_34) k)
  refine Gen.on (b := T2.setTop (mkF m 37 #[.val (.int p1), .val (.int p2), .val (.int p3), .val (.int pp), .val (.int nsx), .val (.int c0), .unset, .unset, .unset, .unset, .unset, .unset, .unset, .unset, .unset, .unset, .unset, .unset, .unset, .unset, .unset, .unset] [(.int ((p1.toUInt32 >>> ((8 : Int32) &&& 31).toUInt32).toInt32))])) ?_ (fun t k => XS.iushr X2.here hx rfl (hb hby at_36) rfl k)
  refine Gen.on (b := T2.setTop (mkF m 40 #[.val (.int p1), .val (.int p2), .val (.int p3), .val (.int pp), .val (.int nsx), .val (.int c0), .unset, .unset, .unset, .unset, .unset, .unset, .unset, .unset, .unset, .unset, .unset, .unset, .unset, .unset, .unset, .unset] [(.int (255 : Int32)), (.int ((p1.toUInt32 >>> ((8 : Int32) &&& 31).toUInt32).toInt32))])) ?_ (fun t k => XS.sipush X2.here hx rfl (hb hby at_37) k)
  refine Gen.on (b := T2.setTop (mkF m 41 #[.val (.int p1), .val (.int p2), .val (.int p3), .val (.int pp), .val (.int nsx), .val (.int c0), .unset, .unset, .unset, .unset, .unset, .unset, .unset, .unset, .unset, .unset, .unset, .unset, .unset, .unset, .unset, .unset] [(.int (((p1.toUInt32 >>> ((8 : Int32) &&& 31).toUInt32).toInt32) &&& (255 : Int32)))])) ?_ (fun t k => XS.iand X2.here hx rfl (hb hby at_40) rfl k)
  refine Gen.on (b := T2.setTop (mkF m 42 #[.val (.int p1), .val (.int p2), .val (.int p3), .val (.int pp), .val (.int nsx), .val (.int c0), .unset, .unset, .unset, .unset, .unset, .unset, .unset, .unset, .unset, .unset, .unset, .unset, .unset, .unset, .unset, .unset] [(.int (((p1.toUInt32 >>> ((8 : Int32) &&& 31).toUInt32).toInt32) &&& (255 : Int32)).toUInt32.toUInt16.toUInt32.toInt32)])) ?_ (fun t k => XS.i2c X2.here hx rfl (hb hby at_41) rfl k)
  refine Gen.on (b := T2.setTop (mkF m 44 #[.val (.int p1), .val (.int p2), .val (.int p3), .val (.int pp), .val (.int nsx), .val (.int c0), .val (.int (((p1.toUInt32 >>> ((8 : Int32) &&& 31).toUInt32).toInt32) &&& (255 : Int32)).toUInt32.toUInt16.toUInt32.toInt32), .unset, .unset, .unset, .unset, .unset, .unset, .unset, .unset, .unset, .unset, .unset, .unset, .unset, .unset, .unset] [])) ?_ (fun t k => XS.istore X2.here hx rfl (hb hby at_42) rfl (l' := #[.val (.int p1), .val (.int p2), .val (.int p3), .val (.int pp), .val (.int nsx), .val (.int c0), .val (.int (((p1.toUInt32 >>> ((8 : Int32) &&& 31).toUInt32).toInt32) &&& (255 : Int32)).toUInt32.toUInt16.toUInt32.toInt32), .unset, .unset, .unset, .unset, .unset, .unset, .unset, .unset, .unset, .unset, .unset, .unset, .unset, .unset, .unset]) rfl k)
  obtain ⟨c1, h_c1⟩ : ∃ z, z = (((p1.toUInt32 >>> ((8 : Int32) &&& 31).toUInt32).toInt32) &&& (255 : Int32)).toUInt32.toUInt16.toUInt32.toInt32 := ⟨_, rfl⟩
  rw [← h_c1]
  have k_c1 := own_c8m _ h_c1
  refine Gen.on (b := T2.setTop (mkF m 45 #[.val (.int p1), .val (.int p2), .val (.int p3), .val (.int pp), .val (.int nsx), .val (.int c0), .val (.int c1), .unset, .unset, .unset, .unset, .unset, .unset, .unset, .unset, .unset, .unset, .unset, .unset, .unset, .unset, .unset] [(.int p2)])) ?_ (fun t k => XS.iloadN X2.here hx rfl (hb hby at_44) rfl k)
  refine Gen.on (b := T2.setTop (mkF m 48 #[.val (.int p1), .val (.int p2), .val (.int p3), .val (.int pp), .val (.int nsx), .val (.int c0), .val (.int c1), .unset, .unset, .unset, .unset, .unset, .unset, .unset, .unset, .unset, .unset, .unset, .unset, .unset, .unset, .unset] [(.int (255 : Int32)), (.int p2)])) ?_ (fun t k => XS.sipush X2.here hx rfl (hb hby at_45) k)
  refine Gen.on (b := T2.setTop (mkF m 49 #[.val (.int p1), .val (.int p2), .val (.int p3), .val (.int pp), .val (.int nsx), .val (.int c0), .val (.int c1), .unset, .unset, .unset, .unset, .unset, .unset, .unset, .unset, .unset, .unset, .unset, .unset, .unset, .unset, .unset] [(.int (p2 &&& (255 : Int32)))])) ?_ (fun t k => XS.iand X2.here hx rfl (hb hby at_48) rfl k)
  refine Gen.on (b := T2.setTop (mkF m 50 #[.val (.int p1), .val (.int p2), .val (.int p3), .val (.int pp), .val (.int nsx), .val (.int c0), .val (.int c1), .unset, .unset, .unset, .unset, .unset, .unset, .unset, .unset, .unset, .unset, .unset, .unset, .unset, .unset, .unset] [(.int (p2 &&& (255 : Int32)).toUInt32.toUInt16.toUInt32.toInt32)])) ?_ (fun t k => XS.i2c X2.here hx rfl (hb hby at_49) rfl k)
  refine Gen.on (b := T2.setTop (mkF m 52 #[.val (.int p1), .val (.int p2), .val (.int p3), .val (.int pp), .val (.int nsx), .val (.int c0), .val (.int c1), .val (.int (p2 &&& (255 : Int32)).toUInt32.toUInt16.toUInt32.toInt32), .unset, .unset, .unset, .unset, .unset, .unset, .unset, .unset, .unset, .unset, .unset, .unset, .unset, .unset] [])) ?_ (fun t k => XS.istore X2.here hx rfl (hb hby at_50) rfl (l' := #[.val (.int p1), .val (.int p2), .val (.int p3), .val (.int pp), .val (.int nsx), .val (.int c0), .val (.int c1), .val (.int (p2 &&& (255 : Int32)).toUInt32.toUInt16.toUInt32.toInt32), .unset, .unset, .unset, .unset, .unset, .unset, .unset, .unset, .unset, .unset, .unset, .unset, .unset, .unset]) rfl k)
  obtain ⟨e0, h_e0⟩ : ∃ z, z = (p2 &&& (255 : Int32)).toUInt32.toUInt16.toUInt32.toInt32 := ⟨_, rfl⟩
  rw [← h_e0]
  have k_e0 := own_c8m _ h_e0
  refine Gen.on (b := T2.setTop (mkF m 53 #[.val (.int p1), .val (.int p2), .val (.int p3), .val (.int pp), .val (.int nsx), .val (.int c0), .val (.int c1), .val (.int e0), .unset, .unset, .unset, .unset, .unset, .unset, .unset, .unset, .unset, .unset, .unset, .unset, .unset, .unset] [(.int p2)])) ?_ (fun t k => XS.iloadN X2.here hx rfl (hb hby at_52) rfl k)
  refine Gen.on (b := T2.setTop (mkF m 55 #[.val (.int p1), .val (.int p2), .val (.int p3), .val (.int pp), .val (.int nsx), .val (.int c0), .val (.int c1), .val (.int e0), .unset, .unset, .unset, .unset, .unset, .unset, .unset, .unset, .unset, .unset, .unset, .unset, .unset, .unset] [(.int (8 : Int32)), (.int p2)])) ?_ (fun t k => XS.bipush X2.here hx rfl (hb hby at_53) k)
  refine Gen.on (b := T2.setTop (mkF m 56 #[.val (.int p1), .val (.int p2), .val (.int p3), .val (.int pp), .val (.int nsx), .val (.int c0), .val (.int c1), .val (.int e0), .unset, .unset, .unset, .unset, .unset, .unset, .unset, .unset, .unset, .unset, .unset, .unset, .unset, .unset] [(.int ((p2.toUInt32 >>> ((8 : Int32) &&& 31).toUInt32).toInt32))])) ?_ (fun t k => XS.iushr X2.here hx rfl (hb hby at_55) rfl k)
  refine Gen.on (b := T2.setTop (mkF m 59 #[.val (.int p1), .val (.int p2), .val (.int p3), .val (.int pp), .val (.int nsx), .val (.int c0), .val (.int c1), .val (.int e0), .unset, .unset, .unset, .unset, .unset, .unset, .unset, .unset, .unset, .unset, .unset, .unset, .unset, .unset] [(.int (255 : Int32)), (.int ((p2.toUInt32 >>> ((8 : Int32) &&& 31).toUInt32).toInt32))])) ?_ (fun t k => XS.sipush X2.here hx rfl (hb hby at_56) k)
  refine Gen.on (b := T2.setTop (mkF m 60 #[.val (.int p1), .val (.int p2), .val (.int p3), .val (.int pp), .val (.int nsx), .val (.int c0), .val (.int c1), .val (.int e0), .unset, .unset, .unset, .unset, .unset, .unset, .unset, .unset, .unset, .unset, .unset, .unset, .unset, .unset] [(.int (((p2.toUInt32 >>> ((8 : Int32) &&& 31).toUInt32).toInt32) &&& (255 : Int32)))])) ?_ (fun t k => XS.iand X2.here hx rfl (hb hby at_59) rfl k)
  refine Gen.on (b := T2.setTop (mkF m 61 #[.val (.int p1), .val (.int p2), .val (.int p3), .val (.int pp), .val (.int nsx), .val (.int c0), .val (.int c1), .val (.int e0), .unset, .unset, .unset, .unset, .unset, .unset, .unset, .unset, .unset, .unset, .unset, .unset, .unset, .unset] [(.int (((p2.toUInt32 >>> ((8 : Int32) &&& 31).toUInt32).toInt32) &&& (255 : Int32)).toUInt32.toUInt16.toUInt32.toInt32)])) ?_ (fun t k => XS.i2c X2.here hx rfl (hb hby at_60) rfl k)
  refine Gen.on (b := T2.setTop (mkF m 63 #[.val (.int p1), .val (.int p2), .val (.int p3), .val (.int pp), .val (.int nsx), .val (.int c0), .val (.int c1), .val (.int e0), .val (.int (((p2.toUInt32 >>> ((8 : Int32) &&& 31).toUInt32).toInt32) &&& (255 : Int32)).toUInt32.toUInt16.toUInt32.toInt32), .unset, .unset, .unset, .unset, .unset, .unset, .unset, .unset, .unset, .unset, .unset, .unset, .unset] [])) ?_ (fun t k => XS.istore X2.here hx rfl (hb hby at_61) rfl (l' := #[.val (.int p1), .val (.int p2), .val (.int p3), .val (.int pp), .val (.int nsx), .val (.int c0), .val (.int c1), .val (.int e0), .val (.int (((p2.toUInt32 >>> ((8 : Int32) &&& 31).toUInt32).toInt32) &&& (255 : Int32)).toUInt32.toUInt16.toUInt32.toInt32), .unset, .unset, .unset, .unset, .unset, .unset, .unset, .unset, .unset, .unset, .unset, .unset, .unset]) rfl k)
  obtain ⟨e1, h_e1⟩ : ∃ z, z = (((p2.toUInt32 >>> ((8 : Int32) &&& 31).toUInt32).toInt32) &&& (255 : Int32)).toUInt32.toUInt16.toUInt32.toInt32 := ⟨_, rfl⟩
  rw [← h_e1]
  have k_e1 := own_c8m _ h_e1
  refine Gen.on (b := T2.setTop (mkF m 64 #[.val (.int p1), .val (.int p2), .val (.int p3), .val (.int pp), .val (.int nsx), .val (.int c0), .val (.int c1), .val (.int e0), .val (.int e1), .unset, .unset, .unset, .unset, .unset, .unset, .unset, .unset, .unset, .unset, .unset, .unset, .unset] [(.int (2 : Int32))])) ?_ (fun t k => XS.iconst X2.here hx rfl (hb hby at_63) k)
  obtain ⟨b3, g3⟩ : ∃ z, z = h0.size := ⟨_, rfl⟩
  have g_b3 : n0 ≤ b3 := Nat.le_trans Z0 (Nat.le_of_eq g3.symm)
  obtain ⟨T3, h3, k3, X3, e3, E3, A3, EX3, st3⟩ := newPE X2 hx hZ (hw _ (List.mem_of_getElem? (i := 0) rfl)) e2 (g := (mkF m 64 #[.val (.int p1), .val (.int p2), .val (.int p3), .val (.int pp), .val (.int nsx), .val (.int c0), .val (.int c1), .val (.int e0), .val (.int e1), .unset, .unset, .unset, .unset, .unset, .unset, .unset, .unset, .unset, .unset, .unset, .unset, .unset] [(.int (2 : Int32))])) rfl (hb hby at_64) rfl (by decide) (cap := 2) (by decide) (by decide) (by decide) (by decide) (ad := "[C") (by decide)
  rw [← g3] at A3 EX3 st3
  have CH4 := CHr.trans CH0 (CHr.ext E3 CH0.1)
  have hk4 := Nat.le_trans hk0 E3.1
  have Z3 : n0 ≤ h3.size := Nat.le_trans Z0 E3.1
  have V3 : Afn Z h3 b3 .char (2 : Int32) (fun _ => 0) := Afn.new A3 (by decide) rfl
  refine Gen.on (b := T3.setTop (mkF m 66 #[.val (.int p1), .val (.int p2), .val (.int p3), .val (.int pp), .val (.int nsx), .val (.int c0), .val (.int c1), .val (.int e0), .val (.int e1), .unset, .unset, .unset, .unset, .unset, .unset, .unset, .unset, .unset, .unset, .unset, .unset, .unset] [(.ref b3)])) ?_ (fun t k => st3 t k)
  refine Gen.on (b := T3.setTop (mkF m 67 #[.val (.int p1), .val (.int p2), .val (.int p3), .val (.int pp), .val (.int nsx), .val (.int c0), .val (.int c1), .val (.int e0), .val (.int e1), .unset, .unset, .unset, .unset, .unset, .unset, .unset, .unset, .unset, .unset, .unset, .unset, .unset] [(.ref b3), (.ref b3)])) ?_ (fun t k => XS.dup X3.here hx rfl (hb hby at_66) rfl rfl k)
  refine Gen.on (b := T3.setTop (mkF m 68 #[.val (.int p1), .val (.int p2), .val (.int p3), .val (.int pp), .val (.int nsx), .val (.int c0), .val (.int c1), .val (.int e0), .val (.int e1), .unset, .unset, .unset, .unset, .unset, .unset, .unset, .unset, .unset, .unset, .unset, .unset, .unset] [(.int (0 : Int32)), (.ref b3), (.ref b3)])) ?_ (fun t k => XS.iconst X3.here hx rfl (hb hby at_67) k)
  refine Gen.on (b := T3.setTop (mkF m 70 #[.val (.int p1), .val (.int p2), .val (.int p3), .val (.int pp), .val (.int nsx), .val (.int c0), .val (.int c1), .val (.int e0), .val (.int e1), .unset, .unset, .unset, .unset, .unset, .unset, .unset, .unset, .unset, .unset, .unset, .unset, .unset] [(.int e0), (.int (0 : Int32)), (.ref b3), (.ref b3)])) ?_ (fun t k => XS.iload X3.here hx rfl (hb hby at_68) rfl k)
  obtain ⟨cl5, Ar5, SA5, NA5, HA5⟩ := id V3
  have hin5 : ¬ ((0 : Int32) < 0 ∨ cl5.slots.size ≤ ((0 : Int32)).toNatClampNeg) := inb_of SA5 ⟨(by decide), (by decide)⟩
  obtain ⟨T5, h5, X5, e5, W5, st5⟩ := stC X3 hx hZ e3 Ar5 (j := (0 : Int32)) hin5 (g := (mkF m 70 #[.val (.int p1), .val (.int p2), .val (.int p3), .val (.int pp), .val (.int nsx), .val (.int c0), .val (.int c1), .val (.int e0), .val (.int e1), .unset, .unset, .unset, .unset, .unset, .unset, .unset, .unset, .unset, .unset, .unset, .unset, .unset] [(.int e0), (.int (0 : Int32)), (.ref b3), (.ref b3)])) rfl rfl (hb hby at_70)
  have Y5 := Afn.put Ar5 SA5 NA5 HA5 W5 (by decide)
  have CH6 := CHr.trans CH4 (CHr.wr W5 (Safe.exa hZ.alike EX3 (by decide) (by decide)) CH4.1)
  have hk6 := Nat.le_trans hk4 (Keep.of_wr W5).1
  have Z5 : n0 ≤ h5.size := Nat.le_trans Z3 (Keep.of_wr W5).1
  have N5 := Fr.snoc X5 N0 g_b3
  refine Gen.on (b := T5.setTop (mkF m 71 #[.val (.int p1), .val (.int p2), .val (.int p3), .val (.int pp), .val (.int nsx), .val (.int c0), .val (.int c1), .val (.int e0), .val (.int e1), .unset, .unset, .unset, .unset, .unset, .unset, .unset, .unset, .unset, .unset, .unset, .unset, .unset] [(.ref b3)])) ?_ (fun t k => st5 t k)
  refine Gen.on (b := T5.setTop (mkF m 72 #[.val (.int p1), .val (.int p2), .val (.int p3), .val (.int pp), .val (.int nsx), .val (.int c0), .val (.int c1), .val (.int e0), .val (.int e1), .unset, .unset, .unset, .unset, .unset, .unset, .unset, .unset, .unset, .unset, .unset, .unset, .unset] [(.ref b3), (.ref b3)])) ?_ (fun t k => XS.dup X5.here hx rfl (hb hby at_71) rfl rfl k)
  refine Gen.on (b := T5.setTop (mkF m 73 #[.val (.int p1), .val (.int p2), .val (.int p3), .val (.int pp), .val (.int nsx), .val (.int c0), .val (.int c1), .val (.int e0), .val (.int e1), .unset, .unset, .unset, .unset, .unset, .unset, .unset, .unset, .unset, .unset, .unset, .unset, .unset] [(.int (1 : Int32)), (.ref b3), (.ref b3)])) ?_ (fun t k => XS.iconst X5.here hx rfl (hb hby at_72) k)
  refine Gen.on (b := T5.setTop (mkF m 75 #[.val (.int p1), .val (.int p2), .val (.int p3), .val (.int pp), .val (.int nsx), .val (.int c0), .val (.int c1), .val (.int e0), .val (.int e1), .unset, .unset, .unset, .unset, .unset, .unset, .unset, .unset, .unset, .unset, .unset, .unset, .unset] [(.int e1), (.int (1 : Int32)), (.ref b3), (.ref b3)])) ?_ (fun t k => XS.iload X5.here hx rfl (hb hby at_73) rfl k)
  obtain ⟨cl7, Ar7, SA7, NA7, HA7⟩ := id Y5
  have hin7 : ¬ ((1 : Int32) < 0 ∨ cl7.slots.size ≤ ((1 : Int32)).toNatClampNeg) := inb_of SA7 ⟨(by decide), (by decide)⟩
  obtain ⟨T7, h7, X7, e7, W7, st7⟩ := stC X5 hx hZ e5 Ar7 (j := (1 : Int32)) hin7 (g := (mkF m 75 #[.val (.int p1), .val (.int p2), .val (.int p3), .val (.int pp), .val (.int nsx), .val (.int c0), .val (.int c1), .val (.int e0), .val (.int e1), .unset, .unset, .unset, .unset, .unset, .unset, .unset, .unset, .unset, .unset, .unset, .unset, .unset] [(.int e1), (.int (1 : Int32)), (.ref b3), (.ref b3)])) rfl rfl (hb hby at_75)
  have Y7 := Afn.put Ar7 SA7 NA7 HA7 W7 (by decide)
  have fa9 := (EX3.wr W5)
  have CH8 := CHr.trans CH6 (CHr.wr W7 (Safe.exa hZ.alike fa9 (by decide) (by decide)) CH6.1)
  have hk8 := Nat.le_trans hk6 (Keep.of_wr W7).1
  have Z7 : n0 ≤ h7.size := Nat.le_trans Z5 (Keep.of_wr W7).1
  have N7 := Fr.snoc X7 N5 g_b3
  refine Gen.on (b := T7.setTop (mkF m 76 #[.val (.int p1), .val (.int p2), .val (.int p3), .val (.int pp), .val (.int nsx), .val (.int c0), .val (.int c1), .val (.int e0), .val (.int e1), .unset, .unset, .unset, .unset, .unset, .unset, .unset, .unset, .unset, .unset, .unset, .unset, .unset] [(.ref b3)])) ?_ (fun t k => st7 t k)
  refine Gen.on (b := T7.setTop (mkF m 78 #[.val (.int p1), .val (.int p2), .val (.int p3), .val (.int pp), .val (.int nsx), .val (.int c0), .val (.int c1), .val (.int e0), .val (.int e1), .val (.ref b3), .unset, .unset, .unset, .unset, .unset, .unset, .unset, .unset, .unset, .unset, .unset, .unset] [])) ?_ (fun t k => XS.astore X7.here hx rfl (hb hby at_76) rfl rfl (l' := #[.val (.int p1), .val (.int p2), .val (.int p3), .val (.int pp), .val (.int nsx), .val (.int c0), .val (.int c1), .val (.int e0), .val (.int e1), .val (.ref b3), .unset, .unset, .unset, .unset, .unset, .unset, .unset, .unset, .unset, .unset, .unset, .unset]) rfl k)
  refine Gen.on (b := T7.setTop (mkF m 79 #[.val (.int p1), .val (.int p2), .val (.int p3), .val (.int pp), .val (.int nsx), .val (.int c0), .val (.int c1), .val (.int e0), .val (.int e1), .val (.ref b3), .unset, .unset, .unset, .unset, .unset, .unset, .unset, .unset, .unset, .unset, .unset, .unset] [(.int (2 : Int32))])) ?_ (fun t k => XS.iconst X7.here hx rfl (hb hby at_78) k)
  obtain ⟨b10, g10⟩ : ∃ z, z = h7.size := ⟨_, rfl⟩
  have ne_b3_b10 : b3 ≠ b10 := Nat.ne_of_lt (Nat.lt_of_lt_of_le Y7.lt (Nat.le_of_eq g10.symm))
  have g_b10 : n0 ≤ b10 := Nat.le_trans Z7 (Nat.le_of_eq g10.symm)
  obtain ⟨T10, h10, k10, X10, e10, E10, A10, EX10, st10⟩ := newPE X7 hx hZ (hw _ (List.mem_of_getElem? (i := 0) rfl)) e7 (g := (mkF m 79 #[.val (.int p1), .val (.int p2), .val (.int p3), .val (.int pp), .val (.int nsx), .val (.int c0), .val (.int c1), .val (.int e0), .val (.int e1), .val (.ref b3), .unset, .unset, .unset, .unset, .unset, .unset, .unset, .unset, .unset, .unset, .unset, .unset] [(.int (2 : Int32))])) rfl (hb hby at_79) rfl (by decide) (cap := 2) (by decide) (by decide) (by decide) (by decide) (ad := "[C") (by decide)
  rw [← g10] at A10 EX10 st10
  have CH11 := CHr.trans CH8 (CHr.ext E10 CH8.1)
  have hk11 := Nat.le_trans hk8 E10.1
  have Z10 : n0 ≤ h10.size := Nat.le_trans Z7 E10.1
  have V10 : Afn Z h10 b10 .char (2 : Int32) (fun _ => 0) := Afn.new A10 (by decide) rfl
  refine Gen.on (b := T10.setTop (mkF m 81 #[.val (.int p1), .val (.int p2), .val (.int p3), .val (.int pp), .val (.int nsx), .val (.int c0), .val (.int c1), .val (.int e0), .val (.int e1), .val (.ref b3), .unset, .unset, .unset, .unset, .unset, .unset, .unset, .unset, .unset, .unset, .unset, .unset] [(.ref b10)])) ?_ (fun t k => st10 t k)
  refine Gen.on (b := T10.setTop (mkF m 82 #[.val (.int p1), .val (.int p2), .val (.int p3), .val (.int pp), .val (.int nsx), .val (.int c0), .val (.int c1), .val (.int e0), .val (.int e1), .val (.ref b3), .unset, .unset, .unset, .unset, .unset, .unset, .unset, .unset, .unset, .unset, .unset, .unset] [(.ref b10), (.ref b10)])) ?_ (fun t k => XS.dup X10.here hx rfl (hb hby at_81) rfl rfl k)
  refine Gen.on (b := T10.setTop (mkF m 83 #[.val (.int p1), .val (.int p2), .val (.int p3), .val (.int pp), .val (.int nsx), .val (.int c0), .val (.int c1), .val (.int e0), .val (.int e1), .val (.ref b3), .unset, .unset, .unset, .unset, .unset, .unset, .unset, .unset, .unset, .unset, .unset, .unset] [(.int (0 : Int32)), (.ref b10), (.ref b10)])) ?_ (fun t k => XS.iconst X10.here hx rfl (hb hby at_82) k)
  refine Gen.on (b := T10.setTop (mkF m 85 #[.val (.int p1), .val (.int p2), .val (.int p3), .val (.int pp), .val (.int nsx), .val (.int c0), .val (.int c1), .val (.int e0), .val (.int e1), .val (.ref b3), .unset, .unset, .unset, .unset, .unset, .unset, .unset, .unset, .unset, .unset, .unset, .unset] [(.int c0), (.int (0 : Int32)), (.ref b10), (.ref b10)])) ?_ (fun t k => XS.iload X10.here hx rfl (hb hby at_83) rfl k)
  obtain ⟨cl12, Ar12, SA12, NA12, HA12⟩ := id V10
  have hin12 : ¬ ((0 : Int32) < 0 ∨ cl12.slots.size ≤ ((0 : Int32)).toNatClampNeg) := inb_of SA12 ⟨(by decide), (by decide)⟩
  obtain ⟨T12, h12, X12, e12, W12, st12⟩ := stC X10 hx hZ e10 Ar12 (j := (0 : Int32)) hin12 (g := (mkF m 85 #[.val (.int p1), .val (.int p2), .val (.int p3), .val (.int pp), .val (.int nsx), .val (.int c0), .val (.int c1), .val (.int e0), .val (.int e1), .val (.ref b3), .unset, .unset, .unset, .unset, .unset, .unset, .unset, .unset, .unset, .unset, .unset, .unset] [(.int c0), (.int (0 : Int32)), (.ref b10), (.ref b10)])) rfl rfl (hb hby at_85)
  have Y12 := Afn.put Ar12 SA12 NA12 HA12 W12 (by decide)
  have CH13 := CHr.trans CH11 (CHr.wr W12 (Safe.exa hZ.alike EX10 (by decide) (by decide)) CH11.1)
  have hk13 := Nat.le_trans hk11 (Keep.of_wr W12).1
  have Z12 : n0 ≤ h12.size := Nat.le_trans Z10 (Keep.of_wr W12).1
  have N12 := Fr.snoc X12 N7 g_b10
  refine Gen.on (b := T12.setTop (mkF m 86 #[.val (.int p1), .val (.int p2), .val (.int p3), .val (.int pp), .val (.int nsx), .val (.int c0), .val (.int c1), .val (.int e0), .val (.int e1), .val (.ref b3), .unset, .unset, .unset, .unset, .unset, .unset, .unset, .unset, .unset, .unset, .unset, .unset] [(.ref b10)])) ?_ (fun t k => st12 t k)
  refine Gen.on (b := T12.setTop (mkF m 87 #[.val (.int p1), .val (.int p2), .val (.int p3), .val (.int pp), .val (.int nsx), .val (.int c0), .val (.int c1), .val (.int e0), .val (.int e1), .val (.ref b3), .unset, .unset, .unset, .unset, .unset, .unset, .unset, .unset, .unset, .unset, .unset, .unset] [(.ref b10), (.ref b10)])) ?_ (fun t k => XS.dup X12.here hx rfl (hb hby at_86) rfl rfl k)
  refine Gen.on (b := T12.setTop (mkF m 88 #[.val (.int p1), .val (.int p2), .val (.int p3), .val (.int pp), .val (.int nsx), .val (.int c0), .val (.int c1), .val (.int e0), .val (.int e1), .val (.ref b3), .unset, .unset, .unset, .unset, .unset, .unset, .unset, .unset, .unset, .unset, .unset, .unset] [(.int (1 : Int32)), (.ref b10), (.ref b10)])) ?_ (fun t k => XS.iconst X12.here hx rfl (hb hby at_87) k)
  refine Gen.on (b := T12.setTop (mkF m 90 #[.val (.int p1), .val (.int p2), .val (.int p3), .val (.int pp), .val (.int nsx), .val (.int c0), .val (.int c1), .val (.int e0), .val (.int e1), .val (.ref b3), .unset, .unset, .unset, .unset, .unset, .unset, .unset, .unset, .unset, .unset, .unset, .unset] [(.int c1), (.int (1 : Int32)), (.ref b10), (.ref b10)])) ?_ (fun t k => XS.iload X12.here hx rfl (hb hby at_88) rfl k)
  obtain ⟨cl14, Ar14, SA14, NA14, HA14⟩ := id Y12
  have hin14 : ¬ ((1 : Int32) < 0 ∨ cl14.slots.size ≤ ((1 : Int32)).toNatClampNeg) := inb_of SA14 ⟨(by decide), (by decide)⟩
  obtain ⟨T14, h14, X14, e14, W14, st14⟩ := stC X12 hx hZ e12 Ar14 (j := (1 : Int32)) hin14 (g := (mkF m 90 #[.val (.int p1), .val (.int p2), .val (.int p3), .val (.int pp), .val (.int nsx), .val (.int c0), .val (.int c1), .val (.int e0), .val (.int e1), .val (.ref b3), .unset, .unset, .unset, .unset, .unset, .unset, .unset, .unset, .unset, .unset, .unset, .unset] [(.int c1), (.int (1 : Int32)), (.ref b10), (.ref b10)])) rfl rfl (hb hby at_90)
  have Y14 := Afn.put Ar14 SA14 NA14 HA14 W14 (by decide)
  have fa16 := (EX10.wr W12)
  have CH15 := CHr.trans CH13 (CHr.wr W14 (Safe.exa hZ.alike fa16 (by decide) (by decide)) CH13.1)
  have hk15 := Nat.le_trans hk13 (Keep.of_wr W14).1
  have Z14 : n0 ≤ h14.size := Nat.le_trans Z12 (Keep.of_wr W14).1
  have N14 := Fr.snoc X14 N12 g_b10
  refine Gen.on (b := T14.setTop (mkF m 91 #[.val (.int p1), .val (.int p2), .val (.int p3), .val (.int pp), .val (.int nsx), .val (.int c0), .val (.int c1), .val (.int e0), .val (.int e1), .val (.ref b3), .unset, .unset, .unset, .unset, .unset, .unset, .unset, .unset, .unset, .unset, .unset, .unset] [(.ref b10)])) ?_ (fun t k => st14 t k)
  refine Gen.on (b := T14.setTop (mkF m 93 #[.val (.int p1), .val (.int p2), .val (.int p3), .val (.int pp), .val (.int nsx), .val (.int c0), .val (.int c1), .val (.int e0), .val (.int e1), .val (.ref b3), .val (.ref b10), .unset, .unset, .unset, .unset, .unset, .unset, .unset, .unset, .unset, .unset, .unset] [])) ?_ (fun t k => XS.astore X14.here hx rfl (hb hby at_91) rfl rfl (l' := #[.val (.int p1), .val (.int p2), .val (.int p3), .val (.int pp), .val (.int nsx), .val (.int c0), .val (.int c1), .val (.int e0), .val (.int e1), .val (.ref b3), .val (.ref b10), .unset, .unset, .unset, .unset, .unset, .unset, .unset, .unset, .unset, .unset, .unset]) rfl k)
  have Yc17 := Afn.congr Y14 (own_y2 k_c0.1 k_c1.1)
  have fa19 := (((Y7.ext E10).other W12 ne_b3_b10).other W14 ne_b3_b10)
  obtain ⟨b18, g18⟩ : ∃ z, z = h14.size := ⟨_, rfl⟩
  have ne_b3_b18 : b3 ≠ b18 := Nat.ne_of_lt (Nat.lt_of_lt_of_le fa19.lt (Nat.le_of_eq g18.symm))
  have ne_b10_b18 : b10 ≠ b18 := Nat.ne_of_lt (Nat.lt_of_lt_of_le Yc17.lt (Nat.le_of_eq g18.symm))
  have g_b18 : n0 ≤ b18 := Nat.le_trans Z14 (Nat.le_of_eq g18.symm)
  obtain ⟨T18, h18, X18, e18, E18, A18, D18, -, st18⟩ := newO X14 hx hZ hown (hw _ (List.mem_of_getElem? (i := 1) rfl)) (hw _ (List.mem_of_getElem? (i := 2) rfl)) (hw _ (List.mem_of_getElem? (i := 3) rfl)) e14 (g := (mkF m 93 #[.val (.int p1), .val (.int p2), .val (.int p3), .val (.int pp), .val (.int nsx), .val (.int c0), .val (.int c1), .val (.int e0), .val (.int e1), .val (.ref b3), .val (.ref b10), .unset, .unset, .unset, .unset, .unset, .unset, .unset, .unset, .unset, .unset, .unset] [])) rfl (hb hby at_93) (by decide) (by decide)
  rw [← g18] at A18 D18 st18
  have CH20 := CHr.trans CH15 (CHr.ext E18 CH15.1)
  have hk20 := Nat.le_trans hk15 E18.1
  have Z18 : n0 ≤ h18.size := Nat.le_trans Z14 E18.1
  have F18_coder : Fld Z h18 b18 "java/lang/String" "coder" "B" (.int (0 : Int32)) := D18 (Or.inr (hw _ (List.mem_of_getElem? (i := 27) rfl))) (ty := .byte) (by decide)
  have F18_value : Fld Z h18 b18 "java/lang/String" "value" "[B" .null := D18 (Or.inr (hw _ (List.mem_of_getElem? (i := 29) rfl))) (ty := (.array .byte)) (by decide)
  refine Gen.on (b := T18.setTop (mkF m 96 #[.val (.int p1), .val (.int p2), .val (.int p3), .val (.int pp), .val (.int nsx), .val (.int c0), .val (.int c1), .val (.int e0), .val (.int e1), .val (.ref b3), .val (.ref b10), .unset, .unset, .unset, .unset, .unset, .unset, .unset, .unset, .unset, .unset, .unset] [(.ref b18)])) ?_ (fun t k => st18 t k)
  have sf_b18 : Safe Z consts_1 s.vm h18 b18 := Safe.ext E18 CH15.1 (Safe.new (Nat.le_of_eq g18.symm))
  refine Gen.on (b := T18.setTop (mkF m 97 #[.val (.int p1), .val (.int p2), .val (.int p3), .val (.int pp), .val (.int nsx), .val (.int c0), .val (.int c1), .val (.int e0), .val (.int e1), .val (.ref b3), .val (.ref b10), .unset, .unset, .unset, .unset, .unset, .unset, .unset, .unset, .unset, .unset, .unset] [(.ref b18), (.ref b18)])) ?_ (fun t k => XS.dup X18.here hx rfl (hb hby at_96) rfl rfl k)
  refine Gen.on (b := T18.setTop (mkF m 98 #[.val (.int p1), .val (.int p2), .val (.int p3), .val (.int pp), .val (.int nsx), .val (.int c0), .val (.int c1), .val (.int e0), .val (.int e1), .val (.ref b3), .val (.ref b10), .unset, .unset, .unset, .unset, .unset, .unset, .unset, .unset, .unset, .unset, .unset] [(.int (1 : Int32)), (.ref b18), (.ref b18)])) ?_ (fun t k => XS.iconst X18.here hx rfl (hb hby at_97) k)
  have fa22 := (fa19.ext E18)
  have fa23 := (Yc17.ext E18)
  obtain ⟨b21, g21⟩ : ∃ z, z = h18.size := ⟨_, rfl⟩
  have ne_b3_b21 : b3 ≠ b21 := Nat.ne_of_lt (Nat.lt_of_lt_of_le fa22.lt (Nat.le_of_eq g21.symm))
  have ne_b10_b21 : b10 ≠ b21 := Nat.ne_of_lt (Nat.lt_of_lt_of_le fa23.lt (Nat.le_of_eq g21.symm))
  have ne_b18_b21 : b18 ≠ b21 := Nat.ne_of_lt (Nat.lt_of_lt_of_le A18.lt (Nat.le_of_eq g21.symm))
  have g_b21 : n0 ≤ b21 := Nat.le_trans Z18 (Nat.le_of_eq g21.symm)
  obtain ⟨T21, h21, k21, X21, e21, E21, A21, EX21, st21⟩ := newPE X18 hx hZ (hw _ (List.mem_of_getElem? (i := 0) rfl)) e18 (g := (mkF m 98 #[.val (.int p1), .val (.int p2), .val (.int p3), .val (.int pp), .val (.int nsx), .val (.int c0), .val (.int c1), .val (.int e0), .val (.int e1), .val (.ref b3), .val (.ref b10), .unset, .unset, .unset, .unset, .unset, .unset, .unset, .unset, .unset, .unset, .unset] [(.int (1 : Int32)), (.ref b18), (.ref b18)])) rfl (hb hby at_98) rfl (by decide) (cap := 1) (by decide) (by decide) (by decide) (by decide) (ad := "[C") (by decide)
  rw [← g21] at A21 EX21 st21
  have sf24_b18 := Safe.ext E21 CH20.1 sf_b18
  have CH24 := CHr.trans CH20 (CHr.ext E21 CH20.1)
  have hk24 := Nat.le_trans hk20 E21.1
  have Z21 : n0 ≤ h21.size := Nat.le_trans Z18 E21.1
  have V21 : Afn Z h21 b21 .char (1 : Int32) (fun _ => 0) := Afn.new A21 (by decide) rfl
  refine Gen.on (b := T21.setTop (mkF m 100 #[.val (.int p1), .val (.int p2), .val (.int p3), .val (.int pp), .val (.int nsx), .val (.int c0), .val (.int c1), .val (.int e0), .val (.int e1), .val (.ref b3), .val (.ref b10), .unset, .unset, .unset, .unset, .unset, .unset, .unset, .unset, .unset, .unset, .unset] [(.ref b21), (.ref b18), (.ref b18)])) ?_ (fun t k => st21 t k)
  refine Gen.on (b := T21.setTop (mkF m 101 #[.val (.int p1), .val (.int p2), .val (.int p3), .val (.int pp), .val (.int nsx), .val (.int c0), .val (.int c1), .val (.int e0), .val (.int e1), .val (.ref b3), .val (.ref b10), .unset, .unset, .unset, .unset, .unset, .unset, .unset, .unset, .unset, .unset, .unset] [(.ref b21), (.ref b21), (.ref b18), (.ref b18)])) ?_ (fun t k => XS.dup X21.here hx rfl (hb hby at_100) rfl rfl k)
  refine Gen.on (b := T21.setTop (mkF m 102 #[.val (.int p1), .val (.int p2), .val (.int p3), .val (.int pp), .val (.int nsx), .val (.int c0), .val (.int c1), .val (.int e0), .val (.int e1), .val (.ref b3), .val (.ref b10), .unset, .unset, .unset, .unset, .unset, .unset, .unset, .unset, .unset, .unset, .unset] [(.int (0 : Int32)), (.ref b21), (.ref b21), (.ref b18), (.ref b18)])) ?_ (fun t k => XS.iconst X21.here hx rfl (hb hby at_101) k)
  refine Gen.on (b := T21.setTop (mkF m 104 #[.val (.int p1), .val (.int p2), .val (.int p3), .val (.int pp), .val (.int nsx), .val (.int c0), .val (.int c1), .val (.int e0), .val (.int e1), .val (.ref b3), .val (.ref b10), .unset, .unset, .unset, .unset, .unset, .unset, .unset, .unset, .unset, .unset, .unset] [(.int e0), (.int (0 : Int32)), (.ref b21), (.ref b21), (.ref b18), (.ref b18)])) ?_ (fun t k => XS.iload X21.here hx rfl (hb hby at_102) rfl k)
  obtain ⟨cl25, Ar25, SA25, NA25, HA25⟩ := id V21
  have hin25 : ¬ ((0 : Int32) < 0 ∨ cl25.slots.size ≤ ((0 : Int32)).toNatClampNeg) := inb_of SA25 ⟨(by decide), (by decide)⟩
  obtain ⟨T25, h25, X25, e25, W25, st25⟩ := stC X21 hx hZ e21 Ar25 (j := (0 : Int32)) hin25 (g := (mkF m 104 #[.val (.int p1), .val (.int p2), .val (.int p3), .val (.int pp), .val (.int nsx), .val (.int c0), .val (.int c1), .val (.int e0), .val (.int e1), .val (.ref b3), .val (.ref b10), .unset, .unset, .unset, .unset, .unset, .unset, .unset, .unset, .unset, .unset, .unset] [(.int e0), (.int (0 : Int32)), (.ref b21), (.ref b21), (.ref b18), (.ref b18)])) rfl rfl (hb hby at_104)
  have Y25 := Afn.put Ar25 SA25 NA25 HA25 W25 (by decide)
  have sf26_b18 := Safe.wr W25 (Safe.exa hZ.alike EX21 (by decide) (by decide)) CH24.1 sf24_b18
  have CH26 := CHr.trans CH24 (CHr.wr W25 (Safe.exa hZ.alike EX21 (by decide) (by decide)) CH24.1)
  have hk26 := Nat.le_trans hk24 (Keep.of_wr W25).1
  have Z25 : n0 ≤ h25.size := Nat.le_trans Z21 (Keep.of_wr W25).1
  have N25 := Fr.snoc X25 N14 g_b21
  refine Gen.on (b := T25.setTop (mkF m 105 #[.val (.int p1), .val (.int p2), .val (.int p3), .val (.int pp), .val (.int nsx), .val (.int c0), .val (.int c1), .val (.int e0), .val (.int e1), .val (.ref b3), .val (.ref b10), .unset, .unset, .unset, .unset, .unset, .unset, .unset, .unset, .unset, .unset, .unset] [(.ref b21), (.ref b18), (.ref b18)])) ?_ (fun t k => st25 t k)
  have Yc27 := Afn.congr Y25 (own_y1 (q := e0) k_e0.1)
  have fa29 := ((A18.ext E21).wr W25)
  have fa30 := ((F18_value.ext E21).other W25 (Or.inl ne_b18_b21))
  have fa31 := ((F18_coder.ext E21).other W25 (Or.inl ne_b18_b21))
  have fa32 := (((((((((OL.ext E3).wr W5 g_b3).wr W7 g_b3).ext E10).wr W12 g_b10).wr W14 g_b10).ext E18).ext E21).wr W25 g_b21)
  obtain ⟨_, _, ⟨T28, L28, k28, n28⟩, -, X28, ⟨Lc28, hQ28, l28, y28, z28⟩, st28⟩ := X25.specialBack hx (y := (⟨"java/lang/String", "<init>", "([C)V"⟩ : MethodName)) rfl hown (mvT hZ (hw _ (List.mem_of_getElem? (i := 4) rfl))) (mvT hZ (hw _ (List.mem_of_getElem? (i := 5) rfl))) (mvT hZ (hw _ (List.mem_of_getElem? (i := 6) rfl))) (by decide) (backOf (W := 1) (rm1 l Z a0 hw [] b18 b21 .null (.int (0 : Int32)) (1 : Int32) (own_y e0 e0) w0 f0 h25 n0 Z25 fa29 fa30 fa31 Yc27 fa32 g_b18 (sts) (by decide) (by decide) (own_hin1 k_e0 k_e0) (by decide)) hZ (hw _ (List.mem_of_getElem? (i := 6) rfl)) (hw _ (List.mem_of_getElem? (i := 3) rfl)) (by decide) (by decide)) (g := (mkF m 105 #[.val (.int p1), .val (.int p2), .val (.int p3), .val (.int pp), .val (.int nsx), .val (.int c0), .val (.int c1), .val (.int e0), .val (.int e1), .val (.ref b3), .val (.ref b10), .unset, .unset, .unset, .unset, .unset, .unset, .unset, .unset, .unset, .unset, .unset] [(.ref b21), (.ref b18), (.ref b18)])) rfl (by rw [hml]; rfl) (Steps.refl _) (a := b18) (argsL := [(.ref b21)]) (rest := [(.ref b18)]) (lenOf pd_0_0 rfl) rfl (by show 2 * 0 + _ ≤ _; exact Nat.le_of_eq rfl) (hb hby at_105) (fun _ _ => ⟨rfl, e25, (by decide : 4 + 1 ≤ _), (by decide : 9 + 2 ≤ _)⟩)
  dsimp only [Pt.U, Pt.locs, Pt.cells, Pt.slots] at X28 l28 y28 z28 st28 hQ28
  subst l28 y28 z28
  obtain ⟨rfl, N28q, Kc28, hf28_0, hf28_1⟩ := hQ28
  have N28 := Fr.app N25 N28q
  have sf33_b18 := Safe.keep Kc28 (sfS sf26_b18 sf0) CH26.1 sf26_b18
  have CH33 := CHr.trans CH26 (CHr.keep Kc28 (sfS sf26_b18 sf0) CH26.1)
  have hk33 := Nat.le_trans hk26 Kc28.1
  have Z28 : n0 ≤ T28.heap.size := Nat.le_trans Z25 Kc28.1
  refine Gen.on (b := T28.setTop (mkF m 108 #[.val (.int p1), .val (.int p2), .val (.int p3), .val (.int pp), .val (.int nsx), .val (.int c0), .val (.int c1), .val (.int e0), .val (.int e1), .val (.ref b3), .val (.ref b10), .unset, .unset, .unset, .unset, .unset, .unset, .unset, .unset, .unset, .unset, .unset] [(.ref b18)])) ?_ (fun t k => st28.trans k)
  refine Gen.on (b := T28.setTop (mkF m 110 #[.val (.int p1), .val (.int p2), .val (.int p3), .val (.int pp), .val (.int nsx), .val (.int c0), .val (.int c1), .val (.int e0), .val (.int e1), .val (.ref b3), .val (.ref b10), .val (.ref b18), .unset, .unset, .unset, .unset, .unset, .unset, .unset, .unset, .unset, .unset] [])) ?_ (fun t k => XS.astore X28.here hx rfl (hb hby at_108) rfl rfl (l' := #[.val (.int p1), .val (.int p2), .val (.int p3), .val (.int pp), .val (.int nsx), .val (.int c0), .val (.int c1), .val (.int e0), .val (.int e1), .val (.ref b3), .val (.ref b10), .val (.ref b18), .unset, .unset, .unset, .unset, .unset, .unset, .unset, .unset, .unset, .unset]) rfl k)
  have fa35 := (((fa22.ext E21).other W25 ne_b3_b21).keep Kc28 (ninS ne_b3_b18 nin0))
  have fa36 := (((fa23.ext E21).other W25 ne_b10_b21).keep Kc28 (ninS ne_b10_b18 nin0))
  have fa37 := (Yc27.keep Kc28 (ninS (Ne.symm ne_b18_b21) nin0))
  obtain ⟨b34, g34⟩ : ∃ z, z = T28.heap.size := ⟨_, rfl⟩
  have ne_b3_b34 : b3 ≠ b34 := Nat.ne_of_lt (Nat.lt_of_lt_of_le fa35.lt (Nat.le_of_eq g34.symm))
  have ne_b10_b34 : b10 ≠ b34 := Nat.ne_of_lt (Nat.lt_of_lt_of_le fa36.lt (Nat.le_of_eq g34.symm))
  have ne_b18_b34 : b18 ≠ b34 := Nat.ne_of_lt (Nat.lt_of_lt_of_le hf28_0.lt (Nat.le_of_eq g34.symm))
  have ne_b21_b34 : b21 ≠ b34 := Nat.ne_of_lt (Nat.lt_of_lt_of_le fa37.lt (Nat.le_of_eq g34.symm))
  have g_b34 : n0 ≤ b34 := Nat.le_trans Z28 (Nat.le_of_eq g34.symm)
  obtain ⟨T34, h34, X34, e34, E34, A34, D34, -, st34⟩ := newO X28 hx hZ hown (hw _ (List.mem_of_getElem? (i := 1) rfl)) (hw _ (List.mem_of_getElem? (i := 2) rfl)) (hw _ (List.mem_of_getElem? (i := 3) rfl)) rfl (g := (mkF m 110 #[.val (.int p1), .val (.int p2), .val (.int p3), .val (.int pp), .val (.int nsx), .val (.int c0), .val (.int c1), .val (.int e0), .val (.int e1), .val (.ref b3), .val (.ref b10), .val (.ref b18), .unset, .unset, .unset, .unset, .unset, .unset, .unset, .unset, .unset, .unset] [])) rfl (hb hby at_110) (by decide) (by decide)
  rw [← g34] at A34 D34 st34
  have sf38_b18 := Safe.ext E34 CH33.1 sf33_b18
  have CH38 := CHr.trans CH33 (CHr.ext E34 CH33.1)
  have hk38 := Nat.le_trans hk33 E34.1
  have Z34 : n0 ≤ h34.size := Nat.le_trans Z28 E34.1
  have F34_coder : Fld Z h34 b34 "java/lang/String" "coder" "B" (.int (0 : Int32)) := D34 (Or.inr (hw _ (List.mem_of_getElem? (i := 27) rfl))) (ty := .byte) (by decide)
  have F34_value : Fld Z h34 b34 "java/lang/String" "value" "[B" .null := D34 (Or.inr (hw _ (List.mem_of_getElem? (i := 29) rfl))) (ty := (.array .byte)) (by decide)
  refine Gen.on (b := T34.setTop (mkF m 113 #[.val (.int p1), .val (.int p2), .val (.int p3), .val (.int pp), .val (.int nsx), .val (.int c0), .val (.int c1), .val (.int e0), .val (.int e1), .val (.ref b3), .val (.ref b10), .val (.ref b18), .unset, .unset, .unset, .unset, .unset, .unset, .unset, .unset, .unset, .unset] [(.ref b34)])) ?_ (fun t k => st34 t k)
  have sf_b34 : Safe Z consts_1 s.vm h34 b34 := Safe.ext E34 CH33.1 (Safe.new (Nat.le_of_eq g34.symm))
  refine Gen.on (b := T34.setTop (mkF m 114 #[.val (.int p1), .val (.int p2), .val (.int p3), .val (.int pp), .val (.int nsx), .val (.int c0), .val (.int c1), .val (.int e0), .val (.int e1), .val (.ref b3), .val (.ref b10), .val (.ref b18), .unset, .unset, .unset, .unset, .unset, .unset, .unset, .unset, .unset, .unset] [(.ref b34), (.ref b34)])) ?_ (fun t k => XS.dup X34.here hx rfl (hb hby at_113) rfl rfl k)
  refine Gen.on (b := T34.setTop (mkF m 115 #[.val (.int p1), .val (.int p2), .val (.int p3), .val (.int pp), .val (.int nsx), .val (.int c0), .val (.int c1), .val (.int e0), .val (.int e1), .val (.ref b3), .val (.ref b10), .val (.ref b18), .unset, .unset, .unset, .unset, .unset, .unset, .unset, .unset, .unset, .unset] [(.int (1 : Int32)), (.ref b34), (.ref b34)])) ?_ (fun t k => XS.iconst X34.here hx rfl (hb hby at_114) k)
  have fa40 := (fa35.ext E34)
  have fa41 := (fa36.ext E34)
  have fa42 := (hf28_0.ext E34)
  have fa43 := (fa37.ext E34)
  obtain ⟨b39, g39⟩ : ∃ z, z = h34.size := ⟨_, rfl⟩
  have ne_b3_b39 : b3 ≠ b39 := Nat.ne_of_lt (Nat.lt_of_lt_of_le fa40.lt (Nat.le_of_eq g39.symm))
  have ne_b10_b39 : b10 ≠ b39 := Nat.ne_of_lt (Nat.lt_of_lt_of_le fa41.lt (Nat.le_of_eq g39.symm))
  have ne_b18_b39 : b18 ≠ b39 := Nat.ne_of_lt (Nat.lt_of_lt_of_le fa42.lt (Nat.le_of_eq g39.symm))
  have ne_b21_b39 : b21 ≠ b39 := Nat.ne_of_lt (Nat.lt_of_lt_of_le fa43.lt (Nat.le_of_eq g39.symm))
  have ne_b34_b39 : b34 ≠ b39 := Nat.ne_of_lt (Nat.lt_of_lt_of_le A34.lt (Nat.le_of_eq g39.symm))
  have g_b39 : n0 ≤ b39 := Nat.le_trans Z34 (Nat.le_of_eq g39.symm)
  obtain ⟨T39, h39, k39, X39, e39, E39, A39, EX39, st39⟩ := newPE X34 hx hZ (hw _ (List.mem_of_getElem? (i := 0) rfl)) e34 (g := (mkF m 115 #[.val (.int p1), .val (.int p2), .val (.int p3), .val (.int pp), .val (.int nsx), .val (.int c0), .val (.int c1), .val (.int e0), .val (.int e1), .val (.ref b3), .val (.ref b10), .val (.ref b18), .unset, .unset, .unset, .unset, .unset, .unset, .unset, .unset, .unset, .unset] [(.int (1 : Int32)), (.ref b34), (.ref b34)])) rfl (hb hby at_115) rfl (by decide) (cap := 1) (by decide) (by decide) (by decide) (by decide) (ad := "[C") (by decide)
  rw [← g39] at A39 EX39 st39
  have sf44_b18 := Safe.ext E39 CH38.1 sf38_b18
  have sf44_b34 := Safe.ext E39 CH38.1 sf_b34
  have CH44 := CHr.trans CH38 (CHr.ext E39 CH38.1)
  have hk44 := Nat.le_trans hk38 E39.1
  have Z39 : n0 ≤ h39.size := Nat.le_trans Z34 E39.1
  have V39 : Afn Z h39 b39 .char (1 : Int32) (fun _ => 0) := Afn.new A39 (by decide) rfl
  refine Gen.on (b := T39.setTop (mkF m 117 #[.val (.int p1), .val (.int p2), .val (.int p3), .val (.int pp), .val (.int nsx), .val (.int c0), .val (.int c1), .val (.int e0), .val (.int e1), .val (.ref b3), .val (.ref b10), .val (.ref b18), .unset, .unset, .unset, .unset, .unset, .unset, .unset, .unset, .unset, .unset] [(.ref b39), (.ref b34), (.ref b34)])) ?_ (fun t k => st39 t k)
  refine Gen.on (b := T39.setTop (mkF m 118 #[.val (.int p1), .val (.int p2), .val (.int p3), .val (.int pp), .val (.int nsx), .val (.int c0), .val (.int c1), .val (.int e0), .val (.int e1), .val (.ref b3), .val (.ref b10), .val (.ref b18), .unset, .unset, .unset, .unset, .unset, .unset, .unset, .unset, .unset, .unset] [(.ref b39), (.ref b39), (.ref b34), (.ref b34)])) ?_ (fun t k => XS.dup X39.here hx rfl (hb hby at_117) rfl rfl k)
  refine Gen.on (b := T39.setTop (mkF m 119 #[.val (.int p1), .val (.int p2), .val (.int p3), .val (.int pp), .val (.int nsx), .val (.int c0), .val (.int c1), .val (.int e0), .val (.int e1), .val (.ref b3), .val (.ref b10), .val (.ref b18), .unset, .unset, .unset, .unset, .unset, .unset, .unset, .unset, .unset, .unset] [(.int (0 : Int32)), (.ref b39), (.ref b39), (.ref b34), (.ref b34)])) ?_ (fun t k => XS.iconst X39.here hx rfl (hb hby at_118) k)
  refine Gen.on (b := T39.setTop (mkF m 121 #[.val (.int p1), .val (.int p2), .val (.int p3), .val (.int pp), .val (.int nsx), .val (.int c0), .val (.int c1), .val (.int e0), .val (.int e1), .val (.ref b3), .val (.ref b10), .val (.ref b18), .unset, .unset, .unset, .unset, .unset, .unset, .unset, .unset, .unset, .unset] [(.int c0), (.int (0 : Int32)), (.ref b39), (.ref b39), (.ref b34), (.ref b34)])) ?_ (fun t k => XS.iload X39.here hx rfl (hb hby at_119) rfl k)
  obtain ⟨cl45, Ar45, SA45, NA45, HA45⟩ := id V39
  have hin45 : ¬ ((0 : Int32) < 0 ∨ cl45.slots.size ≤ ((0 : Int32)).toNatClampNeg) := inb_of SA45 ⟨(by decide), (by decide)⟩
  obtain ⟨T45, h45, X45, e45, W45, st45⟩ := stC X39 hx hZ e39 Ar45 (j := (0 : Int32)) hin45 (g := (mkF m 121 #[.val (.int p1), .val (.int p2), .val (.int p3), .val (.int pp), .val (.int nsx), .val (.int c0), .val (.int c1), .val (.int e0), .val (.int e1), .val (.ref b3), .val (.ref b10), .val (.ref b18), .unset, .unset, .unset, .unset, .unset, .unset, .unset, .unset, .unset, .unset] [(.int c0), (.int (0 : Int32)), (.ref b39), (.ref b39), (.ref b34), (.ref b34)])) rfl rfl (hb hby at_121)
  have Y45 := Afn.put Ar45 SA45 NA45 HA45 W45 (by decide)
  have sf46_b18 := Safe.wr W45 (Safe.exa hZ.alike EX39 (by decide) (by decide)) CH44.1 sf44_b18
  have sf46_b34 := Safe.wr W45 (Safe.exa hZ.alike EX39 (by decide) (by decide)) CH44.1 sf44_b34
  have CH46 := CHr.trans CH44 (CHr.wr W45 (Safe.exa hZ.alike EX39 (by decide) (by decide)) CH44.1)
  have hk46 := Nat.le_trans hk44 (Keep.of_wr W45).1
  have Z45 : n0 ≤ h45.size := Nat.le_trans Z39 (Keep.of_wr W45).1
  have N45 := Fr.snoc X45 N28 g_b39
  refine Gen.on (b := T45.setTop (mkF m 122 #[.val (.int p1), .val (.int p2), .val (.int p3), .val (.int pp), .val (.int nsx), .val (.int c0), .val (.int c1), .val (.int e0), .val (.int e1), .val (.ref b3), .val (.ref b10), .val (.ref b18), .unset, .unset, .unset, .unset, .unset, .unset, .unset, .unset, .unset, .unset] [(.ref b39), (.ref b34), (.ref b34)])) ?_ (fun t k => st45 t k)
  have Yc47 := Afn.congr Y45 (own_y1 (q := c0) k_c0.1)
  have fa49 := ((A34.ext E39).wr W45)
  have fa50 := ((F34_value.ext E39).other W45 (Or.inl ne_b34_b39))
  have fa51 := ((F34_coder.ext E39).other W45 (Or.inl ne_b34_b39))
  have fa52 := ((((fa32.keep Kc28 (allS g_b18 all0)).ext E34).ext E39).wr W45 g_b39)
  obtain ⟨_, _, ⟨T48, L48, k48, n48⟩, -, X48, ⟨Lc48, hQ48, l48, y48, z48⟩, st48⟩ := X45.specialBack hx (y := (⟨"java/lang/String", "<init>", "([C)V"⟩ : MethodName)) rfl hown (mvT hZ (hw _ (List.mem_of_getElem? (i := 4) rfl))) (mvT hZ (hw _ (List.mem_of_getElem? (i := 5) rfl))) (mvT hZ (hw _ (List.mem_of_getElem? (i := 6) rfl))) (by decide) (backOf (W := 1) (rm1 l Z a0 hw [] b34 b39 .null (.int (0 : Int32)) (1 : Int32) (own_y c0 c0) w0 f0 h45 n0 Z45 fa49 fa50 fa51 Yc47 fa52 g_b34 (sts) (by decide) (by decide) (own_hin1 k_c0 k_c0) (by decide)) hZ (hw _ (List.mem_of_getElem? (i := 6) rfl)) (hw _ (List.mem_of_getElem? (i := 3) rfl)) (by decide) (by decide)) (g := (mkF m 122 #[.val (.int p1), .val (.int p2), .val (.int p3), .val (.int pp), .val (.int nsx), .val (.int c0), .val (.int c1), .val (.int e0), .val (.int e1), .val (.ref b3), .val (.ref b10), .val (.ref b18), .unset, .unset, .unset, .unset, .unset, .unset, .unset, .unset, .unset, .unset] [(.ref b39), (.ref b34), (.ref b34)])) rfl (by rw [hml]; rfl) (Steps.refl _) (a := b34) (argsL := [(.ref b39)]) (rest := [(.ref b34)]) (lenOf pd_0_0 rfl) rfl (by show 2 * 0 + _ ≤ _; exact Nat.le_of_eq rfl) (hb hby at_122) (fun _ _ => ⟨rfl, e45, (by decide : 7 + 1 ≤ _), (by decide : 16 + 2 ≤ _)⟩)
  dsimp only [Pt.U, Pt.locs, Pt.cells, Pt.slots] at X48 l48 y48 z48 st48 hQ48
  subst l48 y48 z48
  obtain ⟨rfl, N48q, Kc48, hf48_0, hf48_1⟩ := hQ48
  have N48 := Fr.app N45 N48q
  have sf53_b18 := Safe.keep Kc48 (sfS sf46_b34 sf0) CH46.1 sf46_b18
  have sf53_b34 := Safe.keep Kc48 (sfS sf46_b34 sf0) CH46.1 sf46_b34
  have CH53 := CHr.trans CH46 (CHr.keep Kc48 (sfS sf46_b34 sf0) CH46.1)
  have hk53 := Nat.le_trans hk46 Kc48.1
  have Z48 : n0 ≤ T48.heap.size := Nat.le_trans Z45 Kc48.1
  refine Gen.on (b := T48.setTop (mkF m 125 #[.val (.int p1), .val (.int p2), .val (.int p3), .val (.int pp), .val (.int nsx), .val (.int c0), .val (.int c1), .val (.int e0), .val (.int e1), .val (.ref b3), .val (.ref b10), .val (.ref b18), .unset, .unset, .unset, .unset, .unset, .unset, .unset, .unset, .unset, .unset] [(.ref b34)])) ?_ (fun t k => st48.trans k)
  refine Gen.on (b := T48.setTop (mkF m 127 #[.val (.int p1), .val (.int p2), .val (.int p3), .val (.int pp), .val (.int nsx), .val (.int c0), .val (.int c1), .val (.int e0), .val (.int e1), .val (.ref b3), .val (.ref b10), .val (.ref b18), .val (.ref b34), .unset, .unset, .unset, .unset, .unset, .unset, .unset, .unset, .unset] [])) ?_ (fun t k => XS.astore X48.here hx rfl (hb hby at_125) rfl rfl (l' := #[.val (.int p1), .val (.int p2), .val (.int p3), .val (.int pp), .val (.int nsx), .val (.int c0), .val (.int c1), .val (.int e0), .val (.int e1), .val (.ref b3), .val (.ref b10), .val (.ref b18), .val (.ref b34), .unset, .unset, .unset, .unset, .unset, .unset, .unset, .unset, .unset]) rfl k)
  refine Gen.on (b := T48.setTop (mkF m 128 #[.val (.int p1), .val (.int p2), .val (.int p3), .val (.int pp), .val (.int nsx), .val (.int c0), .val (.int c1), .val (.int e0), .val (.int e1), .val (.ref b3), .val (.ref b10), .val (.ref b18), .val (.ref b34), .unset, .unset, .unset, .unset, .unset, .unset, .unset, .unset, .unset] [(.int (1 : Int32))])) ?_ (fun t k => XS.iconst X48.here hx rfl (hb hby at_127) k)
  have fa55 := (((fa40.ext E39).other W45 ne_b3_b39).keep Kc48 (ninS ne_b3_b34 nin0))
  have fa56 := (((fa41.ext E39).other W45 ne_b10_b39).keep Kc48 (ninS ne_b10_b34 nin0))
  have fa57 := (((fa42.ext E39).wr W45).keep Kc48)
  have fa58 := (((fa43.ext E39).other W45 ne_b21_b39).keep Kc48 (ninS ne_b21_b34 nin0))
  have fa59 := (Yc47.keep Kc48 (ninS (Ne.symm ne_b34_b39) nin0))
  obtain ⟨b54, g54⟩ : ∃ z, z = T48.heap.size := ⟨_, rfl⟩
  have ne_b3_b54 : b3 ≠ b54 := Nat.ne_of_lt (Nat.lt_of_lt_of_le fa55.lt (Nat.le_of_eq g54.symm))
  have ne_b10_b54 : b10 ≠ b54 := Nat.ne_of_lt (Nat.lt_of_lt_of_le fa56.lt (Nat.le_of_eq g54.symm))
  have ne_b18_b54 : b18 ≠ b54 := Nat.ne_of_lt (Nat.lt_of_lt_of_le fa57.lt (Nat.le_of_eq g54.symm))
  have ne_b21_b54 : b21 ≠ b54 := Nat.ne_of_lt (Nat.lt_of_lt_of_le fa58.lt (Nat.le_of_eq g54.symm))
  have ne_b34_b54 : b34 ≠ b54 := Nat.ne_of_lt (Nat.lt_of_lt_of_le hf48_0.lt (Nat.le_of_eq g54.symm))
  have ne_b39_b54 : b39 ≠ b54 := Nat.ne_of_lt (Nat.lt_of_lt_of_le fa59.lt (Nat.le_of_eq g54.symm))
  have g_b54 : n0 ≤ b54 := Nat.le_trans Z48 (Nat.le_of_eq g54.symm)
  obtain ⟨T54, h54, k54, X54, e54, E54, A54, EX54, st54⟩ := newPE X48 hx hZ (hw _ (List.mem_of_getElem? (i := 0) rfl)) rfl (g := (mkF m 128 #[.val (.int p1), .val (.int p2), .val (.int p3), .val (.int pp), .val (.int nsx), .val (.int c0), .val (.int c1), .val (.int e0), .val (.int e1), .val (.ref b3), .val (.ref b10), .val (.ref b18), .val (.ref b34), .unset, .unset, .unset, .unset, .unset, .unset, .unset, .unset, .unset] [(.int (1 : Int32))])) rfl (hb hby at_128) rfl (by decide) (cap := 1) (by decide) (by decide) (by decide) (by decide) (ad := "[C") (by decide)
  rw [← g54] at A54 EX54 st54
  have sf60_b18 := Safe.ext E54 CH53.1 sf53_b18
  have sf60_b34 := Safe.ext E54 CH53.1 sf53_b34
  have CH60 := CHr.trans CH53 (CHr.ext E54 CH53.1)
  have hk60 := Nat.le_trans hk53 E54.1
  have Z54 : n0 ≤ h54.size := Nat.le_trans Z48 E54.1
  have V54 : Afn Z h54 b54 .char (1 : Int32) (fun _ => 0) := Afn.new A54 (by decide) rfl
  refine Gen.on (b := T54.setTop (mkF m 130 #[.val (.int p1), .val (.int p2), .val (.int p3), .val (.int pp), .val (.int nsx), .val (.int c0), .val (.int c1), .val (.int e0), .val (.int e1), .val (.ref b3), .val (.ref b10), .val (.ref b18), .val (.ref b34), .unset, .unset, .unset, .unset, .unset, .unset, .unset, .unset, .unset] [(.ref b54)])) ?_ (fun t k => st54 t k)
  refine Gen.on (b := T54.setTop (mkF m 131 #[.val (.int p1), .val (.int p2), .val (.int p3), .val (.int pp), .val (.int nsx), .val (.int c0), .val (.int c1), .val (.int e0), .val (.int e1), .val (.ref b3), .val (.ref b10), .val (.ref b18), .val (.ref b34), .unset, .unset, .unset, .unset, .unset, .unset, .unset, .unset, .unset] [(.ref b54), (.ref b54)])) ?_ (fun t k => XS.dup X54.here hx rfl (hb hby at_130) rfl rfl k)
  refine Gen.on (b := T54.setTop (mkF m 132 #[.val (.int p1), .val (.int p2), .val (.int p3), .val (.int pp), .val (.int nsx), .val (.int c0), .val (.int c1), .val (.int e0), .val (.int e1), .val (.ref b3), .val (.ref b10), .val (.ref b18), .val (.ref b34), .unset, .unset, .unset, .unset, .unset, .unset, .unset, .unset, .unset] [(.int (0 : Int32)), (.ref b54), (.ref b54)])) ?_ (fun t k => XS.iconst X54.here hx rfl (hb hby at_131) k)
  refine Gen.on (b := T54.setTop (mkF m 134 #[.val (.int p1), .val (.int p2), .val (.int p3), .val (.int pp), .val (.int nsx), .val (.int c0), .val (.int c1), .val (.int e0), .val (.int e1), .val (.ref b3), .val (.ref b10), .val (.ref b18), .val (.ref b34), .unset, .unset, .unset, .unset, .unset, .unset, .unset, .unset, .unset] [(.int e0), (.int (0 : Int32)), (.ref b54), (.ref b54)])) ?_ (fun t k => XS.iload X54.here hx rfl (hb hby at_132) rfl k)
  obtain ⟨cl61, Ar61, SA61, NA61, HA61⟩ := id V54
  have hin61 : ¬ ((0 : Int32) < 0 ∨ cl61.slots.size ≤ ((0 : Int32)).toNatClampNeg) := inb_of SA61 ⟨(by decide), (by decide)⟩
  obtain ⟨T61, h61, X61, e61, W61, st61⟩ := stC X54 hx hZ e54 Ar61 (j := (0 : Int32)) hin61 (g := (mkF m 134 #[.val (.int p1), .val (.int p2), .val (.int p3), .val (.int pp), .val (.int nsx), .val (.int c0), .val (.int c1), .val (.int e0), .val (.int e1), .val (.ref b3), .val (.ref b10), .val (.ref b18), .val (.ref b34), .unset, .unset, .unset, .unset, .unset, .unset, .unset, .unset, .unset] [(.int e0), (.int (0 : Int32)), (.ref b54), (.ref b54)])) rfl rfl (hb hby at_134)
  have Y61 := Afn.put Ar61 SA61 NA61 HA61 W61 (by decide)
  have sf62_b18 := Safe.wr W61 (Safe.exa hZ.alike EX54 (by decide) (by decide)) CH60.1 sf60_b18
  have sf62_b34 := Safe.wr W61 (Safe.exa hZ.alike EX54 (by decide) (by decide)) CH60.1 sf60_b34
  have CH62 := CHr.trans CH60 (CHr.wr W61 (Safe.exa hZ.alike EX54 (by decide) (by decide)) CH60.1)
  have hk62 := Nat.le_trans hk60 (Keep.of_wr W61).1
  have Z61 : n0 ≤ h61.size := Nat.le_trans Z54 (Keep.of_wr W61).1
  have N61 := Fr.snoc X61 N48 g_b54
  refine Gen.on (b := T61.setTop (mkF m 135 #[.val (.int p1), .val (.int p2), .val (.int p3), .val (.int pp), .val (.int nsx), .val (.int c0), .val (.int c1), .val (.int e0), .val (.int e1), .val (.ref b3), .val (.ref b10), .val (.ref b18), .val (.ref b34), .unset, .unset, .unset, .unset, .unset, .unset, .unset, .unset, .unset] [(.ref b54)])) ?_ (fun t k => st61 t k)
  refine Gen.on (b := T61.setTop (mkF m 137 #[.val (.int p1), .val (.int p2), .val (.int p3), .val (.int pp), .val (.int nsx), .val (.int c0), .val (.int c1), .val (.int e0), .val (.int e1), .val (.ref b3), .val (.ref b10), .val (.ref b18), .val (.ref b34), .val (.ref b54), .unset, .unset, .unset, .unset, .unset, .unset, .unset, .unset] [])) ?_ (fun t k => XS.astore X61.here hx rfl (hb hby at_135) rfl rfl (l' := #[.val (.int p1), .val (.int p2), .val (.int p3), .val (.int pp), .val (.int nsx), .val (.int c0), .val (.int c1), .val (.int e0), .val (.int e1), .val (.ref b3), .val (.ref b10), .val (.ref b18), .val (.ref b34), .val (.ref b54), .unset, .unset, .unset, .unset, .unset, .unset, .unset, .unset]) rfl k)
  refine Gen.on (b := T61.setTop (mkF m 139 #[.val (.int p1), .val (.int p2), .val (.int p3), .val (.int pp), .val (.int nsx), .val (.int c0), .val (.int c1), .val (.int e0), .val (.int e1), .val (.ref b3), .val (.ref b10), .val (.ref b18), .val (.ref b34), .val (.ref b54), .unset, .unset, .unset, .unset, .unset, .unset, .unset, .unset] [(.int nsx)])) ?_ (fun t k => XS.iload X61.here hx rfl (hb hby at_137) rfl k)
  by_cases c139_3 : nsx = (0 : Int32)
  · refine Gen.on (b := T61.setTop (mkF m 146 #[.val (.int p1), .val (.int p2), .val (.int p3), .val (.int pp), .val (.int nsx), .val (.int c0), .val (.int c1), .val (.int e0), .val (.int e1), .val (.ref b3), .val (.ref b10), .val (.ref b18), .val (.ref b34), .val (.ref b54), .unset, .unset, .unset, .unset, .unset, .unset, .unset, .unset] [])) ?_ (fun t k => XS.ifYes X61.here hx rfl (pc0 := 139) (pc' := 146) rfl (hb hby at_139) rfl ((if0 _ _).trans (teq c139_3).1) (by decide) (by decide) k)
    refine Gen.on (b := T61.setTop (mkF m 147 #[.val (.int p1), .val (.int p2), .val (.int p3), .val (.int pp), .val (.int nsx), .val (.int c0), .val (.int c1), .val (.int e0), .val (.int e1), .val (.ref b3), .val (.ref b10), .val (.ref b18), .val (.ref b34), .val (.ref b54), .unset, .unset, .unset, .unset, .unset, .unset, .unset, .unset] [(.int (2 : Int32))])) ?_ (fun t k => XS.iconst X61.here hx rfl (hb hby at_146) k)
    have fa64 := ((fa55.ext E54).other W61 ne_b3_b54)
    have fa65 := ((fa56.ext E54).other W61 ne_b10_b54)
    have fa66 := ((fa57.ext E54).wr W61)
    have fa67 := ((fa58.ext E54).other W61 ne_b21_b54)
    have fa68 := ((hf48_0.ext E54).wr W61)
    have fa69 := ((fa59.ext E54).other W61 ne_b39_b54)
    obtain ⟨b63, g63⟩ : ∃ z, z = h61.size := ⟨_, rfl⟩
    have ne_b3_b63 : b3 ≠ b63 := Nat.ne_of_lt (Nat.lt_of_lt_of_le fa64.lt (Nat.le_of_eq g63.symm))
    have ne_b10_b63 : b10 ≠ b63 := Nat.ne_of_lt (Nat.lt_of_lt_of_le fa65.lt (Nat.le_of_eq g63.symm))
    have ne_b18_b63 : b18 ≠ b63 := Nat.ne_of_lt (Nat.lt_of_lt_of_le fa66.lt (Nat.le_of_eq g63.symm))
    have ne_b21_b63 : b21 ≠ b63 := Nat.ne_of_lt (Nat.lt_of_lt_of_le fa67.lt (Nat.le_of_eq g63.symm))
    have ne_b34_b63 : b34 ≠ b63 := Nat.ne_of_lt (Nat.lt_of_lt_of_le fa68.lt (Nat.le_of_eq g63.symm))
    have ne_b39_b63 : b39 ≠ b63 := Nat.ne_of_lt (Nat.lt_of_lt_of_le fa69.lt (Nat.le_of_eq g63.symm))
    have ne_b54_b63 : b54 ≠ b63 := Nat.ne_of_lt (Nat.lt_of_lt_of_le Y61.lt (Nat.le_of_eq g63.symm))
    have g_b63 : n0 ≤ b63 := Nat.le_trans Z61 (Nat.le_of_eq g63.symm)
    obtain ⟨T63, h63, k63, X63, e63, E63, A63, EX63, st63⟩ := newPE X61 hx hZ (hw _ (List.mem_of_getElem? (i := 0) rfl)) e61 (g := (mkF m 147 #[.val (.int p1), .val (.int p2), .val (.int p3), .val (.int pp), .val (.int nsx), .val (.int c0), .val (.int c1), .val (.int e0), .val (.int e1), .val (.ref b3), .val (.ref b10), .val (.ref b18), .val (.ref b34), .val (.ref b54), .unset, .unset, .unset, .unset, .unset, .unset, .unset, .unset] [(.int (2 : Int32))])) rfl (hb hby at_147) rfl (by decide) (cap := 2) (by decide) (by decide) (by decide) (by decide) (ad := "[C") (by decide)
    rw [← g63] at A63 EX63 st63
    have sf70_b18 := Safe.ext E63 CH62.1 sf62_b18
    have sf70_b34 := Safe.ext E63 CH62.1 sf62_b34
    have CH70 := CHr.trans CH62 (CHr.ext E63 CH62.1)
    have hk70 := Nat.le_trans hk62 E63.1
    have Z63 : n0 ≤ h63.size := Nat.le_trans Z61 E63.1
    have V63 : Afn Z h63 b63 .char (2 : Int32) (fun _ => 0) := Afn.new A63 (by decide) rfl
    refine Gen.on (b := T63.setTop (mkF m 149 #[.val (.int p1), .val (.int p2), .val (.int p3), .val (.int pp), .val (.int nsx), .val (.int c0), .val (.int c1), .val (.int e0), .val (.int e1), .val (.ref b3), .val (.ref b10), .val (.ref b18), .val (.ref b34), .val (.ref b54), .unset, .unset, .unset, .unset, .unset, .unset, .unset, .unset] [(.ref b63)])) ?_ (fun t k => st63 t k)
    refine Gen.on (b := T63.setTop (mkF m 150 #[.val (.int p1), .val (.int p2), .val (.int p3), .val (.int pp), .val (.int nsx), .val (.int c0), .val (.int c1), .val (.int e0), .val (.int e1), .val (.ref b3), .val (.ref b10), .val (.ref b18), .val (.ref b34), .val (.ref b54), .unset, .unset, .unset, .unset, .unset, .unset, .unset, .unset] [(.ref b63), (.ref b63)])) ?_ (fun t k => XS.dup X63.here hx rfl (hb hby at_149) rfl rfl k)
    refine Gen.on (b := T63.setTop (mkF m 151 #[.val (.int p1), .val (.int p2), .val (.int p3), .val (.int pp), .val (.int nsx), .val (.int c0), .val (.int c1), .val (.int e0), .val (.int e1), .val (.ref b3), .val (.ref b10), .val (.ref b18), .val (.ref b34), .val (.ref b54), .unset, .unset, .unset, .unset, .unset, .unset, .unset, .unset] [(.int (0 : Int32)), (.ref b63), (.ref b63)])) ?_ (fun t k => XS.iconst X63.here hx rfl (hb hby at_150) k)
    refine Gen.on (b := T63.setTop (mkF m 153 #[.val (.int p1), .val (.int p2), .val (.int p3), .val (.int pp), .val (.int nsx), .val (.int c0), .val (.int c1), .val (.int e0), .val (.int e1), .val (.ref b3), .val (.ref b10), .val (.ref b18), .val (.ref b34), .val (.ref b54), .unset, .unset, .unset, .unset, .unset, .unset, .unset, .unset] [(.int c0), (.int (0 : Int32)), (.ref b63), (.ref b63)])) ?_ (fun t k => XS.iload X63.here hx rfl (hb hby at_151) rfl k)
    obtain ⟨cl71, Ar71, SA71, NA71, HA71⟩ := id V63
    have hin71 : ¬ ((0 : Int32) < 0 ∨ cl71.slots.size ≤ ((0 : Int32)).toNatClampNeg) := inb_of SA71 ⟨(by decide), (by decide)⟩
    obtain ⟨T71, h71, X71, e71, W71, st71⟩ := stC X63 hx hZ e63 Ar71 (j := (0 : Int32)) hin71 (g := (mkF m 153 #[.val (.int p1), .val (.int p2), .val (.int p3), .val (.int pp), .val (.int nsx), .val (.int c0), .val (.int c1), .val (.int e0), .val (.int e1), .val (.ref b3), .val (.ref b10), .val (.ref b18), .val (.ref b34), .val (.ref b54), .unset, .unset, .unset, .unset, .unset, .unset, .unset, .unset] [(.int c0), (.int (0 : Int32)), (.ref b63), (.ref b63)])) rfl rfl (hb hby at_153)
    have Y71 := Afn.put Ar71 SA71 NA71 HA71 W71 (by decide)
    have sf72_b18 := Safe.wr W71 (Safe.exa hZ.alike EX63 (by decide) (by decide)) CH70.1 sf70_b18
    have sf72_b34 := Safe.wr W71 (Safe.exa hZ.alike EX63 (by decide) (by decide)) CH70.1 sf70_b34
    have CH72 := CHr.trans CH70 (CHr.wr W71 (Safe.exa hZ.alike EX63 (by decide) (by decide)) CH70.1)
    have hk72 := Nat.le_trans hk70 (Keep.of_wr W71).1
    have Z71 : n0 ≤ h71.size := Nat.le_trans Z63 (Keep.of_wr W71).1
    have N71 := Fr.snoc X71 N61 g_b63
    refine Gen.on (b := T71.setTop (mkF m 154 #[.val (.int p1), .val (.int p2), .val (.int p3), .val (.int pp), .val (.int nsx), .val (.int c0), .val (.int c1), .val (.int e0), .val (.int e1), .val (.ref b3), .val (.ref b10), .val (.ref b18), .val (.ref b34), .val (.ref b54), .unset, .unset, .unset, .unset, .unset, .unset, .unset, .unset] [(.ref b63)])) ?_ (fun t k => st71 t k)
    refine Gen.on (b := T71.setTop (mkF m 155 #[.val (.int p1), .val (.int p2), .val (.int p3), .val (.int pp), .val (.int nsx), .val (.int c0), .val (.int c1), .val (.int e0), .val (.int e1), .val (.ref b3), .val (.ref b10), .val (.ref b18), .val (.ref b34), .val (.ref b54), .unset, .unset, .unset, .unset, .unset, .unset, .unset, .unset] [(.ref b63), (.ref b63)])) ?_ (fun t k => XS.dup X71.here hx rfl (hb hby at_154) rfl rfl k)
    refine Gen.on (b := T71.setTop (mkF m 156 #[.val (.int p1), .val (.int p2), .val (.int p3), .val (.int pp), .val (.int nsx), .val (.int c0), .val (.int c1), .val (.int e0), .val (.int e1), .val (.ref b3), .val (.ref b10), .val (.ref b18), .val (.ref b34), .val (.ref b54), .unset, .unset, .unset, .unset, .unset, .unset, .unset, .unset] [(.int (1 : Int32)), (.ref b63), (.ref b63)])) ?_ (fun t k => XS.iconst X71.here hx rfl (hb hby at_155) k)
    refine Gen.on (b := T71.setTop (mkF m 158 #[.val (.int p1), .val (.int p2), .val (.int p3), .val (.int pp), .val (.int nsx), .val (.int c0), .val (.int c1), .val (.int e0), .val (.int e1), .val (.ref b3), .val (.ref b10), .val (.ref b18), .val (.ref b34), .val (.ref b54), .unset, .unset, .unset, .unset, .unset, .unset, .unset, .unset] [(.int c1), (.int (1 : Int32)), (.ref b63), (.ref b63)])) ?_ (fun t k => XS.iload X71.here hx rfl (hb hby at_156) rfl k)
    obtain ⟨cl73, Ar73, SA73, NA73, HA73⟩ := id Y71
    have hin73 : ¬ ((1 : Int32) < 0 ∨ cl73.slots.size ≤ ((1 : Int32)).toNatClampNeg) := inb_of SA73 ⟨(by decide), (by decide)⟩
    obtain ⟨T73, h73, X73, e73, W73, st73⟩ := stC X71 hx hZ e71 Ar73 (j := (1 : Int32)) hin73 (g := (mkF m 158 #[.val (.int p1), .val (.int p2), .val (.int p3), .val (.int pp), .val (.int nsx), .val (.int c0), .val (.int c1), .val (.int e0), .val (.int e1), .val (.ref b3), .val (.ref b10), .val (.ref b18), .val (.ref b34), .val (.ref b54), .unset, .unset, .unset, .unset, .unset, .unset, .unset, .unset] [(.int c1), (.int (1 : Int32)), (.ref b63), (.ref b63)])) rfl rfl (hb hby at_158)
    have Y73 := Afn.put Ar73 SA73 NA73 HA73 W73 (by decide)
    have fa75 := (EX63.wr W71)
    have sf74_b18 := Safe.wr W73 (Safe.exa hZ.alike fa75 (by decide) (by decide)) CH72.1 sf72_b18
    have sf74_b34 := Safe.wr W73 (Safe.exa hZ.alike fa75 (by decide) (by decide)) CH72.1 sf72_b34
    have CH74 := CHr.trans CH72 (CHr.wr W73 (Safe.exa hZ.alike fa75 (by decide) (by decide)) CH72.1)
    have hk74 := Nat.le_trans hk72 (Keep.of_wr W73).1
    have Z73 : n0 ≤ h73.size := Nat.le_trans Z71 (Keep.of_wr W73).1
    have N73 := Fr.snoc X73 N71 g_b63
    refine Gen.on (b := T73.setTop (mkF m 159 #[.val (.int p1), .val (.int p2), .val (.int p3), .val (.int pp), .val (.int nsx), .val (.int c0), .val (.int c1), .val (.int e0), .val (.int e1), .val (.ref b3), .val (.ref b10), .val (.ref b18), .val (.ref b34), .val (.ref b54), .unset, .unset, .unset, .unset, .unset, .unset, .unset, .unset] [(.ref b63)])) ?_ (fun t k => st73 t k)
    refine Gen.on (b := T73.setTop (mkF m 161 #[.val (.int p1), .val (.int p2), .val (.int p3), .val (.int pp), .val (.int nsx), .val (.int c0), .val (.int c1), .val (.int e0), .val (.int e1), .val (.ref b3), .val (.ref b10), .val (.ref b18), .val (.ref b34), .val (.ref b54), .val (.ref b63), .unset, .unset, .unset, .unset, .unset, .unset, .unset] [])) ?_ (fun t k => XS.astore X73.here hx rfl (hb hby at_159) rfl rfl (l' := #[.val (.int p1), .val (.int p2), .val (.int p3), .val (.int pp), .val (.int nsx), .val (.int c0), .val (.int c1), .val (.int e0), .val (.int e1), .val (.ref b3), .val (.ref b10), .val (.ref b18), .val (.ref b34), .val (.ref b54), .val (.ref b63), .unset, .unset, .unset, .unset, .unset, .unset, .unset]) rfl k)
    refine Gen.on (b := T73.setTop (mkF m 162 #[.val (.int p1), .val (.int p2), .val (.int p3), .val (.int pp), .val (.int nsx), .val (.int c0), .val (.int c1), .val (.int e0), .val (.int e1), .val (.ref b3), .val (.ref b10), .val (.ref b18), .val (.ref b34), .val (.ref b54), .val (.ref b63), .unset, .unset, .unset, .unset, .unset, .unset, .unset] [(.int (1 : Int32))])) ?_ (fun t k => XS.iconst X73.here hx rfl (hb hby at_161) k)
    have fa77 := (((fa64.ext E63).other W71 ne_b3_b63).other W73 ne_b3_b63)
    have fa78 := (((fa65.ext E63).other W71 ne_b10_b63).other W73 ne_b10_b63)
    have fa79 := (((fa66.ext E63).wr W71).wr W73)
    have fa80 := (((fa67.ext E63).other W71 ne_b21_b63).other W73 ne_b21_b63)
    have fa81 := (((fa68.ext E63).wr W71).wr W73)
    have fa82 := (((fa69.ext E63).other W71 ne_b39_b63).other W73 ne_b39_b63)
    have fa83 := (((Y61.ext E63).other W71 ne_b54_b63).other W73 ne_b54_b63)
    obtain ⟨b76, g76⟩ : ∃ z, z = h73.size := ⟨_, rfl⟩
    have ne_b3_b76 : b3 ≠ b76 := Nat.ne_of_lt (Nat.lt_of_lt_of_le fa77.lt (Nat.le_of_eq g76.symm))
    have ne_b10_b76 : b10 ≠ b76 := Nat.ne_of_lt (Nat.lt_of_lt_of_le fa78.lt (Nat.le_of_eq g76.symm))
    have ne_b18_b76 : b18 ≠ b76 := Nat.ne_of_lt (Nat.lt_of_lt_of_le fa79.lt (Nat.le_of_eq g76.symm))
    have ne_b21_b76 : b21 ≠ b76 := Nat.ne_of_lt (Nat.lt_of_lt_of_le fa80.lt (Nat.le_of_eq g76.symm))
    have ne_b34_b76 : b34 ≠ b76 := Nat.ne_of_lt (Nat.lt_of_lt_of_le fa81.lt (Nat.le_of_eq g76.symm))
    have ne_b39_b76 : b39 ≠ b76 := Nat.ne_of_lt (Nat.lt_of_lt_of_le fa82.lt (Nat.le_of_eq g76.symm))
    have ne_b54_b76 : b54 ≠ b76 := Nat.ne_of_lt (Nat.lt_of_lt_of_le fa83.lt (Nat.le_of_eq g76.symm))
    have ne_b63_b76 : b63 ≠ b76 := Nat.ne_of_lt (Nat.lt_of_lt_of_le Y73.lt (Nat.le_of_eq g76.symm))
    have g_b76 : n0 ≤ b76 := Nat.le_trans Z73 (Nat.le_of_eq g76.symm)
    obtain ⟨T76, h76, k76, X76, e76, E76, A76, EX76, st76⟩ := newPE X73 hx hZ (hw _ (List.mem_of_getElem? (i := 0) rfl)) e73 (g := (mkF m 162 #[.val (.int p1), .val (.int p2), .val (.int p3), .val (.int pp), .val (.int nsx), .val (.int c0), .val (.int c1), .val (.int e0), .val (.int e1), .val (.ref b3), .val (.ref b10), .val (.ref b18), .val (.ref b34), .val (.ref b54), .val (.ref b63), .unset, .unset, .unset, .unset, .unset, .unset, .unset] [(.int (1 : Int32))])) rfl (hb hby at_162) rfl (by decide) (cap := 1) (by decide) (by decide) (by decide) (by decide) (ad := "[C") (by decide)
    rw [← g76] at A76 EX76 st76
    have sf84_b18 := Safe.ext E76 CH74.1 sf74_b18
    have sf84_b34 := Safe.ext E76 CH74.1 sf74_b34
    have CH84 := CHr.trans CH74 (CHr.ext E76 CH74.1)
    have hk84 := Nat.le_trans hk74 E76.1
    have Z76 : n0 ≤ h76.size := Nat.le_trans Z73 E76.1
    have V76 : Afn Z h76 b76 .char (1 : Int32) (fun _ => 0) := Afn.new A76 (by decide) rfl
    refine Gen.on (b := T76.setTop (mkF m 164 #[.val (.int p1), .val (.int p2), .val (.int p3), .val (.int pp), .val (.int nsx), .val (.int c0), .val (.int c1), .val (.int e0), .val (.int e1), .val (.ref b3), .val (.ref b10), .val (.ref b18), .val (.ref b34), .val (.ref b54), .val (.ref b63), .unset, .unset, .unset, .unset, .unset, .unset, .unset] [(.ref b76)])) ?_ (fun t k => st76 t k)
    refine Gen.on (b := T76.setTop (mkF m 165 #[.val (.int p1), .val (.int p2), .val (.int p3), .val (.int pp), .val (.int nsx), .val (.int c0), .val (.int c1), .val (.int e0), .val (.int e1), .val (.ref b3), .val (.ref b10), .val (.ref b18), .val (.ref b34), .val (.ref b54), .val (.ref b63), .unset, .unset, .unset, .unset, .unset, .unset, .unset] [(.ref b76), (.ref b76)])) ?_ (fun t k => XS.dup X76.here hx rfl (hb hby at_164) rfl rfl k)
    refine Gen.on (b := T76.setTop (mkF m 166 #[.val (.int p1), .val (.int p2), .val (.int p3), .val (.int pp), .val (.int nsx), .val (.int c0), .val (.int c1), .val (.int e0), .val (.int e1), .val (.ref b3), .val (.ref b10), .val (.ref b18), .val (.ref b34), .val (.ref b54), .val (.ref b63), .unset, .unset, .unset, .unset, .unset, .unset, .unset] [(.int (0 : Int32)), (.ref b76), (.ref b76)])) ?_ (fun t k => XS.iconst X76.here hx rfl (hb hby at_165) k)
    refine Gen.on (b := T76.setTop (mkF m 168 #[.val (.int p1), .val (.int p2), .val (.int p3), .val (.int pp), .val (.int nsx), .val (.int c0), .val (.int c1), .val (.int e0), .val (.int e1), .val (.ref b3), .val (.ref b10), .val (.ref b18), .val (.ref b34), .val (.ref b54), .val (.ref b63), .unset, .unset, .unset, .unset, .unset, .unset, .unset] [(.int e1), (.int (0 : Int32)), (.ref b76), (.ref b76)])) ?_ (fun t k => XS.iload X76.here hx rfl (hb hby at_166) rfl k)
    obtain ⟨cl85, Ar85, SA85, NA85, HA85⟩ := id V76
    have hin85 : ¬ ((0 : Int32) < 0 ∨ cl85.slots.size ≤ ((0 : Int32)).toNatClampNeg) := inb_of SA85 ⟨(by decide), (by decide)⟩
    obtain ⟨T85, h85, X85, e85, W85, st85⟩ := stC X76 hx hZ e76 Ar85 (j := (0 : Int32)) hin85 (g := (mkF m 168 #[.val (.int p1), .val (.int p2), .val (.int p3), .val (.int pp), .val (.int nsx), .val (.int c0), .val (.int c1), .val (.int e0), .val (.int e1), .val (.ref b3), .val (.ref b10), .val (.ref b18), .val (.ref b34), .val (.ref b54), .val (.ref b63), .unset, .unset, .unset, .unset, .unset, .unset, .unset] [(.int e1), (.int (0 : Int32)), (.ref b76), (.ref b76)])) rfl rfl (hb hby at_168)
    have Y85 := Afn.put Ar85 SA85 NA85 HA85 W85 (by decide)
    have sf86_b18 := Safe.wr W85 (Safe.exa hZ.alike EX76 (by decide) (by decide)) CH84.1 sf84_b18
    have sf86_b34 := Safe.wr W85 (Safe.exa hZ.alike EX76 (by decide) (by decide)) CH84.1 sf84_b34
    have CH86 := CHr.trans CH84 (CHr.wr W85 (Safe.exa hZ.alike EX76 (by decide) (by decide)) CH84.1)
    have hk86 := Nat.le_trans hk84 (Keep.of_wr W85).1
    have Z85 : n0 ≤ h85.size := Nat.le_trans Z76 (Keep.of_wr W85).1
    have N85 := Fr.snoc X85 N73 g_b76
    refine Gen.on (b := T85.setTop (mkF m 169 #[.val (.int p1), .val (.int p2), .val (.int p3), .val (.int pp), .val (.int nsx), .val (.int c0), .val (.int c1), .val (.int e0), .val (.int e1), .val (.ref b3), .val (.ref b10), .val (.ref b18), .val (.ref b34), .val (.ref b54), .val (.ref b63), .unset, .unset, .unset, .unset, .unset, .unset, .unset] [(.ref b76)])) ?_ (fun t k => st85 t k)
    refine Gen.on (b := T85.setTop (mkF m 171 #[.val (.int p1), .val (.int p2), .val (.int p3), .val (.int pp), .val (.int nsx), .val (.int c0), .val (.int c1), .val (.int e0), .val (.int e1), .val (.ref b3), .val (.ref b10), .val (.ref b18), .val (.ref b34), .val (.ref b54), .val (.ref b63), .val (.ref b76), .unset, .unset, .unset, .unset, .unset, .unset] [])) ?_ (fun t k => XS.astore X85.here hx rfl (hb hby at_169) rfl rfl (l' := #[.val (.int p1), .val (.int p2), .val (.int p3), .val (.int pp), .val (.int nsx), .val (.int c0), .val (.int c1), .val (.int e0), .val (.int e1), .val (.ref b3), .val (.ref b10), .val (.ref b18), .val (.ref b34), .val (.ref b54), .val (.ref b63), .val (.ref b76), .unset, .unset, .unset, .unset, .unset, .unset]) rfl k)
    have fa88 := ((fa77.ext E76).other W85 ne_b3_b76)
    have fa89 := ((fa78.ext E76).other W85 ne_b10_b76)
    have fa90 := ((fa79.ext E76).wr W85)
    have fa91 := ((fa80.ext E76).other W85 ne_b21_b76)
    have fa92 := ((fa81.ext E76).wr W85)
    have fa93 := ((fa82.ext E76).other W85 ne_b39_b76)
    have fa94 := ((fa83.ext E76).other W85 ne_b54_b76)
    have fa95 := ((Y73.ext E76).other W85 ne_b63_b76)
    obtain ⟨b87, g87⟩ : ∃ z, z = h85.size := ⟨_, rfl⟩
    have ne_b3_b87 : b3 ≠ b87 := Nat.ne_of_lt (Nat.lt_of_lt_of_le fa88.lt (Nat.le_of_eq g87.symm))
    have ne_b10_b87 : b10 ≠ b87 := Nat.ne_of_lt (Nat.lt_of_lt_of_le fa89.lt (Nat.le_of_eq g87.symm))
    have ne_b18_b87 : b18 ≠ b87 := Nat.ne_of_lt (Nat.lt_of_lt_of_le fa90.lt (Nat.le_of_eq g87.symm))
    have ne_b21_b87 : b21 ≠ b87 := Nat.ne_of_lt (Nat.lt_of_lt_of_le fa91.lt (Nat.le_of_eq g87.symm))
    have ne_b34_b87 : b34 ≠ b87 := Nat.ne_of_lt (Nat.lt_of_lt_of_le fa92.lt (Nat.le_of_eq g87.symm))
    have ne_b39_b87 : b39 ≠ b87 := Nat.ne_of_lt (Nat.lt_of_lt_of_le fa93.lt (Nat.le_of_eq g87.symm))
    have ne_b54_b87 : b54 ≠ b87 := Nat.ne_of_lt (Nat.lt_of_lt_of_le fa94.lt (Nat.le_of_eq g87.symm))
    have ne_b63_b87 : b63 ≠ b87 := Nat.ne_of_lt (Nat.lt_of_lt_of_le fa95.lt (Nat.le_of_eq g87.symm))
    have ne_b76_b87 : b76 ≠ b87 := Nat.ne_of_lt (Nat.lt_of_lt_of_le Y85.lt (Nat.le_of_eq g87.symm))
    have g_b87 : n0 ≤ b87 := Nat.le_trans Z85 (Nat.le_of_eq g87.symm)
    obtain ⟨T87, h87, X87, e87, E87, A87, D87, -, st87⟩ := newO X85 hx hZ hown (hw _ (List.mem_of_getElem? (i := 30) rfl)) (hw _ (List.mem_of_getElem? (i := 31) rfl)) (hw _ (List.mem_of_getElem? (i := 32) rfl)) e85 (g := (mkF m 171 #[.val (.int p1), .val (.int p2), .val (.int p3), .val (.int pp), .val (.int nsx), .val (.int c0), .val (.int c1), .val (.int e0), .val (.int e1), .val (.ref b3), .val (.ref b10), .val (.ref b18), .val (.ref b34), .val (.ref b54), .val (.ref b63), .val (.ref b76), .unset, .unset, .unset, .unset, .unset, .unset] [])) rfl (hb hby at_171) (by decide) (by decide)
    rw [← g87] at A87 D87 st87
    have sf96_b18 := Safe.ext E87 CH86.1 sf86_b18
    have sf96_b34 := Safe.ext E87 CH86.1 sf86_b34
    have CH96 := CHr.trans CH86 (CHr.ext E87 CH86.1)
    have hk96 := Nat.le_trans hk86 E87.1
    have Z87 : n0 ≤ h87.size := Nat.le_trans Z85 E87.1
    have F87_attributeNames : Fld Z h87 b87 "com/example/scheherazade/scheherazade/reader/TagParts" "attributeNames" "[Ljava/lang/String;" .null := D87 (Or.inl (hw _ (List.mem_of_getElem? (i := 40) rfl))) (ty := (.array (.object "java/lang/String"))) (by decide)
    have F87_attributePrefixes : Fld Z h87 b87 "com/example/scheherazade/scheherazade/reader/TagParts" "attributePrefixes" "[Z" .null := D87 (Or.inl (hw _ (List.mem_of_getElem? (i := 43) rfl))) (ty := (.array .boolean)) (by decide)
    have F87_attributeSpellings : Fld Z h87 b87 "com/example/scheherazade/scheherazade/reader/TagParts" "attributeSpellings" "[[C" .null := D87 (Or.inl (hw _ (List.mem_of_getElem? (i := 47) rfl))) (ty := (.array (.array .char))) (by decide)
    have F87_valueStarts : Fld Z h87 b87 "com/example/scheherazade/scheherazade/reader/TagParts" "valueStarts" "[I" .null := D87 (Or.inl (hw _ (List.mem_of_getElem? (i := 50) rfl))) (ty := (.array .int)) (by decide)
    have F87_valueLengths : Fld Z h87 b87 "com/example/scheherazade/scheherazade/reader/TagParts" "valueLengths" "[I" .null := D87 (Or.inl (hw _ (List.mem_of_getElem? (i := 52) rfl))) (ty := (.array .int)) (by decide)
    have F87_attributeValues : Fld Z h87 b87 "com/example/scheherazade/scheherazade/reader/TagParts" "attributeValues" "[Ljava/lang/String;" .null := D87 (Or.inl (hw _ (List.mem_of_getElem? (i := 54) rfl))) (ty := (.array (.object "java/lang/String"))) (by decide)
    have F87_name : Fld Z h87 b87 "com/example/scheherazade/scheherazade/reader/TagParts" "name" "Ljava/lang/String;" .null := D87 (Or.inl (hw _ (List.mem_of_getElem? (i := 61) rfl))) (ty := (.object "java/lang/String")) (by decide)
    have F87_prefixed : Fld Z h87 b87 "com/example/scheherazade/scheherazade/reader/TagParts" "prefixed" "Z" (.int (0 : Int32)) := D87 (Or.inl (hw _ (List.mem_of_getElem? (i := 63) rfl))) (ty := .boolean) (by decide)
    have F87_nameSpelling : Fld Z h87 b87 "com/example/scheherazade/scheherazade/reader/TagParts" "nameSpelling" "[C" .null := D87 (Or.inl (hw _ (List.mem_of_getElem? (i := 65) rfl))) (ty := (.array .char)) (by decide)
    have F87_source : Fld Z h87 b87 "com/example/scheherazade/scheherazade/reader/TagParts" "source" "[C" .null := D87 (Or.inl (hw _ (List.mem_of_getElem? (i := 67) rfl))) (ty := (.array .char)) (by decide)
    have F87_attributeCount : Fld Z h87 b87 "com/example/scheherazade/scheherazade/reader/TagParts" "attributeCount" "I" (.int (0 : Int32)) := D87 (Or.inl (hw _ (List.mem_of_getElem? (i := 69) rfl))) (ty := .int) (by decide)
    refine Gen.on (b := T87.setTop (mkF m 174 #[.val (.int p1), .val (.int p2), .val (.int p3), .val (.int pp), .val (.int nsx), .val (.int c0), .val (.int c1), .val (.int e0), .val (.int e1), .val (.ref b3), .val (.ref b10), .val (.ref b18), .val (.ref b34), .val (.ref b54), .val (.ref b63), .val (.ref b76), .unset, .unset, .unset, .unset, .unset, .unset] [(.ref b87)])) ?_ (fun t k => st87 t k)
    refine Gen.on (b := T87.setTop (mkF m 175 #[.val (.int p1), .val (.int p2), .val (.int p3), .val (.int pp), .val (.int nsx), .val (.int c0), .val (.int c1), .val (.int e0), .val (.int e1), .val (.ref b3), .val (.ref b10), .val (.ref b18), .val (.ref b34), .val (.ref b54), .val (.ref b63), .val (.ref b76), .unset, .unset, .unset, .unset, .unset, .unset] [(.ref b87), (.ref b87)])) ?_ (fun t k => XS.dup X87.here hx rfl (hb hby at_174) rfl rfl k)
    have fa98 := (fa88.ext E87)
    have fa99 := (fa89.ext E87)
    have fa100 := (fa90.ext E87)
    have fa101 := (fa91.ext E87)
    have fa102 := (fa92.ext E87)
    have fa103 := (fa93.ext E87)
    have fa104 := (fa94.ext E87)
    have fa105 := (fa95.ext E87)
    have fa106 := (Y85.ext E87)
    obtain ⟨_, _, ⟨T97, L97, k97, n97⟩, -, X97, ⟨Lc97, hQ97, l97, y97, z97⟩, st97⟩ := X87.specialBack hx (y := (⟨"com/example/scheherazade/scheherazade/reader/TagParts", "<init>", "()V"⟩ : MethodName)) rfl hown (mvT hZ (hw _ (List.mem_of_getElem? (i := 33) rfl))) (mvT hZ (hw _ (List.mem_of_getElem? (i := 34) rfl))) (mvT hZ (hw _ (List.mem_of_getElem? (i := 35) rfl))) (by decide) (backOf (W := 1) (rm7 l Z a0 hw [] b87  h87 n0 Z87 A87 F87_name F87_prefixed F87_nameSpelling F87_source F87_attributeCount F87_attributeNames F87_attributePrefixes F87_attributeSpellings F87_valueStarts F87_valueLengths F87_attributeValues g_b87) hZ (hw _ (List.mem_of_getElem? (i := 35) rfl)) (hw _ (List.mem_of_getElem? (i := 32) rfl)) (by decide) (by decide)) (g := (mkF m 175 #[.val (.int p1), .val (.int p2), .val (.int p3), .val (.int pp), .val (.int nsx), .val (.int c0), .val (.int c1), .val (.int e0), .val (.int e1), .val (.ref b3), .val (.ref b10), .val (.ref b18), .val (.ref b34), .val (.ref b54), .val (.ref b63), .val (.ref b76), .unset, .unset, .unset, .unset, .unset, .unset] [(.ref b87), (.ref b87)])) rfl (by rw [hml]; rfl) (Steps.refl _) (a := b87) (argsL := []) (rest := [(.ref b87)]) (lenOf pd_0_1 rfl) rfl (by show 2 * 0 + _ ≤ _; exact Nat.le_of_eq rfl) (hb hby at_175) (fun _ _ => ⟨rfl, e87, (by decide : 12 + 6 ≤ _), (by decide : 36 + 24 ≤ _)⟩)
    dsimp only [Pt.U, Pt.locs, Pt.cells, Pt.slots] at X97 l97 y97 z97 st97 hQ97
    subst l97 y97 z97
    obtain ⟨rfl, N97q, Kc97, m1_97, m2_97, m3_97, m4_97, m5_97, m6_97, kq1_97, kq2_97, kq3_97, kq4_97, kq5_97, kq6_97, hf97_0, hf97_1, hf97_2, hf97_3, hf97_4, hf97_5, hf97_6, hf97_7, hf97_8, hf97_9, hf97_10, hf97_11, hf97_12, hf97_13, hf97_14, hf97_15, hf97_16, hf97_17, ov1_97, ov3_97, ov6_97, ne_m1_97_m2_97, ne_m1_97_m3_97, ne_m1_97_m4_97, ne_m1_97_m5_97, ne_m1_97_m6_97, ne_m2_97_m3_97, ne_m2_97_m4_97, ne_m2_97_m5_97, ne_m2_97_m6_97, ne_m3_97_m4_97, ne_m3_97_m5_97, ne_m3_97_m6_97, ne_m4_97_m5_97, ne_m4_97_m6_97, ne_m5_97_m6_97, zz_m1_97, zz_m2_97, zz_m3_97, zz_m4_97, zz_m5_97, zz_m6_97⟩ := hQ97
    have N97 := Fr.app N85 N97q
    have g_m1_97 : n0 ≤ m1_97 := Nat.le_trans Z87 zz_m1_97
    have ne_b3_m1_97 : b3 ≠ m1_97 := Nat.ne_of_lt (Nat.lt_of_lt_of_le fa98.lt zz_m1_97)
    have ne_b10_m1_97 : b10 ≠ m1_97 := Nat.ne_of_lt (Nat.lt_of_lt_of_le fa99.lt zz_m1_97)
    have ne_b18_m1_97 : b18 ≠ m1_97 := Nat.ne_of_lt (Nat.lt_of_lt_of_le fa100.lt zz_m1_97)
    have ne_b21_m1_97 : b21 ≠ m1_97 := Nat.ne_of_lt (Nat.lt_of_lt_of_le fa101.lt zz_m1_97)
    have ne_b34_m1_97 : b34 ≠ m1_97 := Nat.ne_of_lt (Nat.lt_of_lt_of_le fa102.lt zz_m1_97)
    have ne_b39_m1_97 : b39 ≠ m1_97 := Nat.ne_of_lt (Nat.lt_of_lt_of_le fa103.lt zz_m1_97)
    have ne_b54_m1_97 : b54 ≠ m1_97 := Nat.ne_of_lt (Nat.lt_of_lt_of_le fa104.lt zz_m1_97)
    have ne_b63_m1_97 : b63 ≠ m1_97 := Nat.ne_of_lt (Nat.lt_of_lt_of_le fa105.lt zz_m1_97)
    have ne_b76_m1_97 : b76 ≠ m1_97 := Nat.ne_of_lt (Nat.lt_of_lt_of_le fa106.lt zz_m1_97)
    have ne_b87_m1_97 : b87 ≠ m1_97 := Nat.ne_of_lt (Nat.lt_of_lt_of_le A87.lt zz_m1_97)
    have g_m2_97 : n0 ≤ m2_97 := Nat.le_trans Z87 zz_m2_97
    have ne_b3_m2_97 : b3 ≠ m2_97 := Nat.ne_of_lt (Nat.lt_of_lt_of_le fa98.lt zz_m2_97)
    have ne_b10_m2_97 : b10 ≠ m2_97 := Nat.ne_of_lt (Nat.lt_of_lt_of_le fa99.lt zz_m2_97)
    have ne_b18_m2_97 : b18 ≠ m2_97 := Nat.ne_of_lt (Nat.lt_of_lt_of_le fa100.lt zz_m2_97)
    have ne_b21_m2_97 : b21 ≠ m2_97 := Nat.ne_of_lt (Nat.lt_of_lt_of_le fa101.lt zz_m2_97)
    have ne_b34_m2_97 : b34 ≠ m2_97 := Nat.ne_of_lt (Nat.lt_of_lt_of_le fa102.lt zz_m2_97)
    have ne_b39_m2_97 : b39 ≠ m2_97 := Nat.ne_of_lt (Nat.lt_of_lt_of_le fa103.lt zz_m2_97)
    have ne_b54_m2_97 : b54 ≠ m2_97 := Nat.ne_of_lt (Nat.lt_of_lt_of_le fa104.lt zz_m2_97)
    have ne_b63_m2_97 : b63 ≠ m2_97 := Nat.ne_of_lt (Nat.lt_of_lt_of_le fa105.lt zz_m2_97)
    have ne_b76_m2_97 : b76 ≠ m2_97 := Nat.ne_of_lt (Nat.lt_of_lt_of_le fa106.lt zz_m2_97)
    have ne_b87_m2_97 : b87 ≠ m2_97 := Nat.ne_of_lt (Nat.lt_of_lt_of_le A87.lt zz_m2_97)
    have g_m3_97 : n0 ≤ m3_97 := Nat.le_trans Z87 zz_m3_97
    have ne_b3_m3_97 : b3 ≠ m3_97 := Nat.ne_of_lt (Nat.lt_of_lt_of_le fa98.lt zz_m3_97)
    have ne_b10_m3_97 : b10 ≠ m3_97 := Nat.ne_of_lt (Nat.lt_of_lt_of_le fa99.lt zz_m3_97)
    have ne_b18_m3_97 : b18 ≠ m3_97 := Nat.ne_of_lt (Nat.lt_of_lt_of_le fa100.lt zz_m3_97)
    have ne_b21_m3_97 : b21 ≠ m3_97 := Nat.ne_of_lt (Nat.lt_of_lt_of_le fa101.lt zz_m3_97)
    have ne_b34_m3_97 : b34 ≠ m3_97 := Nat.ne_of_lt (Nat.lt_of_lt_of_le fa102.lt zz_m3_97)
    have ne_b39_m3_97 : b39 ≠ m3_97 := Nat.ne_of_lt (Nat.lt_of_lt_of_le fa103.lt zz_m3_97)
    have ne_b54_m3_97 : b54 ≠ m3_97 := Nat.ne_of_lt (Nat.lt_of_lt_of_le fa104.lt zz_m3_97)
    have ne_b63_m3_97 : b63 ≠ m3_97 := Nat.ne_of_lt (Nat.lt_of_lt_of_le fa105.lt zz_m3_97)
    have ne_b76_m3_97 : b76 ≠ m3_97 := Nat.ne_of_lt (Nat.lt_of_lt_of_le fa106.lt zz_m3_97)
    have ne_b87_m3_97 : b87 ≠ m3_97 := Nat.ne_of_lt (Nat.lt_of_lt_of_le A87.lt zz_m3_97)
    have g_m4_97 : n0 ≤ m4_97 := Nat.le_trans Z87 zz_m4_97
    have ne_b3_m4_97 : b3 ≠ m4_97 := Nat.ne_of_lt (Nat.lt_of_lt_of_le fa98.lt zz_m4_97)
    have ne_b10_m4_97 : b10 ≠ m4_97 := Nat.ne_of_lt (Nat.lt_of_lt_of_le fa99.lt zz_m4_97)
    have ne_b18_m4_97 : b18 ≠ m4_97 := Nat.ne_of_lt (Nat.lt_of_lt_of_le fa100.lt zz_m4_97)
    have ne_b21_m4_97 : b21 ≠ m4_97 := Nat.ne_of_lt (Nat.lt_of_lt_of_le fa101.lt zz_m4_97)
    have ne_b34_m4_97 : b34 ≠ m4_97 := Nat.ne_of_lt (Nat.lt_of_lt_of_le fa102.lt zz_m4_97)
    have ne_b39_m4_97 : b39 ≠ m4_97 := Nat.ne_of_lt (Nat.lt_of_lt_of_le fa103.lt zz_m4_97)
    have ne_b54_m4_97 : b54 ≠ m4_97 := Nat.ne_of_lt (Nat.lt_of_lt_of_le fa104.lt zz_m4_97)
    have ne_b63_m4_97 : b63 ≠ m4_97 := Nat.ne_of_lt (Nat.lt_of_lt_of_le fa105.lt zz_m4_97)
    have ne_b76_m4_97 : b76 ≠ m4_97 := Nat.ne_of_lt (Nat.lt_of_lt_of_le fa106.lt zz_m4_97)
    have ne_b87_m4_97 : b87 ≠ m4_97 := Nat.ne_of_lt (Nat.lt_of_lt_of_le A87.lt zz_m4_97)
    have g_m5_97 : n0 ≤ m5_97 := Nat.le_trans Z87 zz_m5_97
    have ne_b3_m5_97 : b3 ≠ m5_97 := Nat.ne_of_lt (Nat.lt_of_lt_of_le fa98.lt zz_m5_97)
    have ne_b10_m5_97 : b10 ≠ m5_97 := Nat.ne_of_lt (Nat.lt_of_lt_of_le fa99.lt zz_m5_97)
    have ne_b18_m5_97 : b18 ≠ m5_97 := Nat.ne_of_lt (Nat.lt_of_lt_of_le fa100.lt zz_m5_97)
    have ne_b21_m5_97 : b21 ≠ m5_97 := Nat.ne_of_lt (Nat.lt_of_lt_of_le fa101.lt zz_m5_97)
    have ne_b34_m5_97 : b34 ≠ m5_97 := Nat.ne_of_lt (Nat.lt_of_lt_of_le fa102.lt zz_m5_97)
    have ne_b39_m5_97 : b39 ≠ m5_97 := Nat.ne_of_lt (Nat.lt_of_lt_of_le fa103.lt zz_m5_97)
    have ne_b54_m5_97 : b54 ≠ m5_97 := Nat.ne_of_lt (Nat.lt_of_lt_of_le fa104.lt zz_m5_97)
    have ne_b63_m5_97 : b63 ≠ m5_97 := Nat.ne_of_lt (Nat.lt_of_lt_of_le fa105.lt zz_m5_97)
    have ne_b76_m5_97 : b76 ≠ m5_97 := Nat.ne_of_lt (Nat.lt_of_lt_of_le fa106.lt zz_m5_97)
    have ne_b87_m5_97 : b87 ≠ m5_97 := Nat.ne_of_lt (Nat.lt_of_lt_of_le A87.lt zz_m5_97)
    have g_m6_97 : n0 ≤ m6_97 := Nat.le_trans Z87 zz_m6_97
    have ne_b3_m6_97 : b3 ≠ m6_97 := Nat.ne_of_lt (Nat.lt_of_lt_of_le fa98.lt zz_m6_97)
    have ne_b10_m6_97 : b10 ≠ m6_97 := Nat.ne_of_lt (Nat.lt_of_lt_of_le fa99.lt zz_m6_97)
    have ne_b18_m6_97 : b18 ≠ m6_97 := Nat.ne_of_lt (Nat.lt_of_lt_of_le fa100.lt zz_m6_97)
    have ne_b21_m6_97 : b21 ≠ m6_97 := Nat.ne_of_lt (Nat.lt_of_lt_of_le fa101.lt zz_m6_97)
    have ne_b34_m6_97 : b34 ≠ m6_97 := Nat.ne_of_lt (Nat.lt_of_lt_of_le fa102.lt zz_m6_97)
    have ne_b39_m6_97 : b39 ≠ m6_97 := Nat.ne_of_lt (Nat.lt_of_lt_of_le fa103.lt zz_m6_97)
    have ne_b54_m6_97 : b54 ≠ m6_97 := Nat.ne_of_lt (Nat.lt_of_lt_of_le fa104.lt zz_m6_97)
    have ne_b63_m6_97 : b63 ≠ m6_97 := Nat.ne_of_lt (Nat.lt_of_lt_of_le fa105.lt zz_m6_97)
    have ne_b76_m6_97 : b76 ≠ m6_97 := Nat.ne_of_lt (Nat.lt_of_lt_of_le fa106.lt zz_m6_97)
    have ne_b87_m6_97 : b87 ≠ m6_97 := Nat.ne_of_lt (Nat.lt_of_lt_of_le A87.lt zz_m6_97)
    have sf107_b18 := Safe.keep Kc97 (sfS (Safe.exa hZ.alike A87 (by decide) (by decide)) sf0) CH96.1 sf96_b18
    have sf107_b34 := Safe.keep Kc97 (sfS (Safe.exa hZ.alike A87 (by decide) (by decide)) sf0) CH96.1 sf96_b34
    have CH107 := CHr.trans CH96 (CHr.keep Kc97 (sfS (Safe.exa hZ.alike A87 (by decide) (by decide)) sf0) CH96.1)
    have hk107 := Nat.le_trans hk96 Kc97.1
    have Z97 : n0 ≤ T97.heap.size := Nat.le_trans Z87 Kc97.1
    refine Gen.on (b := T97.setTop (mkF m 178 #[.val (.int p1), .val (.int p2), .val (.int p3), .val (.int pp), .val (.int nsx), .val (.int c0), .val (.int c1), .val (.int e0), .val (.int e1), .val (.ref b3), .val (.ref b10), .val (.ref b18), .val (.ref b34), .val (.ref b54), .val (.ref b63), .val (.ref b76), .unset, .unset, .unset, .unset, .unset, .unset] [(.ref b87)])) ?_ (fun t k => st97.trans k)
    refine Gen.on (b := T97.setTop (mkF m 180 #[.val (.int p1), .val (.int p2), .val (.int p3), .val (.int pp), .val (.int nsx), .val (.int c0), .val (.int c1), .val (.int e0), .val (.int e1), .val (.ref b3), .val (.ref b10), .val (.ref b18), .val (.ref b34), .val (.ref b54), .val (.ref b63), .val (.ref b76), .val (.ref b87), .unset, .unset, .unset, .unset, .unset] [])) ?_ (fun t k => XS.astore X97.here hx rfl (hb hby at_178) rfl rfl (l' := #[.val (.int p1), .val (.int p2), .val (.int p3), .val (.int pp), .val (.int nsx), .val (.int c0), .val (.int c1), .val (.int e0), .val (.int e1), .val (.ref b3), .val (.ref b10), .val (.ref b18), .val (.ref b34), .val (.ref b54), .val (.ref b63), .val (.ref b76), .val (.ref b87), .unset, .unset, .unset, .unset, .unset]) rfl k)
    have fa108 := ((((((((((fa52.keep Kc48 (allS g_b34 all0)).ext E54).wr W61 g_b54).ext E63).wr W71 g_b63).wr W73 g_b63).ext E76).wr W85 g_b76).ext E87).keep Kc97 (allS g_b87 all0))
    have fa109 := (fa98.keep Kc97 (ninS ne_b3_b87 nin0))
    have fa110 := (((((((((((((((((((((fa9.wr W7).ext E10).wr W12).wr W14).ext E18).ext E21).wr W25).keep Kc28).ext E34).ext E39).wr W45).keep Kc48).ext E54).wr W61).ext E63).wr W71).wr W73).ext E76).wr W85).ext E87).keep Kc97)
    have fa111 := (fa99.keep Kc97 (ninS ne_b10_b87 nin0))
    have fa112 := ((((((((((((((((((fa16.wr W14).ext E18).ext E21).wr W25).keep Kc28).ext E34).ext E39).wr W45).keep Kc48).ext E54).wr W61).ext E63).wr W71).wr W73).ext E76).wr W85).ext E87).keep Kc97)
    have fa113 := (fa100.keep Kc97)
    have fa114 := (fa101.keep Kc97 (ninS ne_b21_b87 nin0))
    have fa115 := (((((((((((((((EX21.wr W25).keep Kc28).ext E34).ext E39).wr W45).keep Kc48).ext E54).wr W61).ext E63).wr W71).wr W73).ext E76).wr W85).ext E87).keep Kc97)
    have fa116 := (fa102.keep Kc97)
    have fa117 := (fa103.keep Kc97 (ninS ne_b39_b87 nin0))
    have fa118 := (((((((((((EX39.wr W45).keep Kc48).ext E54).wr W61).ext E63).wr W71).wr W73).ext E76).wr W85).ext E87).keep Kc97)
    have fa119 := (fa104.keep Kc97 (ninS ne_b54_b87 nin0))
    have fa120 := ((((((((EX54.wr W61).ext E63).wr W71).wr W73).ext E76).wr W85).ext E87).keep Kc97)
    have fa121 := (fa105.keep Kc97 (ninS ne_b63_b87 nin0))
    have fa122 := (((((fa75.wr W73).ext E76).wr W85).ext E87).keep Kc97)
    have fa123 := (fa106.keep Kc97 (ninS ne_b76_b87 nin0))
    have fa124 := (((EX76.wr W85).ext E87).keep Kc97)
    exact seg125 hw hx hby hml Bd.returns Bd.notSynchronized hh sts hZ hown X97 N97 Z97 hS0 hk107 CH107 fa108 fa109 fa110 fa111 fa112 fa113 fa114 fa115 fa116 fa117 fa118 fa119 fa120 fa121 fa122 fa123 fa124 hf97_0 hf97_1 hf97_2 hf97_3 hf97_4 hf97_5 hf97_6 hf97_7 hf97_8 hf97_9 hf97_10 hf97_11 hf97_12 hf97_13 hf97_14 hf97_15 hf97_16 hf97_17 sf107_b18 sf107_b34 ne_b3_b87 ne_b10_b87 ne_b21_b87 ne_b39_b87 ne_b54_b87 ne_b63_b87 ne_b76_b87 ne_b3_m1_97 ne_b10_m1_97 ne_b21_m1_97 ne_b39_m1_97 ne_b54_m1_97 ne_b63_m1_97 ne_b76_m1_97 ne_b87_m1_97 ne_b3_m2_97 ne_b10_m2_97 ne_b21_m2_97 ne_b39_m2_97 ne_b54_m2_97 ne_b63_m2_97 ne_b76_m2_97 ne_b87_m2_97 ne_b3_m3_97 ne_b10_m3_97 ne_b21_m3_97 ne_b39_m3_97 ne_b54_m3_97 ne_b63_m3_97 ne_b76_m3_97 ne_b87_m3_97 ne_b3_m4_97 ne_b10_m4_97 ne_b21_m4_97 ne_b39_m4_97 ne_b54_m4_97 ne_b63_m4_97 ne_b76_m4_97 ne_b87_m4_97 ne_b3_m5_97 ne_b10_m5_97 ne_b21_m5_97 ne_b39_m5_97 ne_b54_m5_97 ne_b63_m5_97 ne_b76_m5_97 ne_b87_m5_97 ne_b3_m6_97 ne_b10_m6_97 ne_b21_m6_97 ne_b39_m6_97 ne_b54_m6_97 ne_b63_m6_97 ne_b76_m6_97 ne_b87_m6_97 ne_m1_97_m2_97 ne_m1_97_m3_97 ne_m1_97_m4_97 ne_m1_97_m5_97 ne_m1_97_m6_97 ne_m2_97_m3_97 ne_m2_97_m4_97 ne_m2_97_m5_97 ne_m2_97_m6_97 ne_m3_97_m4_97 ne_m3_97_m5_97 ne_m3_97_m6_97 ne_m4_97_m5_97 ne_m4_97_m6_97 ne_m5_97_m6_97 g_b87 g_m1_97 g_m2_97 g_m3_97 g_m4_97 g_m5_97 g_m6_97 ov1_97 ov3_97 ov6_97 k_pp k_c0 k_c1
  · refine Gen.on (b := T61.setTop (mkF m 142 #[.val (.int p1), .val (.int p2), .val (.int p3), .val (.int pp), .val (.int nsx), .val (.int c0), .val (.int c1), .val (.int e0), .val (.int e1), .val (.ref b3), .val (.ref b10), .val (.ref b18), .val (.ref b34), .val (.ref b54), .unset, .unset, .unset, .unset, .unset, .unset, .unset, .unset] [])) ?_ (fun t k => XS.ifNo X61.here hx rfl (hb hby at_139) rfl ((if0 _ _).trans (feq c139_3).1) k)
    refine Gen.on (b := T61.setTop (mkF m 143 #[.val (.int p1), .val (.int p2), .val (.int p3), .val (.int pp), .val (.int nsx), .val (.int c0), .val (.int c1), .val (.int e0), .val (.int e1), .val (.ref b3), .val (.ref b10), .val (.ref b18), .val (.ref b34), .val (.ref b54), .unset, .unset, .unset, .unset, .unset, .unset, .unset, .unset] [.null])) ?_ (fun t k => XS.aconstNull X61.here hx rfl (hb hby at_142) k)
    refine Gen.on (b := T61.setTop (mkF m 159 #[.val (.int p1), .val (.int p2), .val (.int p3), .val (.int pp), .val (.int nsx), .val (.int c0), .val (.int c1), .val (.int e0), .val (.int e1), .val (.ref b3), .val (.ref b10), .val (.ref b18), .val (.ref b34), .val (.ref b54), .unset, .unset, .unset, .unset, .unset, .unset, .unset, .unset] [.null])) ?_ (fun t k => XS.goto X61.here hx rfl (pc0 := 143) (pc' := 159) rfl (hb hby at_143) (by decide) (by decide) k)
    refine Gen.on (b := T61.setTop (mkF m 161 #[.val (.int p1), .val (.int p2), .val (.int p3), .val (.int pp), .val (.int nsx), .val (.int c0), .val (.int c1), .val (.int e0), .val (.int e1), .val (.ref b3), .val (.ref b10), .val (.ref b18), .val (.ref b34), .val (.ref b54), .val .null, .unset, .unset, .unset, .unset, .unset, .unset, .unset] [])) ?_ (fun t k => XS.astore X61.here hx rfl (hb hby at_159) rfl rfl (l' := #[.val (.int p1), .val (.int p2), .val (.int p3), .val (.int pp), .val (.int nsx), .val (.int c0), .val (.int c1), .val (.int e0), .val (.int e1), .val (.ref b3), .val (.ref b10), .val (.ref b18), .val (.ref b34), .val (.ref b54), .val .null, .unset, .unset, .unset, .unset, .unset, .unset, .unset]) rfl k)
    refine Gen.on (b := T61.setTop (mkF m 162 #[.val (.int p1), .val (.int p2), .val (.int p3), .val (.int pp), .val (.int nsx), .val (.int c0), .val (.int c1), .val (.int e0), .val (.int e1), .val (.ref b3), .val (.ref b10), .val (.ref b18), .val (.ref b34), .val (.ref b54), .val .null, .unset, .unset, .unset, .unset, .unset, .unset, .unset] [(.int (1 : Int32))])) ?_ (fun t k => XS.iconst X61.here hx rfl (hb hby at_161) k)
    have fa245 := ((fa55.ext E54).other W61 ne_b3_b54)
    have fa246 := ((fa56.ext E54).other W61 ne_b10_b54)
    have fa247 := ((fa57.ext E54).wr W61)
    have fa248 := ((fa58.ext E54).other W61 ne_b21_b54)
    have fa249 := ((hf48_0.ext E54).wr W61)
    have fa250 := ((fa59.ext E54).other W61 ne_b39_b54)
    obtain ⟨b244, g244⟩ : ∃ z, z = h61.size := ⟨_, rfl⟩
    have ne_b3_b244 : b3 ≠ b244 := Nat.ne_of_lt (Nat.lt_of_lt_of_le fa245.lt (Nat.le_of_eq g244.symm))
    have ne_b10_b244 : b10 ≠ b244 := Nat.ne_of_lt (Nat.lt_of_lt_of_le fa246.lt (Nat.le_of_eq g244.symm))
    have ne_b18_b244 : b18 ≠ b244 := Nat.ne_of_lt (Nat.lt_of_lt_of_le fa247.lt (Nat.le_of_eq g244.symm))
    have ne_b21_b244 : b21 ≠ b244 := Nat.ne_of_lt (Nat.lt_of_lt_of_le fa248.lt (Nat.le_of_eq g244.symm))
    have ne_b34_b244 : b34 ≠ b244 := Nat.ne_of_lt (Nat.lt_of_lt_of_le fa249.lt (Nat.le_of_eq g244.symm))
    have ne_b39_b244 : b39 ≠ b244 := Nat.ne_of_lt (Nat.lt_of_lt_of_le fa250.lt (Nat.le_of_eq g244.symm))
    have ne_b54_b244 : b54 ≠ b244 := Nat.ne_of_lt (Nat.lt_of_lt_of_le Y61.lt (Nat.le_of_eq g244.symm))
    have g_b244 : n0 ≤ b244 := Nat.le_trans Z61 (Nat.le_of_eq g244.symm)
    obtain ⟨T244, h244, k244, X244, e244, E244, A244, EX244, st244⟩ := newPE X61 hx hZ (hw _ (List.mem_of_getElem? (i := 0) rfl)) e61 (g := (mkF m 162 #[.val (.int p1), .val (.int p2), .val (.int p3), .val (.int pp), .val (.int nsx), .val (.int c0), .val (.int c1), .val (.int e0), .val (.int e1), .val (.ref b3), .val (.ref b10), .val (.ref b18), .val (.ref b34), .val (.ref b54), .val .null, .unset, .unset, .unset, .unset, .unset, .unset, .unset] [(.int (1 : Int32))])) rfl (hb hby at_162) rfl (by decide) (cap := 1) (by decide) (by decide) (by decide) (by decide) (ad := "[C") (by decide)
    rw [← g244] at A244 EX244 st244
    have sf251_b18 := Safe.ext E244 CH62.1 sf62_b18
    have sf251_b34 := Safe.ext E244 CH62.1 sf62_b34
    have CH251 := CHr.trans CH62 (CHr.ext E244 CH62.1)
    have hk251 := Nat.le_trans hk62 E244.1
    have Z244 : n0 ≤ h244.size := Nat.le_trans Z61 E244.1
    have V244 : Afn Z h244 b244 .char (1 : Int32) (fun _ => 0) := Afn.new A244 (by decide) rfl
    refine Gen.on (b := T244.setTop (mkF m 164 #[.val (.int p1), .val (.int p2), .val (.int p3), .val (.int pp), .val (.int nsx), .val (.int c0), .val (.int c1), .val (.int e0), .val (.int e1), .val (.ref b3), .val (.ref b10), .val (.ref b18), .val (.ref b34), .val (.ref b54), .val .null, .unset, .unset, .unset, .unset, .unset, .unset, .unset] [(.ref b244)])) ?_ (fun t k => st244 t k)
    refine Gen.on (b := T244.setTop (mkF m 165 #[.val (.int p1), .val (.int p2), .val (.int p3), .val (.int pp), .val (.int nsx), .val (.int c0), .val (.int c1), .val (.int e0), .val (.int e1), .val (.ref b3), .val (.ref b10), .val (.ref b18), .val (.ref b34), .val (.ref b54), .val .null, .unset, .unset, .unset, .unset, .unset, .unset, .unset] [(.ref b244), (.ref b244)])) ?_ (fun t k => XS.dup X244.here hx rfl (hb hby at_164) rfl rfl k)
    refine Gen.on (b := T244.setTop (mkF m 166 #[.val (.int p1), .val (.int p2), .val (.int p3), .val (.int pp), .val (.int nsx), .val (.int c0), .val (.int c1), .val (.int e0), .val (.int e1), .val (.ref b3), .val (.ref b10), .val (.ref b18), .val (.ref b34), .val (.ref b54), .val .null, .unset, .unset, .unset, .unset, .unset, .unset, .unset] [(.int (0 : Int32)), (.ref b244), (.ref b244)])) ?_ (fun t k => XS.iconst X244.here hx rfl (hb hby at_165) k)
    refine Gen.on (b := T244.setTop (mkF m 168 #[.val (.int p1), .val (.int p2), .val (.int p3), .val (.int pp), .val (.int nsx), .val (.int c0), .val (.int c1), .val (.int e0), .val (.int e1), .val (.ref b3), .val (.ref b10), .val (.ref b18), .val (.ref b34), .val (.ref b54), .val .null, .unset, .unset, .unset, .unset, .unset, .unset, .unset] [(.int e1), (.int (0 : Int32)), (.ref b244), (.ref b244)])) ?_ (fun t k => XS.iload X244.here hx rfl (hb hby at_166) rfl k)
    obtain ⟨cl252, Ar252, SA252, NA252, HA252⟩ := id V244
    have hin252 : ¬ ((0 : Int32) < 0 ∨ cl252.slots.size ≤ ((0 : Int32)).toNatClampNeg) := inb_of SA252 ⟨(by decide), (by decide)⟩
    obtain ⟨T252, h252, X252, e252, W252, st252⟩ := stC X244 hx hZ e244 Ar252 (j := (0 : Int32)) hin252 (g := (mkF m 168 #[.val (.int p1), .val (.int p2), .val (.int p3), .val (.int pp), .val (.int nsx), .val (.int c0), .val (.int c1), .val (.int e0), .val (.int e1), .val (.ref b3), .val (.ref b10), .val (.ref b18), .val (.ref b34), .val (.ref b54), .val .null, .unset, .unset, .unset, .unset, .unset, .unset, .unset] [(.int e1), (.int (0 : Int32)), (.ref b244), (.ref b244)])) rfl rfl (hb hby at_168)
    have Y252 := Afn.put Ar252 SA252 NA252 HA252 W252 (by decide)
    have sf253_b18 := Safe.wr W252 (Safe.exa hZ.alike EX244 (by decide) (by decide)) CH251.1 sf251_b18
    have sf253_b34 := Safe.wr W252 (Safe.exa hZ.alike EX244 (by decide) (by decide)) CH251.1 sf251_b34
    have CH253 := CHr.trans CH251 (CHr.wr W252 (Safe.exa hZ.alike EX244 (by decide) (by decide)) CH251.1)
    have hk253 := Nat.le_trans hk251 (Keep.of_wr W252).1
    have Z252 : n0 ≤ h252.size := Nat.le_trans Z244 (Keep.of_wr W252).1
    have N252 := Fr.snoc X252 N61 g_b244
    refine Gen.on (b := T252.setTop (mkF m 169 #[.val (.int p1), .val (.int p2), .val (.int p3), .val (.int pp), .val (.int nsx), .val (.int c0), .val (.int c1), .val (.int e0), .val (.int e1), .val (.ref b3), .val (.ref b10), .val (.ref b18), .val (.ref b34), .val (.ref b54), .val .null, .unset, .unset, .unset, .unset, .unset, .unset, .unset] [(.ref b244)])) ?_ (fun t k => st252 t k)
    refine Gen.on (b := T252.setTop (mkF m 171 #[.val (.int p1), .val (.int p2), .val (.int p3), .val (.int pp), .val (.int nsx), .val (.int c0), .val (.int c1), .val (.int e0), .val (.int e1), .val (.ref b3), .val (.ref b10), .val (.ref b18), .val (.ref b34), .val (.ref b54), .val .null, .val (.ref b244), .unset, .unset, .unset, .unset, .unset, .unset] [])) ?_ (fun t k => XS.astore X252.here hx rfl (hb hby at_169) rfl rfl (l' := #[.val (.int p1), .val (.int p2), .val (.int p3), .val (.int pp), .val (.int nsx), .val (.int c0), .val (.int c1), .val (.int e0), .val (.int e1), .val (.ref b3), .val (.ref b10), .val (.ref b18), .val (.ref b34), .val (.ref b54), .val .null, .val (.ref b244), .unset, .unset, .unset, .unset, .unset, .unset]) rfl k)
    have fa255 := ((fa245.ext E244).other W252 ne_b3_b244)
    have fa256 := ((fa246.ext E244).other W252 ne_b10_b244)
    have fa257 := ((fa247.ext E244).wr W252)
    have fa258 := ((fa248.ext E244).other W252 ne_b21_b244)
    have fa259 := ((fa249.ext E244).wr W252)
    have fa260 := ((fa250.ext E244).other W252 ne_b39_b244)
    have fa261 := ((Y61.ext E244).other W252 ne_b54_b244)
    obtain ⟨b254, g254⟩ : ∃ z, z = h252.size := ⟨_, rfl⟩
    have ne_b3_b254 : b3 ≠ b254 := Nat.ne_of_lt (Nat.lt_of_lt_of_le fa255.lt (Nat.le_of_eq g254.symm))
    have ne_b10_b254 : b10 ≠ b254 := Nat.ne_of_lt (Nat.lt_of_lt_of_le fa256.lt (Nat.le_of_eq g254.symm))
    have ne_b18_b254 : b18 ≠ b254 := Nat.ne_of_lt (Nat.lt_of_lt_of_le fa257.lt (Nat.le_of_eq g254.symm))
    have ne_b21_b254 : b21 ≠ b254 := Nat.ne_of_lt (Nat.lt_of_lt_of_le fa258.lt (Nat.le_of_eq g254.symm))
    have ne_b34_b254 : b34 ≠ b254 := Nat.ne_of_lt (Nat.lt_of_lt_of_le fa259.lt (Nat.le_of_eq g254.symm))
    have ne_b39_b254 : b39 ≠ b254 := Nat.ne_of_lt (Nat.lt_of_lt_of_le fa260.lt (Nat.le_of_eq g254.symm))
    have ne_b54_b254 : b54 ≠ b254 := Nat.ne_of_lt (Nat.lt_of_lt_of_le fa261.lt (Nat.le_of_eq g254.symm))
    have ne_b244_b254 : b244 ≠ b254 := Nat.ne_of_lt (Nat.lt_of_lt_of_le Y252.lt (Nat.le_of_eq g254.symm))
    have g_b254 : n0 ≤ b254 := Nat.le_trans Z252 (Nat.le_of_eq g254.symm)
    obtain ⟨T254, h254, X254, e254, E254, A254, D254, -, st254⟩ := newO X252 hx hZ hown (hw _ (List.mem_of_getElem? (i := 30) rfl)) (hw _ (List.mem_of_getElem? (i := 31) rfl)) (hw _ (List.mem_of_getElem? (i := 32) rfl)) e252 (g := (mkF m 171 #[.val (.int p1), .val (.int p2), .val (.int p3), .val (.int pp), .val (.int nsx), .val (.int c0), .val (.int c1), .val (.int e0), .val (.int e1), .val (.ref b3), .val (.ref b10), .val (.ref b18), .val (.ref b34), .val (.ref b54), .val .null, .val (.ref b244), .unset, .unset, .unset, .unset, .unset, .unset] [])) rfl (hb hby at_171) (by decide) (by decide)
    rw [← g254] at A254 D254 st254
    have sf262_b18 := Safe.ext E254 CH253.1 sf253_b18
    have sf262_b34 := Safe.ext E254 CH253.1 sf253_b34
    have CH262 := CHr.trans CH253 (CHr.ext E254 CH253.1)
    have hk262 := Nat.le_trans hk253 E254.1
    have Z254 : n0 ≤ h254.size := Nat.le_trans Z252 E254.1
    have F254_attributeNames : Fld Z h254 b254 "com/example/scheherazade/scheherazade/reader/TagParts" "attributeNames" "[Ljava/lang/String;" .null := D254 (Or.inl (hw _ (List.mem_of_getElem? (i := 40) rfl))) (ty := (.array (.object "java/lang/String"))) (by decide)
    have F254_attributePrefixes : Fld Z h254 b254 "com/example/scheherazade/scheherazade/reader/TagParts" "attributePrefixes" "[Z" .null := D254 (Or.inl (hw _ (List.mem_of_getElem? (i := 43) rfl))) (ty := (.array .boolean)) (by decide)
    have F254_attributeSpellings : Fld Z h254 b254 "com/example/scheherazade/scheherazade/reader/TagParts" "attributeSpellings" "[[C" .null := D254 (Or.inl (hw _ (List.mem_of_getElem? (i := 47) rfl))) (ty := (.array (.array .char))) (by decide)
    have F254_valueStarts : Fld Z h254 b254 "com/example/scheherazade/scheherazade/reader/TagParts" "valueStarts" "[I" .null := D254 (Or.inl (hw _ (List.mem_of_getElem? (i := 50) rfl))) (ty := (.array .int)) (by decide)
    have F254_valueLengths : Fld Z h254 b254 "com/example/scheherazade/scheherazade/reader/TagParts" "valueLengths" "[I" .null := D254 (Or.inl (hw _ (List.mem_of_getElem? (i := 52) rfl))) (ty := (.array .int)) (by decide)
    have F254_attributeValues : Fld Z h254 b254 "com/example/scheherazade/scheherazade/reader/TagParts" "attributeValues" "[Ljava/lang/String;" .null := D254 (Or.inl (hw _ (List.mem_of_getElem? (i := 54) rfl))) (ty := (.array (.object "java/lang/String"))) (by decide)
    have F254_name : Fld Z h254 b254 "com/example/scheherazade/scheherazade/reader/TagParts" "name" "Ljava/lang/String;" .null := D254 (Or.inl (hw _ (List.mem_of_getElem? (i := 61) rfl))) (ty := (.object "java/lang/String")) (by decide)
    have F254_prefixed : Fld Z h254 b254 "com/example/scheherazade/scheherazade/reader/TagParts" "prefixed" "Z" (.int (0 : Int32)) := D254 (Or.inl (hw _ (List.mem_of_getElem? (i := 63) rfl))) (ty := .boolean) (by decide)
    have F254_nameSpelling : Fld Z h254 b254 "com/example/scheherazade/scheherazade/reader/TagParts" "nameSpelling" "[C" .null := D254 (Or.inl (hw _ (List.mem_of_getElem? (i := 65) rfl))) (ty := (.array .char)) (by decide)
    have F254_source : Fld Z h254 b254 "com/example/scheherazade/scheherazade/reader/TagParts" "source" "[C" .null := D254 (Or.inl (hw _ (List.mem_of_getElem? (i := 67) rfl))) (ty := (.array .char)) (by decide)
    have F254_attributeCount : Fld Z h254 b254 "com/example/scheherazade/scheherazade/reader/TagParts" "attributeCount" "I" (.int (0 : Int32)) := D254 (Or.inl (hw _ (List.mem_of_getElem? (i := 69) rfl))) (ty := .int) (by decide)
    refine Gen.on (b := T254.setTop (mkF m 174 #[.val (.int p1), .val (.int p2), .val (.int p3), .val (.int pp), .val (.int nsx), .val (.int c0), .val (.int c1), .val (.int e0), .val (.int e1), .val (.ref b3), .val (.ref b10), .val (.ref b18), .val (.ref b34), .val (.ref b54), .val .null, .val (.ref b244), .unset, .unset, .unset, .unset, .unset, .unset] [(.ref b254)])) ?_ (fun t k => st254 t k)
    refine Gen.on (b := T254.setTop (mkF m 175 #[.val (.int p1), .val (.int p2), .val (.int p3), .val (.int pp), .val (.int nsx), .val (.int c0), .val (.int c1), .val (.int e0), .val (.int e1), .val (.ref b3), .val (.ref b10), .val (.ref b18), .val (.ref b34), .val (.ref b54), .val .null, .val (.ref b244), .unset, .unset, .unset, .unset, .unset, .unset] [(.ref b254), (.ref b254)])) ?_ (fun t k => XS.dup X254.here hx rfl (hb hby at_174) rfl rfl k)
    have fa264 := (fa255.ext E254)
    have fa265 := (fa256.ext E254)
    have fa266 := (fa257.ext E254)
    have fa267 := (fa258.ext E254)
    have fa268 := (fa259.ext E254)
    have fa269 := (fa260.ext E254)
    have fa270 := (fa261.ext E254)
    have fa271 := (Y252.ext E254)
    obtain ⟨_, _, ⟨T263, L263, k263, n263⟩, -, X263, ⟨Lc263, hQ263, l263, y263, z263⟩, st263⟩ := X254.specialBack hx (y := (⟨"com/example/scheherazade/scheherazade/reader/TagParts", "<init>", "()V"⟩ : MethodName)) rfl hown (mvT hZ (hw _ (List.mem_of_getElem? (i := 33) rfl))) (mvT hZ (hw _ (List.mem_of_getElem? (i := 34) rfl))) (mvT hZ (hw _ (List.mem_of_getElem? (i := 35) rfl))) (by decide) (backOf (W := 1) (rm7 l Z a0 hw [] b254  h254 n0 Z254 A254 F254_name F254_prefixed F254_nameSpelling F254_source F254_attributeCount F254_attributeNames F254_attributePrefixes F254_attributeSpellings F254_valueStarts F254_valueLengths F254_attributeValues g_b254) hZ (hw _ (List.mem_of_getElem? (i := 35) rfl)) (hw _ (List.mem_of_getElem? (i := 32) rfl)) (by decide) (by decide)) (g := (mkF m 175 #[.val (.int p1), .val (.int p2), .val (.int p3), .val (.int pp), .val (.int nsx), .val (.int c0), .val (.int c1), .val (.int e0), .val (.int e1), .val (.ref b3), .val (.ref b10), .val (.ref b18), .val (.ref b34), .val (.ref b54), .val .null, .val (.ref b244), .unset, .unset, .unset, .unset, .unset, .unset] [(.ref b254), (.ref b254)])) rfl (by rw [hml]; rfl) (Steps.refl _) (a := b254) (argsL := []) (rest := [(.ref b254)]) (lenOf pd_0_1 rfl) rfl (by show 2 * 0 + _ ≤ _; exact Nat.le_of_eq rfl) (hb hby at_175) (fun _ _ => ⟨rfl, e254, (by decide : 11 + 6 ≤ _), (by decide : 34 + 24 ≤ _)⟩)
    dsimp only [Pt.U, Pt.locs, Pt.cells, Pt.slots] at X263 l263 y263 z263 st263 hQ263
    subst l263 y263 z263
    obtain ⟨rfl, N263q, Kc263, m1_263, m2_263, m3_263, m4_263, m5_263, m6_263, kq1_263, kq2_263, kq3_263, kq4_263, kq5_263, kq6_263, hf263_0, hf263_1, hf263_2, hf263_3, hf263_4, hf263_5, hf263_6, hf263_7, hf263_8, hf263_9, hf263_10, hf263_11, hf263_12, hf263_13, hf263_14, hf263_15, hf263_16, hf263_17, ov1_263, ov3_263, ov6_263, ne_m1_263_m2_263, ne_m1_263_m3_263, ne_m1_263_m4_263, ne_m1_263_m5_263, ne_m1_263_m6_263, ne_m2_263_m3_263, ne_m2_263_m4_263, ne_m2_263_m5_263, ne_m2_263_m6_263, ne_m3_263_m4_263, ne_m3_263_m5_263, ne_m3_263_m6_263, ne_m4_263_m5_263, ne_m4_263_m6_263, ne_m5_263_m6_263, zz_m1_263, zz_m2_263, zz_m3_263, zz_m4_263, zz_m5_263, zz_m6_263⟩ := hQ263
    have N263 := Fr.app N252 N263q
    have g_m1_263 : n0 ≤ m1_263 := Nat.le_trans Z254 zz_m1_263
    have ne_b3_m1_263 : b3 ≠ m1_263 := Nat.ne_of_lt (Nat.lt_of_lt_of_le fa264.lt zz_m1_263)
    have ne_b10_m1_263 : b10 ≠ m1_263 := Nat.ne_of_lt (Nat.lt_of_lt_of_le fa265.lt zz_m1_263)
    have ne_b18_m1_263 : b18 ≠ m1_263 := Nat.ne_of_lt (Nat.lt_of_lt_of_le fa266.lt zz_m1_263)
    have ne_b21_m1_263 : b21 ≠ m1_263 := Nat.ne_of_lt (Nat.lt_of_lt_of_le fa267.lt zz_m1_263)
    have ne_b34_m1_263 : b34 ≠ m1_263 := Nat.ne_of_lt (Nat.lt_of_lt_of_le fa268.lt zz_m1_263)
    have ne_b39_m1_263 : b39 ≠ m1_263 := Nat.ne_of_lt (Nat.lt_of_lt_of_le fa269.lt zz_m1_263)
    have ne_b54_m1_263 : b54 ≠ m1_263 := Nat.ne_of_lt (Nat.lt_of_lt_of_le fa270.lt zz_m1_263)
    have ne_b244_m1_263 : b244 ≠ m1_263 := Nat.ne_of_lt (Nat.lt_of_lt_of_le fa271.lt zz_m1_263)
    have ne_b254_m1_263 : b254 ≠ m1_263 := Nat.ne_of_lt (Nat.lt_of_lt_of_le A254.lt zz_m1_263)
    have g_m2_263 : n0 ≤ m2_263 := Nat.le_trans Z254 zz_m2_263
    have ne_b3_m2_263 : b3 ≠ m2_263 := Nat.ne_of_lt (Nat.lt_of_lt_of_le fa264.lt zz_m2_263)
    have ne_b10_m2_263 : b10 ≠ m2_263 := Nat.ne_of_lt (Nat.lt_of_lt_of_le fa265.lt zz_m2_263)
    have ne_b18_m2_263 : b18 ≠ m2_263 := Nat.ne_of_lt (Nat.lt_of_lt_of_le fa266.lt zz_m2_263)
    have ne_b21_m2_263 : b21 ≠ m2_263 := Nat.ne_of_lt (Nat.lt_of_lt_of_le fa267.lt zz_m2_263)
    have ne_b34_m2_263 : b34 ≠ m2_263 := Nat.ne_of_lt (Nat.lt_of_lt_of_le fa268.lt zz_m2_263)
    have ne_b39_m2_263 : b39 ≠ m2_263 := Nat.ne_of_lt (Nat.lt_of_lt_of_le fa269.lt zz_m2_263)
    have ne_b54_m2_263 : b54 ≠ m2_263 := Nat.ne_of_lt (Nat.lt_of_lt_of_le fa270.lt zz_m2_263)
    have ne_b244_m2_263 : b244 ≠ m2_263 := Nat.ne_of_lt (Nat.lt_of_lt_of_le fa271.lt zz_m2_263)
    have ne_b254_m2_263 : b254 ≠ m2_263 := Nat.ne_of_lt (Nat.lt_of_lt_of_le A254.lt zz_m2_263)
    have g_m3_263 : n0 ≤ m3_263 := Nat.le_trans Z254 zz_m3_263
    have ne_b3_m3_263 : b3 ≠ m3_263 := Nat.ne_of_lt (Nat.lt_of_lt_of_le fa264.lt zz_m3_263)
    have ne_b10_m3_263 : b10 ≠ m3_263 := Nat.ne_of_lt (Nat.lt_of_lt_of_le fa265.lt zz_m3_263)
    have ne_b18_m3_263 : b18 ≠ m3_263 := Nat.ne_of_lt (Nat.lt_of_lt_of_le fa266.lt zz_m3_263)
    have ne_b21_m3_263 : b21 ≠ m3_263 := Nat.ne_of_lt (Nat.lt_of_lt_of_le fa267.lt zz_m3_263)
    have ne_b34_m3_263 : b34 ≠ m3_263 := Nat.ne_of_lt (Nat.lt_of_lt_of_le fa268.lt zz_m3_263)
    have ne_b39_m3_263 : b39 ≠ m3_263 := Nat.ne_of_lt (Nat.lt_of_lt_of_le fa269.lt zz_m3_263)
    have ne_b54_m3_263 : b54 ≠ m3_263 := Nat.ne_of_lt (Nat.lt_of_lt_of_le fa270.lt zz_m3_263)
    have ne_b244_m3_263 : b244 ≠ m3_263 := Nat.ne_of_lt (Nat.lt_of_lt_of_le fa271.lt zz_m3_263)
    have ne_b254_m3_263 : b254 ≠ m3_263 := Nat.ne_of_lt (Nat.lt_of_lt_of_le A254.lt zz_m3_263)
    have g_m4_263 : n0 ≤ m4_263 := Nat.le_trans Z254 zz_m4_263
    have ne_b3_m4_263 : b3 ≠ m4_263 := Nat.ne_of_lt (Nat.lt_of_lt_of_le fa264.lt zz_m4_263)
    have ne_b10_m4_263 : b10 ≠ m4_263 := Nat.ne_of_lt (Nat.lt_of_lt_of_le fa265.lt zz_m4_263)
    have ne_b18_m4_263 : b18 ≠ m4_263 := Nat.ne_of_lt (Nat.lt_of_lt_of_le fa266.lt zz_m4_263)
    have ne_b21_m4_263 : b21 ≠ m4_263 := Nat.ne_of_lt (Nat.lt_of_lt_of_le fa267.lt zz_m4_263)
    have ne_b34_m4_263 : b34 ≠ m4_263 := Nat.ne_of_lt (Nat.lt_of_lt_of_le fa268.lt zz_m4_263)
    have ne_b39_m4_263 : b39 ≠ m4_263 := Nat.ne_of_lt (Nat.lt_of_lt_of_le fa269.lt zz_m4_263)
    have ne_b54_m4_263 : b54 ≠ m4_263 := Nat.ne_of_lt (Nat.lt_of_lt_of_le fa270.lt zz_m4_263)
    have ne_b244_m4_263 : b244 ≠ m4_263 := Nat.ne_of_lt (Nat.lt_of_lt_of_le fa271.lt zz_m4_263)
    have ne_b254_m4_263 : b254 ≠ m4_263 := Nat.ne_of_lt (Nat.lt_of_lt_of_le A254.lt zz_m4_263)
    have g_m5_263 : n0 ≤ m5_263 := Nat.le_trans Z254 zz_m5_263
    have ne_b3_m5_263 : b3 ≠ m5_263 := Nat.ne_of_lt (Nat.lt_of_lt_of_le fa264.lt zz_m5_263)
    have ne_b10_m5_263 : b10 ≠ m5_263 := Nat.ne_of_lt (Nat.lt_of_lt_of_le fa265.lt zz_m5_263)
    have ne_b18_m5_263 : b18 ≠ m5_263 := Nat.ne_of_lt (Nat.lt_of_lt_of_le fa266.lt zz_m5_263)
    have ne_b21_m5_263 : b21 ≠ m5_263 := Nat.ne_of_lt (Nat.lt_of_lt_of_le fa267.lt zz_m5_263)
    have ne_b34_m5_263 : b34 ≠ m5_263 := Nat.ne_of_lt (Nat.lt_of_lt_of_le fa268.lt zz_m5_263)
    have ne_b39_m5_263 : b39 ≠ m5_263 := Nat.ne_of_lt (Nat.lt_of_lt_of_le fa269.lt zz_m5_263)
    have ne_b54_m5_263 : b54 ≠ m5_263 := Nat.ne_of_lt (Nat.lt_of_lt_of_le fa270.lt zz_m5_263)
    have ne_b244_m5_263 : b244 ≠ m5_263 := Nat.ne_of_lt (Nat.lt_of_lt_of_le fa271.lt zz_m5_263)
    have ne_b254_m5_263 : b254 ≠ m5_263 := Nat.ne_of_lt (Nat.lt_of_lt_of_le A254.lt zz_m5_263)
    have g_m6_263 : n0 ≤ m6_263 := Nat.le_trans Z254 zz_m6_263
    have ne_b3_m6_263 : b3 ≠ m6_263 := Nat.ne_of_lt (Nat.lt_of_lt_of_le fa264.lt zz_m6_263)
    have ne_b10_m6_263 : b10 ≠ m6_263 := Nat.ne_of_lt (Nat.lt_of_lt_of_le fa265.lt zz_m6_263)
    have ne_b18_m6_263 : b18 ≠ m6_263 := Nat.ne_of_lt (Nat.lt_of_lt_of_le fa266.lt zz_m6_263)
    have ne_b21_m6_263 : b21 ≠ m6_263 := Nat.ne_of_lt (Nat.lt_of_lt_of_le fa267.lt zz_m6_263)
    have ne_b34_m6_263 : b34 ≠ m6_263 := Nat.ne_of_lt (Nat.lt_of_lt_of_le fa268.lt zz_m6_263)
    have ne_b39_m6_263 : b39 ≠ m6_263 := Nat.ne_of_lt (Nat.lt_of_lt_of_le fa269.lt zz_m6_263)
    have ne_b54_m6_263 : b54 ≠ m6_263 := Nat.ne_of_lt (Nat.lt_of_lt_of_le fa270.lt zz_m6_263)
    have ne_b244_m6_263 : b244 ≠ m6_263 := Nat.ne_of_lt (Nat.lt_of_lt_of_le fa271.lt zz_m6_263)
    have ne_b254_m6_263 : b254 ≠ m6_263 := Nat.ne_of_lt (Nat.lt_of_lt_of_le A254.lt zz_m6_263)
    have sf272_b18 := Safe.keep Kc263 (sfS (Safe.exa hZ.alike A254 (by decide) (by decide)) sf0) CH262.1 sf262_b18
    have sf272_b34 := Safe.keep Kc263 (sfS (Safe.exa hZ.alike A254 (by decide) (by decide)) sf0) CH262.1 sf262_b34
    have CH272 := CHr.trans CH262 (CHr.keep Kc263 (sfS (Safe.exa hZ.alike A254 (by decide) (by decide)) sf0) CH262.1)
    have hk272 := Nat.le_trans hk262 Kc263.1
    have Z263 : n0 ≤ T263.heap.size := Nat.le_trans Z254 Kc263.1
    refine Gen.on (b := T263.setTop (mkF m 178 #[.val (.int p1), .val (.int p2), .val (.int p3), .val (.int pp), .val (.int nsx), .val (.int c0), .val (.int c1), .val (.int e0), .val (.int e1), .val (.ref b3), .val (.ref b10), .val (.ref b18), .val (.ref b34), .val (.ref b54), .val .null, .val (.ref b244), .unset, .unset, .unset, .unset, .unset, .unset] [(.ref b254)])) ?_ (fun t k => st263.trans k)
    refine Gen.on (b := T263.setTop (mkF m 180 #[.val (.int p1), .val (.int p2), .val (.int p3), .val (.int pp), .val (.int nsx), .val (.int c0), .val (.int c1), .val (.int e0), .val (.int e1), .val (.ref b3), .val (.ref b10), .val (.ref b18), .val (.ref b34), .val (.ref b54), .val .null, .val (.ref b244), .val (.ref b254), .unset, .unset, .unset, .unset, .unset] [])) ?_ (fun t k => XS.astore X263.here hx rfl (hb hby at_178) rfl rfl (l' := #[.val (.int p1), .val (.int p2), .val (.int p3), .val (.int pp), .val (.int nsx), .val (.int c0), .val (.int c1), .val (.int e0), .val (.int e1), .val (.ref b3), .val (.ref b10), .val (.ref b18), .val (.ref b34), .val (.ref b54), .val .null, .val (.ref b244), .val (.ref b254), .unset, .unset, .unset, .unset, .unset]) rfl k)
    have fa273 := (((((((fa52.keep Kc48 (allS g_b34 all0)).ext E54).wr W61 g_b54).ext E244).wr W252 g_b244).ext E254).keep Kc263 (allS g_b254 all0))
    have fa274 := (fa264.keep Kc263 (ninS ne_b3_b254 nin0))
    have fa275 := ((((((((((((((((((fa9.wr W7).ext E10).wr W12).wr W14).ext E18).ext E21).wr W25).keep Kc28).ext E34).ext E39).wr W45).keep Kc48).ext E54).wr W61).ext E244).wr W252).ext E254).keep Kc263)
    have fa276 := (fa265.keep Kc263 (ninS ne_b10_b254 nin0))
    have fa277 := (((((((((((((((fa16.wr W14).ext E18).ext E21).wr W25).keep Kc28).ext E34).ext E39).wr W45).keep Kc48).ext E54).wr W61).ext E244).wr W252).ext E254).keep Kc263)
    have fa278 := (fa266.keep Kc263)
    have fa279 := (fa267.keep Kc263 (ninS ne_b21_b254 nin0))
    have fa280 := ((((((((((((EX21.wr W25).keep Kc28).ext E34).ext E39).wr W45).keep Kc48).ext E54).wr W61).ext E244).wr W252).ext E254).keep Kc263)
    have fa281 := (fa268.keep Kc263)
    have fa282 := (fa269.keep Kc263 (ninS ne_b39_b254 nin0))
    have fa283 := ((((((((EX39.wr W45).keep Kc48).ext E54).wr W61).ext E244).wr W252).ext E254).keep Kc263)
    have fa284 := (fa270.keep Kc263 (ninS ne_b54_b254 nin0))
    have fa285 := (((((EX54.wr W61).ext E244).wr W252).ext E254).keep Kc263)
    have fa286 := (fa271.keep Kc263 (ninS ne_b244_b254 nin0))
    have fa287 := (((EX244.wr W252).ext E254).keep Kc263)
    exact seg288 hw hx hby hml Bd.returns Bd.notSynchronized hh sts hZ hown X263 N263 Z263 hS0 hk272 CH272 fa273 fa274 fa275 fa276 fa277 fa278 fa279 fa280 fa281 fa282 fa283 fa284 fa285 fa286 fa287 hf263_0 hf263_1 hf263_2 hf263_3 hf263_4 hf263_5 hf263_6 hf263_7 hf263_8 hf263_9 hf263_10 hf263_11 hf263_12 hf263_13 hf263_14 hf263_15 hf263_16 hf263_17 sf272_b18 sf272_b34 ne_b3_b254 ne_b10_b254 ne_b21_b254 ne_b39_b254 ne_b54_b254 ne_b244_b254 ne_b3_m1_263 ne_b10_m1_263 ne_b21_m1_263 ne_b39_m1_263 ne_b54_m1_263 ne_b244_m1_263 ne_b254_m1_263 ne_b3_m2_263 ne_b10_m2_263 ne_b21_m2_263 ne_b39_m2_263 ne_b54_m2_263 ne_b244_m2_263 ne_b254_m2_263 ne_b3_m3_263 ne_b10_m3_263 ne_b21_m3_263 ne_b39_m3_263 ne_b54_m3_263 ne_b244_m3_263 ne_b254_m3_263 ne_b3_m4_263 ne_b10_m4_263 ne_b21_m4_263 ne_b39_m4_263 ne_b54_m4_263 ne_b244_m4_263 ne_b254_m4_263 ne_b3_m5_263 ne_b10_m5_263 ne_b21_m5_263 ne_b39_m5_263 ne_b54_m5_263 ne_b244_m5_263 ne_b254_m5_263 ne_b3_m6_263 ne_b10_m6_263 ne_b21_m6_263 ne_b39_m6_263 ne_b54_m6_263 ne_b244_m6_263 ne_b254_m6_263 ne_m1_263_m2_263 ne_m1_263_m3_263 ne_m1_263_m4_263 ne_m1_263_m5_263 ne_m1_263_m6_263 ne_m2_263_m3_263 ne_m2_263_m4_263 ne_m2_263_m5_263 ne_m2_263_m6_263 ne_m3_263_m4_263 ne_m3_263_m5_263 ne_m3_263_m6_263 ne_m4_263_m5_263 ne_m4_263_m6_263 ne_m5_263_m6_263 g_b254 g_m1_263 g_m2_263 g_m3_263 g_m4_263 g_m5_263 g_m6_263 ov1_263 ov3_263 ov6_263 k_pp k_c0 k_c1
set_option maxRecDepth 65536 in
set_option maxHeartbeats 40000000 in
theorem comes_1 {Post : Tables → Env → Array Value → State → Outcome → State → Prop} (hpost : ∀ tb e args s v u, (limb_1_1.after args s (.returned v) u = true ∧ limb_1_2.after args s (.returned v) u = true ∧ True) → Jvm.D.FramedW s (.returned v) u (Jvm.fieldLocs frame_1_writes args s ++ Jvm.arrayLocs frame_1_arrays args s ++ Jvm.staticLocs frame_1_statics s) 56 1280 → Post tb e args s (.returned v) u) :
    ArmFor flags0 classFile x code maxLocals ret World_1 tables_1 room_1 Calls_1 rest_1 Pre_1 Post := by
  intro l hfl _ _ p e ha hc hk s m args below hf hA hF happ hP
  obtain ⟨hcalls, hrest, hpre⟩ := hP
  obtain ⟨-, -, -, hnamed, -, -, -, hat⟩ := (Spec.applies_iff hf).mp happ
  obtain ⟨hg, hn⟩ := and_e (Cond.before_iff.mp (show (Jvm.Cond.and given_1 narrow_1).before args s = true from hpre))
  obtain ⟨hcount, hr1⟩ := and_e hg
  obtain ⟨ha0, hr2⟩ := and_e hr1
  obtain ⟨ha1, hr3⟩ := and_e hr2
  obtain ⟨w0, w1, w2, rfl⟩ : ∃ w0 w1 w2 : Value, args = #[w0, w1, w2] := by
    have hs : args.size = 3 := by simpa [Cond.value, given_1] using hcount
    obtain ⟨L⟩ := args
    match L, hs with
    | [w0, w1, w2], _ => exact ⟨w0, w1, w2, rfl⟩
  have hw := fun d (hd : d ∈ tables_1) => atoms_spec (ws := Jvm.Cond.code x code maxLocals ret :: tables_1) hat d (List.mem_cons_of_mem _ hd)
  have hfit : Fit s := fun {y c} hc i hi => by
    obtain ⟨ha, rfl⟩ := Array.getElem?_eq_some_iff.mp hc
    have q := List.all_eq_true.mp ((Array.all_eq_true_iff_forall_mem.mp hF) _ (Array.getElem_mem ha)) i (List.mem_range.mpr hi)
    simpa [Array.getElem?_eq_getElem hi] using q
  obtain ⟨i0, ei0⟩ := is_v ha0
  obtain rfl : w0 = (.int i0) := Option.some.inj ei0
  obtain ⟨i1, ei1⟩ := is_v ha1
  obtain rfl : w1 = (.int i1) := Option.some.inj ei1
  obtain ⟨i2, ei2⟩ := is_v hr3
  obtain rfl : w2 = (.int i2) := Option.some.inj ei2
  obtain ⟨hsets, hown0⟩ := atoms_of _ (rest_1_c_eq ▸ (show rest_1_c.before _ s = true from hrest))
  obtain ⟨w0, ew0⟩ := is_v (Cond.before_iff.mp (hsets _ (List.mem_of_getElem? (i := 1) rfl)))
  have S_C := Sta.start ew0 (Or.inl (hsets _ (List.mem_of_getElem? (i := 0) rfl)))
  have hw0 : ¬ w0 = (0 : Int32) := by
    intro q
    have q1 := not_v (Cond.before_iff.mp (hsets _ (List.mem_of_getElem? (i := 2) rfl)))
    have q2 := eq_i ew0 (Term.int_eval (0 : Int32)) (congrArg Value.int q)
    rw [q2] at q1
    exact absurd q1 (by decide)
  obtain ⟨f0, ef0, hf0⟩ := isR_v (Cond.before_iff.mp (hsets _ (List.mem_of_getElem? (i := 8) rfl)))
  have S_F := Sta.start ef0 (Or.inl (hsets _ (List.mem_of_getElem? (i := 7) rfl)))
  have CHs : CHv s consts_1 s.vm s.heap := CHv.start (own_hEL hw) (fun p hp => (show call_1_1 _ _ _ s ∧ True from hcalls).1 p hp) (hsets _ (List.mem_of_getElem? (i := 2) rfl)) (hw _ (List.mem_of_getElem? (i := 19) rfl)) (hw _ (List.mem_of_getElem? (i := 2) rfl))
  obtain ⟨n, o, h1, h2, h3, _, L, rfl, ⟨rfl, N⟩, -, hq⟩ := rm0 l s _ hw tables_1 i0 i1 i2 w0 f0 s.heap s.heap.size (Nat.le_refl _) (Old.start s) ⟨S_C, hw0, S_F, hf0⟩ p e ha hc hk s m _ below hf ((Spec.applies_iff_loose hf).mp happ).1 ⟨rfl, State.Warmed39.refl s, rfl, CHs⟩ trivial
  refine ⟨n, _, h1, h2, h3, hpost _ _ _ _ _ _ ⟨Cond.after_iff.mpr rfl, Cond.after_iff.mpr (eq_i res_at (Term.int_eval (1)) rfl), trivial⟩ ⟨hq.1, hq.2.1, hq.2.2.1, (hq.2.2.2.sift fun y hy => Or.inr (N y hy)).mono (by decide) (by decide)⟩⟩
theorem main_1_1 : Claimed_1_1 := comes_1 fun _ _ _ _ _ _ h hF => ⟨h.1, hF⟩
theorem main_1_2 : Claimed_1_2 := comes_1 fun _ _ _ _ _ _ h hF => ⟨h.2.1, hF⟩
end Jvm.Pilot.@@N@@
namespace Jvm.Pilot.@@N@@
open Jvm Jvm.ClassFile Sem Op Lib Jvm.Free Jvm.Stand Jvm.Pilot.@@N@@.Jvm.D
/-! MADE BY PROGRAM (witnessworld.py) out of the Statement's table words and the real class files: 23 classes; the members and pool entries that the words name. The judged class is class 1, her method 1. -/
namespace start1
open Jvm.ClassFile
def u (s : String) : CpInfo := .utf8 (stringToUtf16 s)
/-- a pool by its gaps: so many unusable entries, then the entry; so many at the end -/
def gap : Nat → List CpInfo → List CpInfo
  | 0, r => r
  | n + 1, r => .unusable :: gap n r
def poolList (es : List (Nat × CpInfo)) (last : Nat) : List CpInfo := es.foldr (fun e r => gap e.1 (e.2 :: r)) (gap last [])
def pool (es : List (Nat × CpInfo)) (last : Nat) : Array CpInfo := ⟨poolList es last⟩
def fileOf (pool : Array CpInfo) (this : Nat) (attrs : Array Attribute := #[]) (ms : Array MethodInfo := #[]) (fl : Nat := 33) (sup : Nat := 0) (ifs : Array Nat := #[]) (fds : Array FieldInfo := #[]) : ClassFile where
  minorVersion := 0
  majorVersion := 65
  constantPool := pool
  accessFlags := fl
  thisClass := this
  superClass := sup
  interfaces := ifs
  fields := fds
  methods := ms
  attributes := attrs
def plain (name : String) (sup : Option ClassId) : Class where
  name := name
  kind := .ordinary
  loader := none
  accessFlags := 33
  super := sup
  interfaces := #[]
  cf := none
  fields := #[]
  methods := #[]
  instanceTypes := #[]
  staticTypes := #[]
  resolved := #[]
  callSites := []
  init := .initialized
  statics := none
  mirror := none

def pool0 : Array CpInfo := pool [(5, u "<init>"), (0, u "()V"), (1, .class_ 10), (1, u "java/lang/Object")] 113

def k0c0 : Code := { maxStack := 0, maxLocals := 1, code := object_method_1_code, exceptionTable := #[], attributes := #[] }
def k0m0 : Method := { name := "<init>", desc := "()V", sig := { parameters := [], returnType := none }, accessFlags := 1, code := some k0c0 }
/-- java/lang/Object -/
def k0 : Class := { plain "java/lang/Object" none with
  accessFlags := 33
  interfaces := #[]
  cf := some (fileOf pool0 8 #[] #[{ accessFlags := 1, nameIndex := 5, descriptorIndex := 6, attributes := #[] }] 33 0 #[] #[])
  fields := #[]
  methods := #[k0m0]
  instanceTypes := #[]
  staticTypes := #[]
  resolved := Array.replicate 124 none
  statics := none }

def pool1 : Array CpInfo := pool [(2, .class_ 4), (0, .nameAndType 5 6), (0, u "java/lang/Object"), (0, u "<init>"), (0, u "()V"), (0, .class_ 8), (0, u "java/lang/String"), (0, .methodref 7 10), (0, .nameAndType 5 11), (0, u "([C)V"), (0, .class_ 13), (0, u "com/example/scheherazade/scheherazade/reader/TagParts"), (0, .methodref 12 3), (0, .methodref 12 16), (0, .nameAndType 17 18), (0, u "start"), (0, u "(Ljava/lang/String;Z[C[C)V"), (0, .methodref 12 20), (0, .nameAndType 21 22), (0, u "addAttribute"), (0, u "(Ljava/lang/String;Z[CII)V"), (0, .methodref 12 24), (0, .nameAndType 25 26), (0, u "getName"), (0, u "()Ljava/lang/String;"), (0, .methodref 12 28), (0, .nameAndType 29 30), (0, u "hasPrefix"), (0, u "()Z"), (0, .methodref 12 32), (0, .nameAndType 33 34), (0, u "getNameSpelling"), (0, u "()[C"), (0, .methodref 12 36), (0, .nameAndType 37 38), (0, u "getAttributeCount"), (0, u "()I"), (0, .methodref 12 40), (0, .nameAndType 41 42), (0, u "getLikelyAttributeSpelling"), (0, u "(I)[C"), (0, .methodref 12 44), (0, .nameAndType 45 46), (0, u "getAttributeValue"), (0, u "(I)Ljava/lang/String;"), (0, .methodref 7 48), (0, .nameAndType 49 38), (0, u "length"), (0, .methodref 7 51), (0, .nameAndType 52 53), (0, u "charAt"), (0, u "(I)C"), (0, .class_ 55), (0, u "com/example/scheherazade/scheherazade/reader/TagPartsStartPinLaw"), (2, u "law"), (0, u "(III)Z")] 5

def k1m0 : Method := { name := "<init>", desc := "()V", sig := { parameters := [], returnType := none }, accessFlags := 1, code := none }
def k1c1 : Code := { maxStack := 6, maxLocals := 22, code := code, exceptionTable := #[], attributes := #[] }
def k1m1 : Method := { name := "law", desc := "(III)Z", sig := { parameters := [.int, .int, .int], returnType := some .boolean }, accessFlags := 9, code := some k1c1 }
/-- com/example/scheherazade/scheherazade/reader/TagPartsStartPinLaw -/
def k1 : Class := { plain "com/example/scheherazade/scheherazade/reader/TagPartsStartPinLaw" (some 0) with
  accessFlags := 49
  interfaces := #[]
  cf := some (fileOf pool1 54 #[] #[{ accessFlags := 1, nameIndex := 5, descriptorIndex := 6, attributes := #[] }, { accessFlags := 9, nameIndex := 58, descriptorIndex := 59, attributes := #[] }] 49 2 #[] #[])
  fields := #[]
  methods := #[k1m0, k1m1]
  instanceTypes := #[]
  staticTypes := #[]
  resolved := Array.replicate 65 none
  statics := none }

def pool2 : Array CpInfo := pool [(1, .class_ 2), (0, u "java/io/Serializable"), (0, .class_ 4), (0, u "java/lang/Object")] 2

/-- java/io/Serializable -/
def k2 : Class := { plain "java/io/Serializable" (some 0) with
  accessFlags := 1537
  interfaces := #[]
  cf := some (fileOf pool2 1 #[] #[] 1537 3 #[] #[])
  fields := #[]
  methods := #[]
  instanceTypes := #[]
  staticTypes := #[]
  resolved := Array.replicate 7 none
  statics := none }

def pool3 : Array CpInfo := pool [(1, .class_ 2), (0, u "java/lang/Comparable"), (0, .class_ 4), (0, u "java/lang/Object")] 7

/-- java/lang/Comparable -/
def k3 : Class := { plain "java/lang/Comparable" (some 0) with
  accessFlags := 1537
  interfaces := #[]
  cf := some (fileOf pool3 1 #[] #[] 1537 3 #[] #[])
  fields := #[]
  methods := #[]
  instanceTypes := #[]
  staticTypes := #[]
  resolved := Array.replicate 12 none
  statics := none }

def pool4 : Array CpInfo := pool [(2, .class_ 4), (1, u "java/lang/CharSequence"), (42, .class_ 48), (0, u "java/lang/CharSequence$1CodePointIterator"), (10, .class_ 60), (0, u "java/lang/CharSequence$1CharIterator"), (5, .class_ 67), (0, u "java/lang/Object")] 63

/-- java/lang/CharSequence -/
def k4 : Class := { plain "java/lang/CharSequence" (some 0) with
  accessFlags := 1537
  interfaces := #[]
  cf := some (fileOf pool4 2 #[.nestMembers #[47, 59]] #[] 1537 66 #[] #[])
  fields := #[]
  methods := #[]
  instanceTypes := #[]
  staticTypes := #[]
  resolved := Array.replicate 131 none
  statics := none }

def pool5 : Array CpInfo := pool [(1, .class_ 2), (0, u "java/lang/constant/Constable"), (0, .class_ 4), (0, u "java/lang/Object")] 6

/-- java/lang/constant/Constable -/
def k5 : Class := { plain "java/lang/constant/Constable" (some 0) with
  accessFlags := 1537
  interfaces := #[]
  cf := some (fileOf pool5 1 #[] #[] 1537 3 #[] #[])
  fields := #[]
  methods := #[]
  instanceTypes := #[]
  staticTypes := #[]
  resolved := Array.replicate 11 none
  statics := none }

def pool6 : Array CpInfo := pool [(1, .class_ 2), (0, u "java/lang/constant/ConstantDesc"), (0, .class_ 4), (0, u "java/lang/Object")] 32

/-- java/lang/constant/ConstantDesc -/
def k6 : Class := { plain "java/lang/constant/ConstantDesc" (some 0) with
  accessFlags := 1537
  interfaces := #[]
  cf := some (fileOf pool6 1 #[] #[] 1537 3 #[] #[])
  fields := #[]
  methods := #[]
  instanceTypes := #[]
  staticTypes := #[]
  resolved := Array.replicate 37 none
  statics := none }

def pool7 : Array CpInfo := pool [(1, .methodref 2 3), (0, .class_ 4), (0, .nameAndType 5 6), (0, u "java/lang/Object"), (0, u "<init>"), (0, u "()V"), (0, .string 8), (0, u ""), (0, .fieldref 10 11), (0, .class_ 12), (0, .nameAndType 13 14), (0, u "java/lang/String"), (0, u "value"), (0, u "[B"), (0, .fieldref 10 16), (0, .nameAndType 17 18), (0, u "coder"), (0, u "B"), (2, u "hash"), (0, u "I"), (2, u "hashIsZero"), (0, u "Z"), (0, .methodref 10 28), (0, .nameAndType 5 29), (0, u "([CIILjava/lang/Void;)V"), (0, .methodref 10 31), (0, .nameAndType 32 33), (0, u "rangeCheck"), (0, u "([CII)Ljava/lang/Void;"), (0, .methodref 10 35), (0, .nameAndType 36 37), (0, u "checkBoundsOffCount"), (0, u "(III)I"), (0, .fieldref 10 39), (0, .nameAndType 40 26), (0, u "COMPACT_STRINGS"), (1, .class_ 44), (1, u "java/lang/StringUTF16"), (0, u "compress"), (1, .methodref 42 48), (0, .nameAndType 49 50), (0, u "coderFromArrayLen"), (0, u "([BI)B"), (56, .class_ 109), (1, u "java/lang/StringLatin1"), (32, u "()Z"), (34, .methodref 42 178), (0, .nameAndType 45 179), (0, u "([CII)[B"), (154, u "()I"), (0, .methodref 10 336), (0, .nameAndType 17 337), (0, u "()B"), (25, u "([BI)C"), (27, u "(II)V"), (35, u "(I)C"), (64, .methodref 10 493), (0, .nameAndType 494 142), (0, u "isLatin1"), (0, .methodref 107 496), (0, .nameAndType 497 363), (0, u "charAt"), (3, u "checkIndex"), (5, u "length"), (67, .class_ 576), (0, u "java/lang/CharSequence"), (22, u "CASE_INSENSITIVE_ORDER"), (0, u "Ljava/util/Comparator;"), (371, u "([CII)V"), (37, u "([C)V"), (42, .fieldref 1054 1055), (0, .class_ 1056), (0, .nameAndType 1057 1058), (0, u "jdk/internal/util/Preconditions"), (0, u "SIOOBE_FORMATTER"), (0, u "Ljava/util/function/BiFunction;"), (0, .methodref 1054 1060), (0, .nameAndType 501 1061), (0, u "(IILjava/util/function/BiFunction;)I"), (2, u "(IIILjava/util/function/BiFunction;)I"), (0, .methodref 1054 1066), (0, .nameAndType 1067 1064), (0, u "checkFromIndexSize"), (33, u "serialPersistentFields"), (0, u "[Ljava/io/ObjectStreamField;"), (0, .class_ 1104), (0, u "java/lang/String$CaseInsensitiveComparator"), (1, .class_ 1107), (0, u "java/io/Serializable"), (0, .class_ 1109), (0, u "java/lang/Comparable"), (0, .class_ 1111), (0, u "java/lang/constant/Constable"), (0, .class_ 1113), (0, u "java/lang/constant/ConstantDesc"), (2, u "serialVersionUID"), (0, u "J"), (3, u "REPL"), (0, u "C"), (2, u "LATIN1"), (1, u "UTF16")] 323

def k7m0 : Method := { name := "<init>", desc := "()V", sig := { parameters := [], returnType := none }, accessFlags := 1, code := none }
def k7c1 : Code := { maxStack := 5, maxLocals := 2, code := jdk_42_method_3_code, exceptionTable := #[], attributes := #[] }
def k7m1 : Method := { name := "<init>", desc := "([C)V", sig := { parameters := [(.array .char)], returnType := none }, accessFlags := 1, code := some k7c1 }
def k7c2 : Code := { maxStack := 7, maxLocals := 4, code := jdk_42_method_4_code, exceptionTable := #[], attributes := #[] }
def k7m2 : Method := { name := "<init>", desc := "([CII)V", sig := { parameters := [(.array .char), .int, .int], returnType := none }, accessFlags := 1, code := some k7c2 }
def k7c3 : Code := { maxStack := 3, maxLocals := 3, code := jdk_42_method_5_code, exceptionTable := #[], attributes := #[] }
def k7m3 : Method := { name := "rangeCheck", desc := "([CII)Ljava/lang/Void;", sig := { parameters := [(.array .char), .int, .int], returnType := some (.object "java/lang/Void") }, accessFlags := 10, code := some k7c3 }
def k7c4 : Code := { maxStack := 2, maxLocals := 1, code := jdk_42_method_54_code, exceptionTable := #[], attributes := #[] }
def k7m4 : Method := { name := "length", desc := "()I", sig := { parameters := [], returnType := some .int }, accessFlags := 1, code := some k7c4 }
def k7c5 : Code := { maxStack := 2, maxLocals := 2, code := jdk_42_method_56_code, exceptionTable := #[], attributes := #[] }
def k7m5 : Method := { name := "charAt", desc := "(I)C", sig := { parameters := [.int], returnType := some .char }, accessFlags := 1, code := some k7c5 }
def k7c6 : Code := { maxStack := 4, maxLocals := 6, code := jdk_42_method_149_code, exceptionTable := #[], attributes := #[] }
def k7m6 : Method := { name := "<init>", desc := "([CIILjava/lang/Void;)V", sig := { parameters := [(.array .char), .int, .int, (.object "java/lang/Void")], returnType := none }, accessFlags := 2, code := some k7c6 }
def k7c7 : Code := { maxStack := 1, maxLocals := 1, code := jdk_42_method_152_code, exceptionTable := #[], attributes := #[] }
def k7m7 : Method := { name := "coder", desc := "()B", sig := { parameters := [], returnType := some .byte }, accessFlags := 0, code := some k7c7 }
def k7c8 : Code := { maxStack := 1, maxLocals := 1, code := jdk_42_method_154_code, exceptionTable := #[], attributes := #[] }
def k7m8 : Method := { name := "isLatin1", desc := "()Z", sig := { parameters := [], returnType := some .boolean }, accessFlags := 0, code := some k7c8 }
def k7c9 : Code := { maxStack := 3, maxLocals := 2, code := jdk_42_method_155_code, exceptionTable := #[], attributes := #[] }
def k7m9 : Method := { name := "checkIndex", desc := "(II)V", sig := { parameters := [.int, .int], returnType := none }, accessFlags := 8, code := some k7c9 }
def k7c10 : Code := { maxStack := 4, maxLocals := 3, code := jdk_42_method_157_code, exceptionTable := #[], attributes := #[] }
def k7m10 : Method := { name := "checkBoundsOffCount", desc := "(III)I", sig := { parameters := [.int, .int, .int], returnType := some .int }, accessFlags := 8, code := some k7c10 }
/-- java/lang/String -/
def k7 : Class := { plain "java/lang/String" (some 0) with
  accessFlags := 49
  interfaces := #[2, 3, 4, 5, 6]
  cf := some (fileOf pool7 10 #[.nestMembers #[1103]] #[{ accessFlags := 1, nameIndex := 5, descriptorIndex := 6, attributes := #[] }, { accessFlags := 1, nameIndex := 5, descriptorIndex := 1010, attributes := #[] }, { accessFlags := 1, nameIndex := 5, descriptorIndex := 972, attributes := #[] }, { accessFlags := 10, nameIndex := 32, descriptorIndex := 33, attributes := #[] }, { accessFlags := 1, nameIndex := 507, descriptorIndex := 334, attributes := #[] }, { accessFlags := 1, nameIndex := 497, descriptorIndex := 427, attributes := #[] }, { accessFlags := 2, nameIndex := 5, descriptorIndex := 29, attributes := #[] }, { accessFlags := 0, nameIndex := 17, descriptorIndex := 337, attributes := #[] }, { accessFlags := 0, nameIndex := 494, descriptorIndex := 142, attributes := #[] }, { accessFlags := 8, nameIndex := 501, descriptorIndex := 391, attributes := #[] }, { accessFlags := 8, nameIndex := 36, descriptorIndex := 37, attributes := #[] }] 49 2 #[1106, 1108, 575, 1110, 1112] #[{ accessFlags := 18, nameIndex := 13, descriptorIndex := 14, attributes := #[] }, { accessFlags := 18, nameIndex := 17, descriptorIndex := 18, attributes := #[] }, { accessFlags := 2, nameIndex := 21, descriptorIndex := 22, attributes := #[] }, { accessFlags := 2, nameIndex := 25, descriptorIndex := 26, attributes := #[] }, { accessFlags := 26, nameIndex := 1116, descriptorIndex := 1117, attributes := #[] }, { accessFlags := 24, nameIndex := 40, descriptorIndex := 26, attributes := #[] }, { accessFlags := 26, nameIndex := 1101, descriptorIndex := 1102, attributes := #[] }, { accessFlags := 26, nameIndex := 1121, descriptorIndex := 1122, attributes := #[] }, { accessFlags := 25, nameIndex := 599, descriptorIndex := 600, attributes := #[] }, { accessFlags := 24, nameIndex := 1125, descriptorIndex := 18, attributes := #[] }, { accessFlags := 24, nameIndex := 1127, descriptorIndex := 18, attributes := #[] }])
  fields := #[{ name := "value", type := (.array .byte), accessFlags := 18, slot := 0, constantValue := 0 }, { name := "coder", type := .byte, accessFlags := 18, slot := 1, constantValue := 0 }, { name := "hash", type := .int, accessFlags := 2, slot := 2, constantValue := 0 }, { name := "hashIsZero", type := .boolean, accessFlags := 2, slot := 3, constantValue := 0 }, { name := "serialVersionUID", type := .long, accessFlags := 26, slot := 0, constantValue := 0 }, { name := "COMPACT_STRINGS", type := .boolean, accessFlags := 24, slot := 1, constantValue := 0 }, { name := "serialPersistentFields", type := (.array (.object "java/io/ObjectStreamField")), accessFlags := 26, slot := 2, constantValue := 0 }, { name := "REPL", type := .char, accessFlags := 26, slot := 3, constantValue := 0 }, { name := "CASE_INSENSITIVE_ORDER", type := (.object "java/util/Comparator"), accessFlags := 25, slot := 4, constantValue := 0 }, { name := "LATIN1", type := .byte, accessFlags := 24, slot := 5, constantValue := 0 }, { name := "UTF16", type := .byte, accessFlags := 24, slot := 6, constantValue := 0 }]
  methods := #[k7m0, k7m1, k7m2, k7m3, k7m4, k7m5, k7m6, k7m7, k7m8, k7m9, k7m10]
  instanceTypes := #[(.array .byte), .byte, .int, .boolean]
  staticTypes := #[.long, .boolean, (.array (.object "java/io/ObjectStreamField")), .char, (.object "java/util/Comparator"), .byte, .byte]
  resolved := Array.replicate 1451 none
  statics := some 0 }

def pool8 : Array CpInfo := pool [(6, .class_ 8), (1, u "java/lang/Object"), (0, u "<init>"), (0, u "()V"), (1, .class_ 14), (1, u "java/lang/StringUTF16"), (31, u "$assertionsDisabled"), (0, u "Z"), (13, u "HI_BYTE_SHIFT"), (0, u "I"), (2, u "LO_BYTE_SHIFT"), (49, .methodref 12 116), (0, .nameAndType 117 118), (0, u "compress"), (0, u "([CI[BII)I"), (3, u "([CII)[B"), (138, u "coderFromArrayLen"), (0, u "([BI)B"), (106, .class_ 371), (1, u "java/lang/StringUTF16$LinesSpliterator"), (58, u "MAX_LENGTH"), (196, .class_ 628), (0, u "java/lang/StringUTF16$CodePointsSpliterator"), (0, .class_ 630), (0, u "java/lang/StringUTF16$CharsSpliterator")] 4

def k8m0 : Method := { name := "<init>", desc := "()V", sig := { parameters := [], returnType := none }, accessFlags := 0, code := none }
def k8c1 : Code := { maxStack := 2, maxLocals := 2, code := jdk_52_method_15_code, exceptionTable := #[], attributes := #[] }
def k8m1 : Method := { name := "coderFromArrayLen", desc := "([BI)B", sig := { parameters := [(.array .byte), .int], returnType := some .byte }, accessFlags := 8, code := some k8c1 }
def k8c2 : Code := { maxStack := 5, maxLocals := 6, code := jdk_52_method_16_code, exceptionTable := #[], attributes := #[] }
def k8m2 : Method := { name := "compress", desc := "([CII)[B", sig := { parameters := [(.array .char), .int, .int], returnType := some (.array .byte) }, accessFlags := 9, code := some k8c2 }
def k8c3 : Code := { maxStack := 3, maxLocals := 7, code := jdk_52_method_21_code, exceptionTable := #[], attributes := #[] }
def k8m3 : Method := { name := "compress", desc := "([CI[BII)I", sig := { parameters := [(.array .char), .int, (.array .byte), .int, .int], returnType := some .int }, accessFlags := 9, code := some k8c3 }
/-- java/lang/StringUTF16 -/
def k8 : Class := { plain "java/lang/StringUTF16" (some 0) with
  accessFlags := 48
  interfaces := #[]
  cf := some (fileOf pool8 12 #[.nestMembers #[627, 629, 369]] #[{ accessFlags := 0, nameIndex := 9, descriptorIndex := 10, attributes := #[] }, { accessFlags := 8, nameIndex := 261, descriptorIndex := 262, attributes := #[] }, { accessFlags := 9, nameIndex := 117, descriptorIndex := 122, attributes := #[] }, { accessFlags := 9, nameIndex := 117, descriptorIndex := 118, attributes := #[] }] 48 6 #[] #[{ accessFlags := 26, nameIndex := 61, descriptorIndex := 62, attributes := #[] }, { accessFlags := 26, nameIndex := 65, descriptorIndex := 62, attributes := #[] }, { accessFlags := 24, nameIndex := 430, descriptorIndex := 62, attributes := #[] }, { accessFlags := 4120, nameIndex := 46, descriptorIndex := 47, attributes := #[] }])
  fields := #[{ name := "HI_BYTE_SHIFT", type := .int, accessFlags := 26, slot := 0, constantValue := 0 }, { name := "LO_BYTE_SHIFT", type := .int, accessFlags := 26, slot := 1, constantValue := 0 }, { name := "MAX_LENGTH", type := .int, accessFlags := 24, slot := 2, constantValue := 0 }, { name := "$assertionsDisabled", type := .boolean, accessFlags := 4120, slot := 3, constantValue := 0 }]
  methods := #[k8m0, k8m1, k8m2, k8m3]
  instanceTypes := #[]
  staticTypes := #[.int, .int, .int, .boolean]
  resolved := Array.replicate 635 none
  statics := none }

def pool9 : Array CpInfo := pool [(1, .methodref 2 3), (0, .class_ 4), (0, .nameAndType 5 6), (0, u "java/lang/Object"), (0, u "<init>"), (0, u "()V"), (0, .class_ 8), (0, u "com/example/scheherazade/scheherazade/reader/TagParts"), (0, .class_ 10), (0, u "java/lang/String"), (0, .fieldref 7 12), (0, .nameAndType 13 14), (0, u "attributeNames"), (0, u "[Ljava/lang/String;"), (0, .fieldref 7 16), (0, .nameAndType 17 18), (0, u "attributePrefixes"), (0, u "[Z"), (0, .class_ 20), (0, u "[C"), (0, .fieldref 7 22), (0, .nameAndType 23 24), (0, u "attributeSpellings"), (0, u "[[C"), (0, .fieldref 7 26), (0, .nameAndType 27 28), (0, u "valueStarts"), (0, u "[I"), (0, .fieldref 7 30), (0, .nameAndType 31 28), (0, u "valueLengths"), (0, .fieldref 7 33), (0, .nameAndType 34 14), (0, u "attributeValues"), (0, .fieldref 7 36), (0, .nameAndType 37 38), (0, u "name"), (0, u "Ljava/lang/String;"), (0, .fieldref 7 40), (0, .nameAndType 41 42), (0, u "prefixed"), (0, u "Z"), (0, .fieldref 7 44), (0, .nameAndType 45 20), (0, u "nameSpelling"), (0, .fieldref 7 47), (0, .nameAndType 48 20), (0, u "source"), (0, .fieldref 7 50), (0, .nameAndType 51 52), (0, u "attributeCount"), (0, u "I"), (16, u "empty"), (2, u "endLine"), (2, u "endColumn"), (0, .methodref 9 77), (0, .nameAndType 5 78), (0, u "([CII)V"), (0, u "INITIAL_ROOM"), (4, u "start"), (0, u "(Ljava/lang/String;Z[C[C)V"), (0, u "addAttribute"), (0, u "(Ljava/lang/String;Z[CII)V"), (1, u "getLikelyAttributeSpelling"), (0, u "(I)[C"), (1, u "(I)Ljava/lang/String;"), (4, u "getName"), (0, u "()Ljava/lang/String;"), (0, u "getNameSpelling"), (0, u "()[C"), (0, u "hasPrefix"), (0, u "()Z"), (0, u "getAttributeCount"), (0, u "()I"), (2, u "getAttributeValue")] 5

def k9c0 : Code := { maxStack := 2, maxLocals := 1, code := prog_105_method_1_code, exceptionTable := #[], attributes := #[] }
def k9m0 : Method := { name := "<init>", desc := "()V", sig := { parameters := [], returnType := none }, accessFlags := 1, code := some k9c0 }
def k9c1 : Code := { maxStack := 2, maxLocals := 5, code := prog_105_method_2_code, exceptionTable := #[], attributes := #[] }
def k9m1 : Method := { name := "start", desc := "(Ljava/lang/String;Z[C[C)V", sig := { parameters := [(.object "java/lang/String"), .boolean, (.array .char), (.array .char)], returnType := none }, accessFlags := 0, code := some k9c1 }
def k9c2 : Code := { maxStack := 3, maxLocals := 7, code := prog_105_method_3_code, exceptionTable := #[], attributes := #[] }
def k9m2 : Method := { name := "addAttribute", desc := "(Ljava/lang/String;Z[CII)V", sig := { parameters := [(.object "java/lang/String"), .boolean, (.array .char), .int, .int], returnType := none }, accessFlags := 0, code := some k9c2 }
def k9c3 : Code := { maxStack := 2, maxLocals := 2, code := prog_105_method_4_code, exceptionTable := #[], attributes := #[] }
def k9m3 : Method := { name := "getLikelyAttributeSpelling", desc := "(I)[C", sig := { parameters := [.int], returnType := some (.array .char) }, accessFlags := 0, code := some k9c3 }
def k9c4 : Code := { maxStack := 1, maxLocals := 1, code := prog_105_method_8_code, exceptionTable := #[], attributes := #[] }
def k9m4 : Method := { name := "getName", desc := "()Ljava/lang/String;", sig := { parameters := [], returnType := some (.object "java/lang/String") }, accessFlags := 1, code := some k9c4 }
def k9c5 : Code := { maxStack := 1, maxLocals := 1, code := prog_105_method_9_code, exceptionTable := #[], attributes := #[] }
def k9m5 : Method := { name := "getNameSpelling", desc := "()[C", sig := { parameters := [], returnType := some (.array .char) }, accessFlags := 1, code := some k9c5 }
def k9c6 : Code := { maxStack := 1, maxLocals := 1, code := prog_105_method_10_code, exceptionTable := #[], attributes := #[] }
def k9m6 : Method := { name := "hasPrefix", desc := "()Z", sig := { parameters := [], returnType := some .boolean }, accessFlags := 1, code := some k9c6 }
def k9c7 : Code := { maxStack := 1, maxLocals := 1, code := prog_105_method_11_code, exceptionTable := #[], attributes := #[] }
def k9m7 : Method := { name := "getAttributeCount", desc := "()I", sig := { parameters := [], returnType := some .int }, accessFlags := 1, code := some k9c7 }
def k9c8 : Code := { maxStack := 6, maxLocals := 3, code := prog_105_method_14_code, exceptionTable := #[], attributes := #[] }
def k9m8 : Method := { name := "getAttributeValue", desc := "(I)Ljava/lang/String;", sig := { parameters := [.int], returnType := some (.object "java/lang/String") }, accessFlags := 1, code := some k9c8 }
/-- com/example/scheherazade/scheherazade/reader/TagParts -/
def k9 : Class := { plain "com/example/scheherazade/scheherazade/reader/TagParts" (some 0) with
  accessFlags := 49
  interfaces := #[]
  cf := some (fileOf pool9 7 #[] #[{ accessFlags := 1, nameIndex := 5, descriptorIndex := 6, attributes := #[] }, { accessFlags := 0, nameIndex := 84, descriptorIndex := 85, attributes := #[] }, { accessFlags := 0, nameIndex := 86, descriptorIndex := 87, attributes := #[] }, { accessFlags := 0, nameIndex := 89, descriptorIndex := 90, attributes := #[] }, { accessFlags := 1, nameIndex := 97, descriptorIndex := 98, attributes := #[] }, { accessFlags := 1, nameIndex := 99, descriptorIndex := 100, attributes := #[] }, { accessFlags := 1, nameIndex := 101, descriptorIndex := 102, attributes := #[] }, { accessFlags := 1, nameIndex := 103, descriptorIndex := 104, attributes := #[] }, { accessFlags := 1, nameIndex := 107, descriptorIndex := 92, attributes := #[] }] 49 2 #[] #[{ accessFlags := 26, nameIndex := 79, descriptorIndex := 52, attributes := #[] }, { accessFlags := 2, nameIndex := 37, descriptorIndex := 38, attributes := #[] }, { accessFlags := 2, nameIndex := 41, descriptorIndex := 42, attributes := #[] }, { accessFlags := 2, nameIndex := 45, descriptorIndex := 20, attributes := #[] }, { accessFlags := 2, nameIndex := 13, descriptorIndex := 14, attributes := #[] }, { accessFlags := 2, nameIndex := 17, descriptorIndex := 18, attributes := #[] }, { accessFlags := 2, nameIndex := 23, descriptorIndex := 24, attributes := #[] }, { accessFlags := 2, nameIndex := 48, descriptorIndex := 20, attributes := #[] }, { accessFlags := 2, nameIndex := 27, descriptorIndex := 28, attributes := #[] }, { accessFlags := 2, nameIndex := 31, descriptorIndex := 28, attributes := #[] }, { accessFlags := 2, nameIndex := 34, descriptorIndex := 14, attributes := #[] }, { accessFlags := 2, nameIndex := 51, descriptorIndex := 52, attributes := #[] }, { accessFlags := 2, nameIndex := 69, descriptorIndex := 42, attributes := #[] }, { accessFlags := 2, nameIndex := 72, descriptorIndex := 52, attributes := #[] }, { accessFlags := 2, nameIndex := 75, descriptorIndex := 52, attributes := #[] }])
  fields := #[{ name := "INITIAL_ROOM", type := .int, accessFlags := 26, slot := 0, constantValue := 0 }, { name := "name", type := (.object "java/lang/String"), accessFlags := 2, slot := 0, constantValue := 0 }, { name := "prefixed", type := .boolean, accessFlags := 2, slot := 1, constantValue := 0 }, { name := "nameSpelling", type := (.array .char), accessFlags := 2, slot := 2, constantValue := 0 }, { name := "attributeNames", type := (.array (.object "java/lang/String")), accessFlags := 2, slot := 3, constantValue := 0 }, { name := "attributePrefixes", type := (.array .boolean), accessFlags := 2, slot := 4, constantValue := 0 }, { name := "attributeSpellings", type := (.array (.array .char)), accessFlags := 2, slot := 5, constantValue := 0 }, { name := "source", type := (.array .char), accessFlags := 2, slot := 6, constantValue := 0 }, { name := "valueStarts", type := (.array .int), accessFlags := 2, slot := 7, constantValue := 0 }, { name := "valueLengths", type := (.array .int), accessFlags := 2, slot := 8, constantValue := 0 }, { name := "attributeValues", type := (.array (.object "java/lang/String")), accessFlags := 2, slot := 9, constantValue := 0 }, { name := "attributeCount", type := .int, accessFlags := 2, slot := 10, constantValue := 0 }, { name := "empty", type := .boolean, accessFlags := 2, slot := 11, constantValue := 0 }, { name := "endLine", type := .int, accessFlags := 2, slot := 12, constantValue := 0 }, { name := "endColumn", type := .int, accessFlags := 2, slot := 13, constantValue := 0 }]
  methods := #[k9m0, k9m1, k9m2, k9m3, k9m4, k9m5, k9m6, k9m7, k9m8]
  instanceTypes := #[(.object "java/lang/String"), .boolean, (.array .char), (.array (.object "java/lang/String")), (.array .boolean), (.array (.array .char)), (.array .char), (.array .int), (.array .int), (.array (.object "java/lang/String")), .int, .boolean, .int, .int]
  staticTypes := #[.int]
  resolved := Array.replicate 113 none
  statics := none }

def pool10 : Array CpInfo := pool [(2, .class_ 4), (1, u "java/lang/Object"), (0, u "<init>"), (0, u "()V"), (17, .class_ 26), (1, u "jdk/internal/util/Preconditions"), (6, u "checkIndex"), (15, u "checkFromIndexSize"), (5, .class_ 56), (0, u "jdk/internal/util/Preconditions$4"), (57, .class_ 115), (0, u "jdk/internal/util/Preconditions$1"), (7, u "SIOOBE_FORMATTER"), (0, u "Ljava/util/function/BiFunction;"), (0, .class_ 126), (0, u "jdk/internal/util/Preconditions$2"), (3, u "AIOOBE_FORMATTER"), (0, .class_ 132), (0, u "jdk/internal/util/Preconditions$3"), (3, u "IOOBE_FORMATTER"), (41, u "(IILjava/util/function/BiFunction;)I"), (4, u "(IIILjava/util/function/BiFunction;)I")] 10

def k10m0 : Method := { name := "<init>", desc := "()V", sig := { parameters := [], returnType := none }, accessFlags := 1, code := none }
def k10c1 : Code := { maxStack := 3, maxLocals := 3, code := jdk_41_method_11_code, exceptionTable := #[], attributes := #[] }
def k10m1 : Method := { name := "checkIndex", desc := "(IILjava/util/function/BiFunction;)I", sig := { parameters := [.int, .int, (.object "java/util/function/BiFunction")], returnType := some .int }, accessFlags := 9, code := some k10c1 }
def k10c2 : Code := { maxStack := 4, maxLocals := 4, code := jdk_41_method_13_code, exceptionTable := #[], attributes := #[] }
def k10m2 : Method := { name := "checkFromIndexSize", desc := "(IIILjava/util/function/BiFunction;)I", sig := { parameters := [.int, .int, .int, (.object "java/util/function/BiFunction")], returnType := some .int }, accessFlags := 9, code := some k10c2 }
/-- jdk/internal/util/Preconditions -/
def k10 : Class := { plain "jdk/internal/util/Preconditions" (some 0) with
  accessFlags := 33
  interfaces := #[]
  cf := some (fileOf pool10 24 #[.nestMembers #[55, 131, 125, 114]] #[{ accessFlags := 1, nameIndex := 5, descriptorIndex := 6, attributes := #[] }, { accessFlags := 9, nameIndex := 33, descriptorIndex := 178, attributes := #[] }, { accessFlags := 9, nameIndex := 49, descriptorIndex := 183, attributes := #[] }] 33 2 #[] #[{ accessFlags := 25, nameIndex := 123, descriptorIndex := 124, attributes := #[] }, { accessFlags := 25, nameIndex := 130, descriptorIndex := 124, attributes := #[] }, { accessFlags := 25, nameIndex := 136, descriptorIndex := 124, attributes := #[] }])
  fields := #[{ name := "SIOOBE_FORMATTER", type := (.object "java/util/function/BiFunction"), accessFlags := 25, slot := 0, constantValue := 0 }, { name := "AIOOBE_FORMATTER", type := (.object "java/util/function/BiFunction"), accessFlags := 25, slot := 1, constantValue := 0 }, { name := "IOOBE_FORMATTER", type := (.object "java/util/function/BiFunction"), accessFlags := 25, slot := 2, constantValue := 0 }]
  methods := #[k10m0, k10m1, k10m2]
  instanceTypes := #[]
  staticTypes := #[(.object "java/util/function/BiFunction"), (.object "java/util/function/BiFunction"), (.object "java/util/function/BiFunction")]
  resolved := Array.replicate 194 none
  statics := some 1 }

def pool11 : Array CpInfo := pool [(1, .class_ 2), (0, u "java/lang/String"), (1, .class_ 6), (1, u "java/lang/Object"), (0, u "<init>"), (0, u "()V"), (0, .methodref 1 10), (0, .nameAndType 11 12), (0, u "checkIndex"), (0, u "(II)V"), (1, .class_ 16), (1, u "java/lang/StringLatin1"), (36, u "([BI)C"), (67, u "$assertionsDisabled"), (0, u "Z"), (98, .class_ 223), (1, u "java/lang/StringLatin1$LinesSpliterator"), (28, u "charAt"), (137, .class_ 391), (0, u "java/lang/StringLatin1$CharsSpliterator")] 3

def k11m0 : Method := { name := "<init>", desc := "()V", sig := { parameters := [], returnType := none }, accessFlags := 0, code := none }
def k11c1 : Code := { maxStack := 2, maxLocals := 2, code := jdk_43_method_2_code, exceptionTable := #[], attributes := #[] }
def k11m1 : Method := { name := "charAt", desc := "([BI)C", sig := { parameters := [(.array .byte), .int], returnType := some .char }, accessFlags := 9, code := some k11c1 }
/-- java/lang/StringLatin1 -/
def k11 : Class := { plain "java/lang/StringLatin1" (some 0) with
  accessFlags := 48
  interfaces := #[]
  cf := some (fileOf pool11 14 #[.nestMembers #[390, 221]] #[{ accessFlags := 0, nameIndex := 7, descriptorIndex := 8, attributes := #[] }, { accessFlags := 9, nameIndex := 252, descriptorIndex := 53, attributes := #[] }] 48 4 #[] #[{ accessFlags := 4120, nameIndex := 121, descriptorIndex := 122, attributes := #[] }])
  fields := #[{ name := "$assertionsDisabled", type := .boolean, accessFlags := 4120, slot := 0, constantValue := 0 }]
  methods := #[k11m0, k11m1]
  instanceTypes := #[]
  staticTypes := #[.boolean]
  resolved := Array.replicate 395 none
  statics := none }

def pool12 : Array CpInfo := pool [(9, u "<init>"), (6, .class_ 18), (1, u "java/lang/Object"), (0, u "()V"), (1, .class_ 23), (1, u "jdk/internal/util/ArraysSupport"), (0, u "LOG2_ARRAY_LONG_INDEX_SCALE"), (0, u "I"), (2, u "U"), (0, u "Ljdk/internal/misc/Unsafe;"), (8, u "BIG_ENDIAN"), (0, u "Z"), (8, u "LOG2_BYTE_BIT_SIZE"), (4, u "LOG2_ARRAY_INT_INDEX_SCALE"), (54, u "JLA"), (0, u "Ljdk/internal/access/JavaLangAccess;"), (11, u "LOG2_ARRAY_BOOLEAN_INDEX_SCALE"), (9, u "LOG2_ARRAY_BYTE_INDEX_SCALE"), (5, u "LOG2_ARRAY_CHAR_INDEX_SCALE"), (5, u "LOG2_ARRAY_SHORT_INDEX_SCALE"), (18, u "LOG2_ARRAY_FLOAT_INDEX_SCALE"), (24, u "LOG2_ARRAY_DOUBLE_INDEX_SCALE"), (89, u "T_BOOLEAN"), (2, u "T_CHAR"), (1, u "T_FLOAT"), (1, u "T_DOUBLE"), (1, u "T_BYTE"), (1, u "T_SHORT"), (1, u "T_INT"), (1, u "T_LONG"), (1, u "SOFT_MAX_ARRAY_LENGTH")] 83

def k12m0 : Method := { name := "<init>", desc := "()V", sig := { parameters := [], returnType := none }, accessFlags := 2, code := none }
/-- jdk/internal/util/ArraysSupport -/
def k12 : Class := { plain "jdk/internal/util/ArraysSupport" (some 0) with
  accessFlags := 33
  interfaces := #[]
  cf := some (fileOf pool12 21 #[] #[{ accessFlags := 2, nameIndex := 9, descriptorIndex := 19, attributes := #[] }] 33 16 #[] #[{ accessFlags := 24, nameIndex := 28, descriptorIndex := 29, attributes := #[] }, { accessFlags := 26, nameIndex := 38, descriptorIndex := 39, attributes := #[] }, { accessFlags := 25, nameIndex := 121, descriptorIndex := 25, attributes := #[] }, { accessFlags := 25, nameIndex := 131, descriptorIndex := 25, attributes := #[] }, { accessFlags := 25, nameIndex := 137, descriptorIndex := 25, attributes := #[] }, { accessFlags := 25, nameIndex := 143, descriptorIndex := 25, attributes := #[] }, { accessFlags := 25, nameIndex := 53, descriptorIndex := 25, attributes := #[] }, { accessFlags := 25, nameIndex := 24, descriptorIndex := 25, attributes := #[] }, { accessFlags := 25, nameIndex := 162, descriptorIndex := 25, attributes := #[] }, { accessFlags := 25, nameIndex := 187, descriptorIndex := 25, attributes := #[] }, { accessFlags := 26, nameIndex := 48, descriptorIndex := 25, attributes := #[] }, { accessFlags := 25, nameIndex := 277, descriptorIndex := 25, attributes := #[] }, { accessFlags := 25, nameIndex := 280, descriptorIndex := 25, attributes := #[] }, { accessFlags := 25, nameIndex := 282, descriptorIndex := 25, attributes := #[] }, { accessFlags := 25, nameIndex := 284, descriptorIndex := 25, attributes := #[] }, { accessFlags := 25, nameIndex := 286, descriptorIndex := 25, attributes := #[] }, { accessFlags := 25, nameIndex := 288, descriptorIndex := 25, attributes := #[] }, { accessFlags := 25, nameIndex := 290, descriptorIndex := 25, attributes := #[] }, { accessFlags := 25, nameIndex := 292, descriptorIndex := 25, attributes := #[] }, { accessFlags := 26, nameIndex := 108, descriptorIndex := 109, attributes := #[] }, { accessFlags := 25, nameIndex := 294, descriptorIndex := 25, attributes := #[] }])
  fields := #[{ name := "U", type := (.object "jdk/internal/misc/Unsafe"), accessFlags := 24, slot := 0, constantValue := 0 }, { name := "BIG_ENDIAN", type := .boolean, accessFlags := 26, slot := 1, constantValue := 0 }, { name := "LOG2_ARRAY_BOOLEAN_INDEX_SCALE", type := .int, accessFlags := 25, slot := 2, constantValue := 0 }, { name := "LOG2_ARRAY_BYTE_INDEX_SCALE", type := .int, accessFlags := 25, slot := 3, constantValue := 0 }, { name := "LOG2_ARRAY_CHAR_INDEX_SCALE", type := .int, accessFlags := 25, slot := 4, constantValue := 0 }, { name := "LOG2_ARRAY_SHORT_INDEX_SCALE", type := .int, accessFlags := 25, slot := 5, constantValue := 0 }, { name := "LOG2_ARRAY_INT_INDEX_SCALE", type := .int, accessFlags := 25, slot := 6, constantValue := 0 }, { name := "LOG2_ARRAY_LONG_INDEX_SCALE", type := .int, accessFlags := 25, slot := 7, constantValue := 0 }, { name := "LOG2_ARRAY_FLOAT_INDEX_SCALE", type := .int, accessFlags := 25, slot := 8, constantValue := 0 }, { name := "LOG2_ARRAY_DOUBLE_INDEX_SCALE", type := .int, accessFlags := 25, slot := 9, constantValue := 0 }, { name := "LOG2_BYTE_BIT_SIZE", type := .int, accessFlags := 26, slot := 10, constantValue := 0 }, { name := "T_BOOLEAN", type := .int, accessFlags := 25, slot := 11, constantValue := 0 }, { name := "T_CHAR", type := .int, accessFlags := 25, slot := 12, constantValue := 0 }, { name := "T_FLOAT", type := .int, accessFlags := 25, slot := 13, constantValue := 0 }, { name := "T_DOUBLE", type := .int, accessFlags := 25, slot := 14, constantValue := 0 }, { name := "T_BYTE", type := .int, accessFlags := 25, slot := 15, constantValue := 0 }, { name := "T_SHORT", type := .int, accessFlags := 25, slot := 16, constantValue := 0 }, { name := "T_INT", type := .int, accessFlags := 25, slot := 17, constantValue := 0 }, { name := "T_LONG", type := .int, accessFlags := 25, slot := 18, constantValue := 0 }, { name := "JLA", type := (.object "jdk/internal/access/JavaLangAccess"), accessFlags := 26, slot := 19, constantValue := 0 }, { name := "SOFT_MAX_ARRAY_LENGTH", type := .int, accessFlags := 25, slot := 20, constantValue := 0 }]
  methods := #[k12m0]
  instanceTypes := #[]
  staticTypes := #[(.object "jdk/internal/misc/Unsafe"), .boolean, .int, .int, .int, .int, .int, .int, .int, .int, .int, .int, .int, .int, .int, .int, .int, .int, .int, (.object "jdk/internal/access/JavaLangAccess"), .int]
  resolved := Array.replicate 378 none
  statics := none }

def pool13 : Array CpInfo := pool [(1, u "java/lang/Cloneable"), (0, .class_ 1), (0, u "java/lang/Object"), (0, .class_ 3)] 3

/-- java/lang/Cloneable -/
def k13 : Class := { plain "java/lang/Cloneable" (some 0) with
  accessFlags := 1537
  interfaces := #[]
  cf := some (fileOf pool13 2 #[] #[] 1537 4 #[] #[])
  fields := #[]
  methods := #[]
  instanceTypes := #[]
  staticTypes := #[]
  resolved := Array.replicate 8 none
  statics := none }

/-- the primitive boolean -/
def k14 : Class := { plain "boolean" none with kind := .primitive 'Z', accessFlags := 0x411 }
/-- [Z -/
def k15 : Class := { plain "[Z" (some 0) with kind := .array 14 .boolean, interfaces := #[13, 2], accessFlags := 1041 }

/-- the primitive byte -/
def k16 : Class := { plain "byte" none with kind := .primitive 'B', accessFlags := 0x411 }
/-- [B -/
def k17 : Class := { plain "[B" (some 0) with kind := .array 16 .byte, interfaces := #[13, 2], accessFlags := 1041 }

/-- the primitive char -/
def k18 : Class := { plain "char" none with kind := .primitive 'C', accessFlags := 0x411 }
/-- [C -/
def k19 : Class := { plain "[C" (some 0) with kind := .array 18 .char, interfaces := #[13, 2], accessFlags := 1041 }

/-- the primitive int -/
def k20 : Class := { plain "int" none with kind := .primitive 'I', accessFlags := 0x411 }
/-- [I -/
def k21 : Class := { plain "[I" (some 0) with kind := .array 20 .int, interfaces := #[13, 2], accessFlags := 1041 }

/-- [Ljava/lang/String; -/
def k22 : Class := { plain "[Ljava/lang/String;" (some 0) with kind := .array 7 (.object "java/lang/String"), interfaces := #[13, 2], accessFlags := 1041 }
/-- [[C -/
def k23 : Class := { plain "[[C" (some 0) with kind := .array 19 (.array .char), interfaces := #[13, 2], accessFlags := 1041 }

def heap : Heap := #[{ cls := 7, slots := #[.long 0, .int 1, .null, .int 0, .null, .int 0, .int 0], vm := .statics 7 },
  { cls := 10, slots := #[.null, .null, .null], vm := .statics 10 }]
def classes : Array Class := #[k0, k1, k2, k3, k4, k5, k6, k7, k8, k9, k10, k11, k12, k13, k14, k15, k16, k17, k18, k19, k20, k21, k22, k23]
def interned : List (Array UInt16 × Addr) := []
def slotsUsed : Nat := 10
def theMethod : MethodId := ⟨1, 1⟩
def args0 : Array Value := #[.int 1, .int 2, .int 3]
def aboutOver (below : List Frame) : State where
  vm := { classes := classes, interned := interned.toArray }
  heap := heap
  slotsUsed := slotsUsed
  threads := #[{ frames := .invoking theMethod args0 :: below }]
def below0 : List Frame := [.native { method := ⟨0, 0⟩, args := #[] }]
def about1 : State := aboutOver below0
def p0 : Program := .bare "" "" ""
def e0 : Env := launch0.env 0 0 0
theorem w_frames : about1.frames = Frame.invoking theMethod args0 :: below0 := rfl
set_option maxRecDepth 65536 in
theorem w_args : argsFit about1.vm theMethod args0 = true := by decide +kernel
set_option maxRecDepth 65536 in
theorem w_heap : heapFits about1 = true := by decide +kernel
set_option maxRecDepth 65536 in
theorem w_runnable : about1.curStatus? = some .runnable := by decide +kernel
set_option maxRecDepth 65536 in
theorem w_alone : about1.alone = true := by decide +kernel
set_option maxRecDepth 65536 in
theorem w_named : about1.methodNamed? x = some theMethod := by decide +kernel
set_option maxRecDepth 65536 in
theorem w_hears : about1.hears theMethod below0 = true := by decide +kernel
set_option maxRecDepth 65536 in
theorem w_ripe : about1.ripe theMethod args0 below0 = true := by decide +kernel
theorem w_running : about1.status = .running := rfl
set_option maxRecDepth 65536 in
theorem w_room : about1.hasRoom e0.platform room_1 = true :=
  launch0.hasRoom_least _ room_1 (by decide +kernel) (by decide +kernel) (by decide +kernel) (by decide +kernel) (by decide +kernel) (by decide +kernel)
theorem allAtoms_all (ts : List Jvm.Cond) (a : Array Jvm.Value) (st : Jvm.State) : (allAtoms ts).before a st = ts.all (fun c => c.before a st) := by
  induction ts with
  | nil => rfl
  | cons c t ih =>
    show (Jvm.Cond.and c (allAtoms t)).before a st = _
    rw [Jvm.Cond.before_and, ih, List.all_cons]
def words1 : List Jvm.Cond := Jvm.Cond.code x code maxLocals ret :: tables_1
/-- a 'code' word, met by the world's own term for the bytes: nothing is compared byte by byte -/
theorem code_word {y : MethodName} {bytes : ByteArray} {mx : Nat} {rt : Option FieldType} {a : Array Value} {s : State} {m : MethodId} {meth : Method} {c : Code} (h1 : s.methodNamed? y = some m) (h2 : s.vm.method? m = some meth) (h3 : meth.code = some c) (h4 : c.code = bytes)
    (h5 : (c.maxLocals == mx && c.exceptionTable.isEmpty && decide (c.maxStack ≤ mostOperands) && decide (meth.sig.returnType = rt) && !meth.locks && decide (parseMethodDescriptor y.desc = some meth.sig)) = true) : (Jvm.Cond.code y bytes mx rt).before a s = true := by
  simp only [Bool.and_eq_true, beq_iff_eq, Bool.not_eq_true', decide_eq_true_eq] at h5
  obtain ⟨⟨⟨⟨⟨g1, g2⟩, g3⟩, g4⟩, g5⟩, g6⟩ := h5
  simp [Cond.before, Cond.holds, Cond.value, h1, h2, h3, h4, g1, g2, g3, g4, g5, g6]
def isCode : Jvm.Cond → Bool
  | .code _ _ _ _ => true
  | _ => false
theorem all_split {L : List Jvm.Cond} {P : Jvm.Cond → Bool} (h1 : L.all (fun c => isCode c || P c) = true) (h2 : ∀ c ∈ L.filter isCode, P c = true) : L.all P = true := by
  refine List.all_eq_true.mpr fun c hc => ?_
  have h := List.all_eq_true.mp h1 c hc
  rcases Bool.eq_false_or_eq_true (isCode c) with hi | hi
  · exact h2 c (List.mem_filter.mpr ⟨hc, hi⟩)
  · simpa [hi] using h
set_option maxRecDepth 65536 in
theorem w_c0 : (Jvm.Cond.code x code maxLocals ret).before args0 about1 = true := code_word (m := ⟨1, 1⟩) (meth := k1m1) (c := k1c1) (by decide +kernel) rfl rfl rfl (by decide +kernel)
set_option maxRecDepth 65536 in
theorem w_c1 : (Jvm.Cond.code ({ cls := "java/lang/String", name := "<init>", desc := "([C)V" } : Jvm.MethodName) jdk_42_method_3_code (2 : Nat) (Option.none : Option Jvm.ClassFile.FieldType)).before args0 about1 = true := code_word (m := ⟨7, 1⟩) (meth := k7m1) (c := k7c1) (by decide +kernel) rfl rfl rfl (by decide +kernel)
set_option maxRecDepth 65536 in
theorem w_c2 : (Jvm.Cond.code ({ cls := "java/lang/String", name := "<init>", desc := "([CIILjava/lang/Void;)V" } : Jvm.MethodName) jdk_42_method_149_code (6 : Nat) (Option.none : Option Jvm.ClassFile.FieldType)).before args0 about1 = true := code_word (m := ⟨7, 6⟩) (meth := k7m6) (c := k7c6) (by decide +kernel) rfl rfl rfl (by decide +kernel)
set_option maxRecDepth 65536 in
theorem w_c3 : (Jvm.Cond.code ({ cls := "java/lang/Object", name := "<init>", desc := "()V" } : Jvm.MethodName) object_method_1_code (1 : Nat) (Option.none : Option Jvm.ClassFile.FieldType)).before args0 about1 = true := code_word (m := ⟨0, 0⟩) (meth := k0m0) (c := k0c0) (by decide +kernel) rfl rfl rfl (by decide +kernel)
set_option maxRecDepth 65536 in
theorem w_c4 : (Jvm.Cond.code ({ cls := "java/lang/StringUTF16", name := "compress", desc := "([CII)[B" } : Jvm.MethodName) jdk_52_method_16_code (6 : Nat) (Option.some (Jvm.ClassFile.FieldType.array Jvm.ClassFile.FieldType.byte))).before args0 about1 = true := code_word (m := ⟨8, 2⟩) (meth := k8m2) (c := k8c2) (by decide +kernel) rfl rfl rfl (by decide +kernel)
set_option maxRecDepth 65536 in
theorem w_c5 : (Jvm.Cond.code ({ cls := "java/lang/StringUTF16", name := "compress", desc := "([CI[BII)I" } : Jvm.MethodName) jdk_52_method_21_code (7 : Nat) (Option.some Jvm.ClassFile.FieldType.int)).before args0 about1 = true := code_word (m := ⟨8, 3⟩) (meth := k8m3) (c := k8c3) (by decide +kernel) rfl rfl rfl (by decide +kernel)
set_option maxRecDepth 65536 in
theorem w_c6 : (Jvm.Cond.code ({ cls := "java/lang/StringUTF16", name := "coderFromArrayLen", desc := "([BI)B" } : Jvm.MethodName) jdk_52_method_15_code (2 : Nat) (Option.some Jvm.ClassFile.FieldType.byte)).before args0 about1 = true := code_word (m := ⟨8, 1⟩) (meth := k8m1) (c := k8c1) (by decide +kernel) rfl rfl rfl (by decide +kernel)
set_option maxRecDepth 65536 in
theorem w_c7 : (Jvm.Cond.code ({ cls := "com/example/scheherazade/scheherazade/reader/TagParts", name := "<init>", desc := "()V" } : Jvm.MethodName) prog_105_method_1_code (1 : Nat) (Option.none : Option Jvm.ClassFile.FieldType)).before args0 about1 = true := code_word (m := ⟨9, 0⟩) (meth := k9m0) (c := k9c0) (by decide +kernel) rfl rfl rfl (by decide +kernel)
set_option maxRecDepth 65536 in
theorem w_c8 : (Jvm.Cond.code ({ cls := "com/example/scheherazade/scheherazade/reader/TagParts", name := "start", desc := "(Ljava/lang/String;Z[C[C)V" } : Jvm.MethodName) prog_105_method_2_code (5 : Nat) (Option.none : Option Jvm.ClassFile.FieldType)).before args0 about1 = true := code_word (m := ⟨9, 1⟩) (meth := k9m1) (c := k9c1) (by decide +kernel) rfl rfl rfl (by decide +kernel)
set_option maxRecDepth 65536 in
theorem w_c9 : (Jvm.Cond.code ({ cls := "com/example/scheherazade/scheherazade/reader/TagParts", name := "addAttribute", desc := "(Ljava/lang/String;Z[CII)V" } : Jvm.MethodName) prog_105_method_3_code (7 : Nat) (Option.none : Option Jvm.ClassFile.FieldType)).before args0 about1 = true := code_word (m := ⟨9, 2⟩) (meth := k9m2) (c := k9c2) (by decide +kernel) rfl rfl rfl (by decide +kernel)
set_option maxRecDepth 65536 in
theorem w_c10 : (Jvm.Cond.code ({ cls := "com/example/scheherazade/scheherazade/reader/TagParts", name := "getName", desc := "()Ljava/lang/String;" } : Jvm.MethodName) prog_105_method_8_code (1 : Nat) (Option.some (Jvm.ClassFile.FieldType.object "java/lang/String"))).before args0 about1 = true := code_word (m := ⟨9, 4⟩) (meth := k9m4) (c := k9c4) (by decide +kernel) rfl rfl rfl (by decide +kernel)
set_option maxRecDepth 65536 in
theorem w_c11 : (Jvm.Cond.code ({ cls := "com/example/scheherazade/scheherazade/reader/TagParts", name := "hasPrefix", desc := "()Z" } : Jvm.MethodName) prog_105_method_10_code (1 : Nat) (Option.some Jvm.ClassFile.FieldType.boolean)).before args0 about1 = true := code_word (m := ⟨9, 6⟩) (meth := k9m6) (c := k9c6) (by decide +kernel) rfl rfl rfl (by decide +kernel)
set_option maxRecDepth 65536 in
theorem w_c12 : (Jvm.Cond.code ({ cls := "com/example/scheherazade/scheherazade/reader/TagParts", name := "getNameSpelling", desc := "()[C" } : Jvm.MethodName) prog_105_method_9_code (1 : Nat) (Option.some (Jvm.ClassFile.FieldType.array Jvm.ClassFile.FieldType.char))).before args0 about1 = true := code_word (m := ⟨9, 5⟩) (meth := k9m5) (c := k9c5) (by decide +kernel) rfl rfl rfl (by decide +kernel)
set_option maxRecDepth 65536 in
theorem w_c13 : (Jvm.Cond.code ({ cls := "com/example/scheherazade/scheherazade/reader/TagParts", name := "getAttributeCount", desc := "()I" } : Jvm.MethodName) prog_105_method_11_code (1 : Nat) (Option.some Jvm.ClassFile.FieldType.int)).before args0 about1 = true := code_word (m := ⟨9, 7⟩) (meth := k9m7) (c := k9c7) (by decide +kernel) rfl rfl rfl (by decide +kernel)
set_option maxRecDepth 65536 in
theorem w_c14 : (Jvm.Cond.code ({ cls := "com/example/scheherazade/scheherazade/reader/TagParts", name := "getLikelyAttributeSpelling", desc := "(I)[C" } : Jvm.MethodName) prog_105_method_4_code (2 : Nat) (Option.some (Jvm.ClassFile.FieldType.array Jvm.ClassFile.FieldType.char))).before args0 about1 = true := code_word (m := ⟨9, 3⟩) (meth := k9m3) (c := k9c3) (by decide +kernel) rfl rfl rfl (by decide +kernel)
set_option maxRecDepth 65536 in
theorem w_c15 : (Jvm.Cond.code ({ cls := "com/example/scheherazade/scheherazade/reader/TagParts", name := "getAttributeValue", desc := "(I)Ljava/lang/String;" } : Jvm.MethodName) prog_105_method_14_code (3 : Nat) (Option.some (Jvm.ClassFile.FieldType.object "java/lang/String"))).before args0 about1 = true := code_word (m := ⟨9, 8⟩) (meth := k9m8) (c := k9c8) (by decide +kernel) rfl rfl rfl (by decide +kernel)
set_option maxRecDepth 65536 in
theorem w_c16 : (Jvm.Cond.code ({ cls := "java/lang/String", name := "<init>", desc := "([CII)V" } : Jvm.MethodName) jdk_42_method_4_code (4 : Nat) (Option.none : Option Jvm.ClassFile.FieldType)).before args0 about1 = true := code_word (m := ⟨7, 2⟩) (meth := k7m2) (c := k7c2) (by decide +kernel) rfl rfl rfl (by decide +kernel)
set_option maxRecDepth 65536 in
theorem w_c17 : (Jvm.Cond.code ({ cls := "java/lang/String", name := "rangeCheck", desc := "([CII)Ljava/lang/Void;" } : Jvm.MethodName) jdk_42_method_5_code (3 : Nat) (Option.some (Jvm.ClassFile.FieldType.object "java/lang/Void"))).before args0 about1 = true := code_word (m := ⟨7, 3⟩) (meth := k7m3) (c := k7c3) (by decide +kernel) rfl rfl rfl (by decide +kernel)
set_option maxRecDepth 65536 in
theorem w_c18 : (Jvm.Cond.code ({ cls := "java/lang/String", name := "checkBoundsOffCount", desc := "(III)I" } : Jvm.MethodName) jdk_42_method_157_code (3 : Nat) (Option.some Jvm.ClassFile.FieldType.int)).before args0 about1 = true := code_word (m := ⟨7, 10⟩) (meth := k7m10) (c := k7c10) (by decide +kernel) rfl rfl rfl (by decide +kernel)
set_option maxRecDepth 65536 in
theorem w_c19 : (Jvm.Cond.code ({ cls := "jdk/internal/util/Preconditions", name := "checkFromIndexSize", desc := "(IIILjava/util/function/BiFunction;)I" } : Jvm.MethodName) jdk_41_method_13_code (4 : Nat) (Option.some Jvm.ClassFile.FieldType.int)).before args0 about1 = true := code_word (m := ⟨10, 2⟩) (meth := k10m2) (c := k10c2) (by decide +kernel) rfl rfl rfl (by decide +kernel)
set_option maxRecDepth 65536 in
theorem w_c20 : (Jvm.Cond.code ({ cls := "java/lang/String", name := "length", desc := "()I" } : Jvm.MethodName) jdk_42_method_54_code (1 : Nat) (Option.some Jvm.ClassFile.FieldType.int)).before args0 about1 = true := code_word (m := ⟨7, 4⟩) (meth := k7m4) (c := k7c4) (by decide +kernel) rfl rfl rfl (by decide +kernel)
set_option maxRecDepth 65536 in
theorem w_c21 : (Jvm.Cond.code ({ cls := "java/lang/String", name := "coder", desc := "()B" } : Jvm.MethodName) jdk_42_method_152_code (1 : Nat) (Option.some Jvm.ClassFile.FieldType.byte)).before args0 about1 = true := code_word (m := ⟨7, 7⟩) (meth := k7m7) (c := k7c7) (by decide +kernel) rfl rfl rfl (by decide +kernel)
set_option maxRecDepth 65536 in
theorem w_c22 : (Jvm.Cond.code ({ cls := "java/lang/String", name := "charAt", desc := "(I)C" } : Jvm.MethodName) jdk_42_method_56_code (2 : Nat) (Option.some Jvm.ClassFile.FieldType.char)).before args0 about1 = true := code_word (m := ⟨7, 5⟩) (meth := k7m5) (c := k7c5) (by decide +kernel) rfl rfl rfl (by decide +kernel)
set_option maxRecDepth 65536 in
theorem w_c23 : (Jvm.Cond.code ({ cls := "java/lang/String", name := "isLatin1", desc := "()Z" } : Jvm.MethodName) jdk_42_method_154_code (1 : Nat) (Option.some Jvm.ClassFile.FieldType.boolean)).before args0 about1 = true := code_word (m := ⟨7, 8⟩) (meth := k7m8) (c := k7c8) (by decide +kernel) rfl rfl rfl (by decide +kernel)
set_option maxRecDepth 65536 in
theorem w_c24 : (Jvm.Cond.code ({ cls := "java/lang/StringLatin1", name := "charAt", desc := "([BI)C" } : Jvm.MethodName) jdk_43_method_2_code (2 : Nat) (Option.some Jvm.ClassFile.FieldType.char)).before args0 about1 = true := code_word (m := ⟨11, 1⟩) (meth := k11m1) (c := k11c1) (by decide +kernel) rfl rfl rfl (by decide +kernel)
set_option maxRecDepth 65536 in
theorem w_c25 : (Jvm.Cond.code ({ cls := "java/lang/String", name := "checkIndex", desc := "(II)V" } : Jvm.MethodName) jdk_42_method_155_code (2 : Nat) (Option.none : Option Jvm.ClassFile.FieldType)).before args0 about1 = true := code_word (m := ⟨7, 9⟩) (meth := k7m9) (c := k7c9) (by decide +kernel) rfl rfl rfl (by decide +kernel)
set_option maxRecDepth 65536 in
theorem w_c26 : (Jvm.Cond.code ({ cls := "jdk/internal/util/Preconditions", name := "checkIndex", desc := "(IILjava/util/function/BiFunction;)I" } : Jvm.MethodName) jdk_41_method_11_code (3 : Nat) (Option.some Jvm.ClassFile.FieldType.int)).before args0 about1 = true := code_word (m := ⟨10, 1⟩) (meth := k10m1) (c := k10c1) (by decide +kernel) rfl rfl rfl (by decide +kernel)
def codes1 : List Jvm.Cond := [Jvm.Cond.code x code maxLocals ret, Jvm.Cond.code ({ cls := "java/lang/String", name := "<init>", desc := "([C)V" } : Jvm.MethodName) jdk_42_method_3_code (2 : Nat) (Option.none : Option Jvm.ClassFile.FieldType), Jvm.Cond.code ({ cls := "java/lang/String", name := "<init>", desc := "([CIILjava/lang/Void;)V" } : Jvm.MethodName) jdk_42_method_149_code (6 : Nat) (Option.none : Option Jvm.ClassFile.FieldType), Jvm.Cond.code ({ cls := "java/lang/Object", name := "<init>", desc := "()V" } : Jvm.MethodName) object_method_1_code (1 : Nat) (Option.none : Option Jvm.ClassFile.FieldType), Jvm.Cond.code ({ cls := "java/lang/StringUTF16", name := "compress", desc := "([CII)[B" } : Jvm.MethodName) jdk_52_method_16_code (6 : Nat) (Option.some (Jvm.ClassFile.FieldType.array Jvm.ClassFile.FieldType.byte)), Jvm.Cond.code ({ cls := "java/lang/StringUTF16", name := "compress", desc := "([CI[BII)I" } : Jvm.MethodName) jdk_52_method_21_code (7 : Nat) (Option.some Jvm.ClassFile.FieldType.int), Jvm.Cond.code ({ cls := "java/lang/StringUTF16", name := "coderFromArrayLen", desc := "([BI)B" } : Jvm.MethodName) jdk_52_method_15_code (2 : Nat) (Option.some Jvm.ClassFile.FieldType.byte), Jvm.Cond.code ({ cls := "com/example/scheherazade/scheherazade/reader/TagParts", name := "<init>", desc := "()V" } : Jvm.MethodName) prog_105_method_1_code (1 : Nat) (Option.none : Option Jvm.ClassFile.FieldType), Jvm.Cond.code ({ cls := "com/example/scheherazade/scheherazade/reader/TagParts", name := "start", desc := "(Ljava/lang/String;Z[C[C)V" } : Jvm.MethodName) prog_105_method_2_code (5 : Nat) (Option.none : Option Jvm.ClassFile.FieldType), Jvm.Cond.code ({ cls := "com/example/scheherazade/scheherazade/reader/TagParts", name := "addAttribute", desc := "(Ljava/lang/String;Z[CII)V" } : Jvm.MethodName) prog_105_method_3_code (7 : Nat) (Option.none : Option Jvm.ClassFile.FieldType), Jvm.Cond.code ({ cls := "com/example/scheherazade/scheherazade/reader/TagParts", name := "getName", desc := "()Ljava/lang/String;" } : Jvm.MethodName) prog_105_method_8_code (1 : Nat) (Option.some (Jvm.ClassFile.FieldType.object "java/lang/String")), Jvm.Cond.code ({ cls := "com/example/scheherazade/scheherazade/reader/TagParts", name := "hasPrefix", desc := "()Z" } : Jvm.MethodName) prog_105_method_10_code (1 : Nat) (Option.some Jvm.ClassFile.FieldType.boolean), Jvm.Cond.code ({ cls := "com/example/scheherazade/scheherazade/reader/TagParts", name := "getNameSpelling", desc := "()[C" } : Jvm.MethodName) prog_105_method_9_code (1 : Nat) (Option.some (Jvm.ClassFile.FieldType.array Jvm.ClassFile.FieldType.char)), Jvm.Cond.code ({ cls := "com/example/scheherazade/scheherazade/reader/TagParts", name := "getAttributeCount", desc := "()I" } : Jvm.MethodName) prog_105_method_11_code (1 : Nat) (Option.some Jvm.ClassFile.FieldType.int), Jvm.Cond.code ({ cls := "com/example/scheherazade/scheherazade/reader/TagParts", name := "getLikelyAttributeSpelling", desc := "(I)[C" } : Jvm.MethodName) prog_105_method_4_code (2 : Nat) (Option.some (Jvm.ClassFile.FieldType.array Jvm.ClassFile.FieldType.char)), Jvm.Cond.code ({ cls := "com/example/scheherazade/scheherazade/reader/TagParts", name := "getAttributeValue", desc := "(I)Ljava/lang/String;" } : Jvm.MethodName) prog_105_method_14_code (3 : Nat) (Option.some (Jvm.ClassFile.FieldType.object "java/lang/String")), Jvm.Cond.code ({ cls := "java/lang/String", name := "<init>", desc := "([CII)V" } : Jvm.MethodName) jdk_42_method_4_code (4 : Nat) (Option.none : Option Jvm.ClassFile.FieldType), Jvm.Cond.code ({ cls := "java/lang/String", name := "rangeCheck", desc := "([CII)Ljava/lang/Void;" } : Jvm.MethodName) jdk_42_method_5_code (3 : Nat) (Option.some (Jvm.ClassFile.FieldType.object "java/lang/Void")), Jvm.Cond.code ({ cls := "java/lang/String", name := "checkBoundsOffCount", desc := "(III)I" } : Jvm.MethodName) jdk_42_method_157_code (3 : Nat) (Option.some Jvm.ClassFile.FieldType.int), Jvm.Cond.code ({ cls := "jdk/internal/util/Preconditions", name := "checkFromIndexSize", desc := "(IIILjava/util/function/BiFunction;)I" } : Jvm.MethodName) jdk_41_method_13_code (4 : Nat) (Option.some Jvm.ClassFile.FieldType.int), Jvm.Cond.code ({ cls := "java/lang/String", name := "length", desc := "()I" } : Jvm.MethodName) jdk_42_method_54_code (1 : Nat) (Option.some Jvm.ClassFile.FieldType.int), Jvm.Cond.code ({ cls := "java/lang/String", name := "coder", desc := "()B" } : Jvm.MethodName) jdk_42_method_152_code (1 : Nat) (Option.some Jvm.ClassFile.FieldType.byte), Jvm.Cond.code ({ cls := "java/lang/String", name := "charAt", desc := "(I)C" } : Jvm.MethodName) jdk_42_method_56_code (2 : Nat) (Option.some Jvm.ClassFile.FieldType.char), Jvm.Cond.code ({ cls := "java/lang/String", name := "isLatin1", desc := "()Z" } : Jvm.MethodName) jdk_42_method_154_code (1 : Nat) (Option.some Jvm.ClassFile.FieldType.boolean), Jvm.Cond.code ({ cls := "java/lang/StringLatin1", name := "charAt", desc := "([BI)C" } : Jvm.MethodName) jdk_43_method_2_code (2 : Nat) (Option.some Jvm.ClassFile.FieldType.char), Jvm.Cond.code ({ cls := "java/lang/String", name := "checkIndex", desc := "(II)V" } : Jvm.MethodName) jdk_42_method_155_code (2 : Nat) (Option.none : Option Jvm.ClassFile.FieldType), Jvm.Cond.code ({ cls := "jdk/internal/util/Preconditions", name := "checkIndex", desc := "(IILjava/util/function/BiFunction;)I" } : Jvm.MethodName) jdk_41_method_11_code (3 : Nat) (Option.some Jvm.ClassFile.FieldType.int)]
set_option maxRecDepth 65536 in
theorem codes_eq : words1.filter isCode = codes1 := rfl
theorem w_codes : ∀ c ∈ words1.filter isCode, c.before args0 about1 = true := by
  rw [codes_eq]
  intro c hc
  simp only [codes1, List.mem_cons, List.not_mem_nil, or_false] at hc
  rcases hc with rfl | rfl | rfl | rfl | rfl | rfl | rfl | rfl | rfl | rfl | rfl | rfl | rfl | rfl | rfl | rfl | rfl | rfl | rfl | rfl | rfl | rfl | rfl | rfl | rfl | rfl | rfl
  · exact w_c0
  · exact w_c1
  · exact w_c2
  · exact w_c3
  · exact w_c4
  · exact w_c5
  · exact w_c6
  · exact w_c7
  · exact w_c8
  · exact w_c9
  · exact w_c10
  · exact w_c11
  · exact w_c12
  · exact w_c13
  · exact w_c14
  · exact w_c15
  · exact w_c16
  · exact w_c17
  · exact w_c18
  · exact w_c19
  · exact w_c20
  · exact w_c21
  · exact w_c22
  · exact w_c23
  · exact w_c24
  · exact w_c25
  · exact w_c26
set_option maxRecDepth 65536 in
theorem w_t1 : (words1.take 24).all (fun c => isCode c || c.before args0 about1) = true := by decide +kernel
set_option maxRecDepth 65536 in
theorem w_t2 : ((words1.drop 24).take 24).all (fun c => isCode c || c.before args0 about1) = true := by decide +kernel
set_option maxRecDepth 65536 in
theorem w_t3 : (((words1.drop 24).drop 24).take 24).all (fun c => isCode c || c.before args0 about1) = true := by decide +kernel
set_option maxRecDepth 65536 in
theorem w_t4 : ((((words1.drop 24).drop 24).drop 24).take 24).all (fun c => isCode c || c.before args0 about1) = true := by decide +kernel
set_option maxRecDepth 65536 in
theorem w_t5 : (((((words1.drop 24).drop 24).drop 24).drop 24).take 24).all (fun c => isCode c || c.before args0 about1) = true := by decide +kernel
set_option maxRecDepth 65536 in
theorem w_t6 : ((((((words1.drop 24).drop 24).drop 24).drop 24).drop 24).take 24).all (fun c => isCode c || c.before args0 about1) = true := by decide +kernel
set_option maxRecDepth 65536 in
theorem w_t7 : ((((((words1.drop 24).drop 24).drop 24).drop 24).drop 24).drop 24).all (fun c => isCode c || c.before args0 about1) = true := by decide +kernel
theorem w_tables : (allAtoms (Jvm.Cond.code x code maxLocals ret :: tables_1)).before args0 about1 = true := by
  rw [allAtoms_all]
  show words1.all (fun c => c.before args0 about1) = true
  refine all_split ?_ w_codes
  rw [← List.take_append_drop 24 words1, List.all_append, w_t1, ← List.take_append_drop 24 (words1.drop 24), List.all_append, w_t2, ← List.take_append_drop 24 ((words1.drop 24).drop 24), List.all_append, w_t3, ← List.take_append_drop 24 (((words1.drop 24).drop 24).drop 24), List.all_append, w_t4, ← List.take_append_drop 24 ((((words1.drop 24).drop 24).drop 24).drop 24), List.all_append, w_t5, ← List.take_append_drop 24 (((((words1.drop 24).drop 24).drop 24).drop 24).drop 24), List.all_append, w_t6, w_t7]
  rfl
set_option maxRecDepth 65536 in
theorem w_rest : rest_1_c.before args0 about1 = true := by decide +kernel
set_option maxRecDepth 65536 in
theorem w_case : (Jvm.Cond.and given_1 narrow_1).before args0 about1 = true := by decide +kernel
set_option maxRecDepth 65536 in
theorem w_consts : constsHeld consts_1 about1 := Jvm.Lit.constsHeldB_iff.mp (by decide +kernel)
theorem w_applies : (headSpec (Jvm.Cond.code x code maxLocals ret :: tables_1) room_1).applies x e0.platform about1 = true :=
  (Spec.applies_iff w_frames).mpr ⟨w_running, w_runnable, w_alone, w_named, w_hears, w_ripe, w_room, w_tables⟩
theorem atStart : AtStart classFile x code maxLocals ret World_1 tables_1 room_1 Calls_1 rest_1 Pre_1 launch0 p0 e0 about1 theMethod args0 below0 :=
  ⟨lists_1, trivial, launch0.admits_env _ _ _, launch0.least_env, fairChoices_fair.cas, fairChoices_fair.clock, w_frames, w_args, w_heap, w_applies, ⟨w_consts, trivial⟩, w_rest, w_case⟩
end start1
theorem witness_1 : WitnessClaimed_1 := ⟨start1.p0, start1.e0, start1.about1, start1.theMethod, start1.args0, start1.below0, start1.atStart⟩
end Jvm.Pilot.@@N@@
