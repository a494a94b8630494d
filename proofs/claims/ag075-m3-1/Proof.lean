import JvmDerived
import JvmDerived.Pilot.@@N@@Statement
import JvmDerived.Pilot.@@N@@Code
set_option linter.unusedVariables false
set_option linter.unusedSimpArgs false
@@BLOCK:NumsL.lean.txt@@
namespace Jvm.Pilot.@@N@@
open Jvm Jvm.ClassFile Sem Op Lib Jvm.Free Jvm.Stand Jvm.LawKit Jvm.RoadKit Bundle Jvm.Pilot.@@N@@.Jvm.D
section OwnKit
variable {p : Program} {l : Launch} {e : Env} {R : Room} {s : State} {m : MethodId} {args : Array Value} {below : List Frame} {meth : Method} {c : Code} {T : State} {locs : List Loc} {cells slots : Nat}
/-- from the state a the run comes to a state of which P holds -/
def Gen (p : Program) (e : Env) (below : List Frame) (P : State → Prop) (a : State) : Prop := ∃ s₂, Steps p.tables e below a s₂ ∧ P s₂
theorem Gen.on {P : State → Prop} {a b : State} (k : Gen p e below P b) (h : ∀ t, Steps p.tables e below b t → Steps p.tables e below a t) : Gen p e below P a := by
  obtain ⟨s2, h1, h2⟩ := k
  exact ⟨s2, h _ h1, h2⟩
/-- the body has returned, and Q holds of what it returns, leaves and has written -/
def OwnP (below : List Frame) (s : State) (Q : Option Value → Heap → List Loc → Prop) (C S : Nat) (s₂ : State) : Prop := ∃ o, s₂.status = .running ∧ Ended s₂ below o ∧ ∃ v L, o = .returned v ∧ Q v s₂.heap L ∧ FrameEnd s o s₂ L C S
def Own (p : Program) (e : Env) (below : List Frame) (s : State) (Q : Option Value → Heap → List Loc → Prop) (C S : Nat) (a : State) : Prop := Gen p e below (OwnP below s Q C S) a
variable {Q : Option Value → Heap → List Loc → Prop} {C S : Nat}
theorem own_start {a : State} (k : Own p e below s Q C S a) : ∃ s₂ o, Steps p.tables e below a s₂ ∧ s₂.status = .running ∧ Ended s₂ below o ∧ ∃ v L, o = .returned v ∧ Q v s₂.heap L ∧ FrameEnd s o s₂ L C S := by
  obtain ⟨s2, h1, o, h2⟩ := k
  exact ⟨s2, o, h1, h2⟩
/-- the walk stands in a frame F, the heap being H, with what X had written -/
def own_at (X : Stand p l e R s m args below meth c T locs cells slots) (H : Heap) (F : JFrame) (s₂ : State) : Prop := ∃ T', Stand p l e R s m args below meth c T' locs cells slots ∧ T'.heap = H ∧ s₂ = T'.setTop F
theorem own_ret (X : Stand p l e R s m args below meth c T locs cells slots) {g : JFrame} {v : Option Value} (hv : meth.sig.returnType = none → v = none) (hlocks : meth.locks = false) (hc : cells ≤ C) (hs : slots ≤ S) (hq : Q v T.heap locs)
    (st : ∀ fs, (∀ (f : JFrame) (acts : List Action), f.method = m → f.locked = none → f.entered = [] → (doReturn e (T.setTop f) acts v).1 = T.setFrames fs) → Steps p.tables e below (T.setTop g) (T.setFrames fs)) : Own p e below s Q C S (T.setTop g) := by
  obtain ⟨fs, hr, hrun, hended, hW, hsame⟩ := X.leave (v := v) hv hlocks
  exact ⟨_, st fs hr, _, hrun, hended, _, _, rfl, hq, ⟨_, rfl⟩, hW, hsame.mono hc hs⟩
theorem own_retI (X : Stand p l e R s m args below meth c T locs cells slots) (hx : p.tables.exec = Jvm.exec) {pc : Nat} {Ls : Array Slot} {z : Int32} {rest : List Value} (hret : meth.sig.returnType = some .int) (hd : decode c.code pc = .ok (.ireturn, 1)) (hc : cells ≤ C) (hs : slots ≤ S) (hq : Q (some (.int z)) T.heap locs) (hlocks : meth.locks = false := by first | assumption | exact BodyLoose.notSynchronized (by assumption)) : Own p e below s Q C S (T.setTop (mkF m pc Ls (.int z :: rest))) :=
  own_ret X (fun h => by rw [hret] at h; cases h) hlocks hc hs hq fun fs hr => retOut X hx hret rfl (Or.inl ⟨rfl, Or.inl rfl, z, rfl⟩) hd hr
theorem own_retN (X : Stand p l e R s m args below meth c T locs cells slots) (hx : p.tables.exec = Jvm.exec) {pc : Nat} {Ls : Array Slot} {z : Int32} {t : FieldType} {rest : List Value} (hret : meth.sig.returnType = some t) (ht : t = .boolean ∨ t = .byte ∨ t = .char ∨ t = .short) (hz : nar t z = z) (hd : decode c.code pc = .ok (.ireturn, 1)) (hc : cells ≤ C) (hs : slots ≤ S) (hq : Q (some (.int z)) T.heap locs) (hlocks : meth.locks = false := by first | assumption | exact BodyLoose.notSynchronized (by assumption)) : Own p e below s Q C S (T.setTop (mkF m pc Ls (.int z :: rest))) :=
  own_ret X (fun h => by rw [hret] at h; cases h) hlocks hc hs hq fun fs hr => retN X hx hret ht hd (by rw [hz]; exact hr)
theorem own_retJ (X : Stand p l e R s m args below meth c T locs cells slots) (hx : p.tables.exec = Jvm.exec) {pc : Nat} {Ls : Array Slot} {z : Int64} {rest : List Value} (hret : meth.sig.returnType = some .long) (hd : decode c.code pc = .ok (.lreturn, 1)) (hc : cells ≤ C) (hs : slots ≤ S) (hq : Q (some (.long z)) T.heap locs) (hlocks : meth.locks = false := by first | assumption | exact BodyLoose.notSynchronized (by assumption)) : Own p e below s Q C S (T.setTop (mkF m pc Ls (.long z :: rest))) :=
  own_ret X (fun h => by rw [hret] at h; cases h) hlocks hc hs hq fun fs hr => retOut X hx hret rfl (Or.inr (Or.inl ⟨rfl, rfl, z, rfl⟩)) hd hr
theorem own_retA (X : Stand p l e R s m args below meth c T locs cells slots) (hx : p.tables.exec = Jvm.exec) {pc : Nat} {Ls : Array Slot} {w : Value} {t : FieldType} {rest : List Value} (hret : meth.sig.returnType = some t) (ht : t.isReference = true) (hw : w.isRef = true) (hd : decode c.code pc = .ok (.areturn, 1)) (hc : cells ≤ C) (hs : slots ≤ S) (hq : Q (some w) T.heap locs) (hlocks : meth.locks = false := by first | assumption | exact BodyLoose.notSynchronized (by assumption)) : Own p e below s Q C S (T.setTop (mkF m pc Ls (w :: rest))) :=
  own_ret X (fun h => by rw [hret] at h; cases h) hlocks hc hs hq fun fs hr => retOut X hx hret (by cases t <;> cases w <;> simp [FieldType.isReference, Value.isRef] at ht hw <;> rfl) (Or.inr (Or.inr (Or.inr (Or.inr ⟨rfl, ht, hw⟩)))) hd hr
theorem own_ret0 (X : Stand p l e R s m args below meth c T locs cells slots) (hx : p.tables.exec = Jvm.exec) {pc : Nat} {Ls : Array Slot} (hret : meth.sig.returnType = none) (hd : decode c.code pc = .ok (.return_, 1)) (hc : cells ≤ C) (hs : slots ≤ S) (hq : Q none T.heap locs) (hlocks : meth.locks = false := by first | assumption | exact BodyLoose.notSynchronized (by assumption)) : Own p e below s Q C S (T.setTop (mkF m pc Ls [])) :=
  own_ret X (fun _ => rfl) hlocks hc hs hq fun fs hr => X.returnOut hx hret hd hr
theorem own_lt1 {a b : Int64} (h : a < b) : ifCond.holds .lt (lcmpW a b) = true ∧ ifCond.holds .ge (lcmpW a b) = false := by
  have h1 : ¬ a > b := fun q => by rw [gt_iff_lt, Int64.lt_iff_toInt_lt] at q; rw [Int64.lt_iff_toInt_lt] at h; omega
  have h2 : ¬ a = b := fun q => by subst q; exact h1 h
  rw [lcmpW, if_neg h1, if_neg h2]; exact ⟨rfl, rfl⟩
theorem own_lt0 {a b : Int64} (h : ¬ a < b) : ifCond.holds .lt (lcmpW a b) = false ∧ ifCond.holds .ge (lcmpW a b) = true := by
  rw [lcmpW]
  by_cases h1 : a > b
  · rw [if_pos h1]; exact ⟨rfl, rfl⟩
  · have h2 : a = b := by rw [gt_iff_lt, Int64.lt_iff_toInt_lt] at h1; rw [Int64.lt_iff_toInt_lt] at h; exact Int64.toInt_inj.mp (by omega)
    rw [if_neg h1, if_pos h2]; exact ⟨rfl, rfl⟩
theorem own_gt1 {a b : Int64} (h : b < a) : ifCond.holds .gt (lcmpW a b) = true ∧ ifCond.holds .le (lcmpW a b) = false := by
  rw [lcmpW, if_pos h]; exact ⟨rfl, rfl⟩
theorem own_gt0 {a b : Int64} (h : ¬ b < a) : ifCond.holds .gt (lcmpW a b) = false ∧ ifCond.holds .le (lcmpW a b) = true := by
  rw [lcmpW, if_neg h]
  by_cases h1 : a = b
  · rw [if_pos h1]; exact ⟨rfl, rfl⟩
  · rw [if_neg h1]; exact ⟨rfl, rfl⟩
theorem own_eq1 {a b : Int64} (h : a = b) : ifCond.holds .eq (lcmpW a b) = true ∧ ifCond.holds .ne (lcmpW a b) = false := by
  have h1 : ¬ a > b := fun q => by subst h; rw [gt_iff_lt, Int64.lt_iff_toInt_lt] at q; omega
  rw [lcmpW, if_neg h1, if_pos h]; exact ⟨rfl, rfl⟩
theorem own_eq0 {a b : Int64} (h : ¬ a = b) : ifCond.holds .eq (lcmpW a b) = false ∧ ifCond.holds .ne (lcmpW a b) = true := by
  rw [lcmpW]
  by_cases h1 : a > b
  · rw [if_pos h1]; exact ⟨rfl, rfl⟩
  · rw [if_neg h1, if_neg h]; exact ⟨rfl, rfl⟩
theorem own_sta_keep {Z : State} {h h' : Heap} {C n d : String} {w : Value} (F : Sta Z h C n d w) (K : Keep h h' []) : Sta Z h' C n d w := by
  obtain ⟨cf, i, k, f, st, cell, h1, h2, h3, h4, h5, h6⟩ := F
  exact ⟨cf, i, k, f, st, cell, h1, h2, h3, h4, K.2.1 st cell h5 nin0, h6⟩
theorem own_arr_keep {Z : State} {h h' : Heap} {a : Addr} {cl : Cell} {ty : FieldType} {ws : List Addr} (A : Arr Z h a cl ty) (K : Keep h h' ws) (q : a ∉ ws) : Arr Z h' a cl ty := ⟨K.2.1 a cl A.1 q, A.2⟩
end OwnKit

section OwnSKit
variable {p : Program} {l : Launch} {e : Env} {R : Room} {s : State} {m : MethodId} {args : Array Value} {below : List Frame} {meth : Method} {c : Code} {T : State} {locs : List Loc} {cells slots : Nat}
variable {Z : State} {a0 : Array Value} {EL : List (String × Nat)} {vm0 : Vm} {k0 : Nat} {h0 H : Heap} {Q : Option Value → Heap → List Loc → Prop} {C S : Nat}
/-- as OwnP, for a body that may load String constants -/
def OwnSP (Z : State) (EL : List (String × Nat)) (below : List Frame) (s : State) (Q : Option Value → Heap → List Loc → Prop) (C S : Nat) (s₂ : State) : Prop := ∃ o, s₂.status = .running ∧ Ended s₂ below o ∧ ∃ v L, o = .returned v ∧ Q v s₂.heap L ∧ CHr Z EL s.vm s.heap s₂.vm s₂.heap ∧ ReturnedEndW s o s₂ L C S
def OwnS (Z : State) (EL : List (String × Nat)) (p : Program) (e : Env) (below : List Frame) (s : State) (Q : Option Value → Heap → List Loc → Prop) (C S : Nat) (a : State) : Prop := Gen p e below (OwnSP Z EL below s Q C S) a
theorem ownS_start {a : State} (k : OwnS Z EL p e below s Q C S a) : ∃ s₂ o, Steps p.tables e below a s₂ ∧ s₂.status = .running ∧ Ended s₂ below o ∧ ∃ v L, o = .returned v ∧ Q v s₂.heap L ∧ CHr Z EL s.vm s.heap s₂.vm s₂.heap ∧ ReturnedEndW s o s₂ L C S := by
  obtain ⟨s2, h1, o, h2⟩ := k
  exact ⟨s2, o, h1, h2⟩
theorem ownS_ret (X : Stand p l e R (s.setVm vm0) m args below meth c T locs cells slots) (hh : s.heap = h0) (hS : s.Since vm0 k0) (eT : T.heap = H) (hk : k0 ≤ H.size) (hZ : Z.Warmed39 vm0) (hEL : EW Z a0 EL) (CH : CHr Z EL s.vm h0 vm0 H) {g : JFrame} {v : Option Value} (hv : meth.sig.returnType = none → v = none) (hlocks : meth.locks = false) (hc : cells ≤ C) (hs : slots ≤ S) (hq : Q v T.heap locs)
    (st : ∀ fs, (∀ (f : JFrame) (acts : List Action), f.method = m → f.locked = none → f.entered = [] → (doReturn e (T.setTop f) acts v).1 = T.setFrames fs) → Steps p.tables e below (T.setTop g) (T.setFrames fs)) : OwnS Z EL p e below s Q C S (T.setTop g) := by
  subst hh eT
  obtain ⟨fs, hr, hrun, hended, hW⟩ := X.leaveW hS hk (v := v) hv hlocks
  have hC := CH.trans (CHv.at X hZ hEL CH.1)
  exact ⟨_, st fs hr, _, hrun, hended, _, _, rfl, hq, hC, hW.1, hW.2.1, hW.2.2.1, hW.2.2.2.mono hc hs⟩
theorem ownS_retN (X : Stand p l e R (s.setVm vm0) m args below meth c T locs cells slots) (hh : s.heap = h0) (hS : s.Since vm0 k0) (eT : T.heap = H) (hk : k0 ≤ H.size) (hZ : Z.Warmed39 vm0) (hEL : EW Z a0 EL) (CH : CHr Z EL s.vm h0 vm0 H) (hx : p.tables.exec = Jvm.exec) {pc : Nat} {Ls : Array Slot} {z : Int32} {t : FieldType} {rest : List Value} (hret : meth.sig.returnType = some t) (ht : t = .boolean ∨ t = .byte ∨ t = .char ∨ t = .short) (hz : nar t z = z) (hd : decode c.code pc = .ok (.ireturn, 1)) (hc : cells ≤ C) (hs : slots ≤ S) (hq : Q (some (.int z)) T.heap locs) (hlocks : meth.locks = false := by first | assumption | exact BodyLoose.notSynchronized (by assumption)) : OwnS Z EL p e below s Q C S (T.setTop (mkF m pc Ls (.int z :: rest))) :=
  ownS_ret X hh hS eT hk hZ hEL CH (fun h => by rw [hret] at h; cases h) hlocks hc hs hq fun fs hr => retN X hx hret ht hd (by rw [hz]; exact hr)
theorem ownS_retA (X : Stand p l e R (s.setVm vm0) m args below meth c T locs cells slots) (hh : s.heap = h0) (hS : s.Since vm0 k0) (eT : T.heap = H) (hk : k0 ≤ H.size) (hZ : Z.Warmed39 vm0) (hEL : EW Z a0 EL) (CH : CHr Z EL s.vm h0 vm0 H) (hx : p.tables.exec = Jvm.exec) {pc : Nat} {Ls : Array Slot} {w : Value} {t : FieldType} {rest : List Value} (hret : meth.sig.returnType = some t) (ht : t.isReference = true) (hw : w.isRef = true) (hd : decode c.code pc = .ok (.areturn, 1)) (hc : cells ≤ C) (hs : slots ≤ S) (hq : Q (some w) T.heap locs) (hlocks : meth.locks = false := by first | assumption | exact BodyLoose.notSynchronized (by assumption)) : OwnS Z EL p e below s Q C S (T.setTop (mkF m pc Ls (w :: rest))) :=
  ownS_ret X hh hS eT hk hZ hEL CH (fun h => by rw [hret] at h; cases h) hlocks hc hs hq fun fs hr => retOut X hx hret (by cases t <;> cases w <;> simp [FieldType.isReference, Value.isRef] at ht hw <;> rfl) (Or.inr (Or.inr (Or.inr (Or.inr ⟨rfl, ht, hw⟩)))) hd hr
theorem ownS_ret0 (X : Stand p l e R (s.setVm vm0) m args below meth c T locs cells slots) (hh : s.heap = h0) (hS : s.Since vm0 k0) (eT : T.heap = H) (hk : k0 ≤ H.size) (hZ : Z.Warmed39 vm0) (hEL : EW Z a0 EL) (CH : CHr Z EL s.vm h0 vm0 H) (hx : p.tables.exec = Jvm.exec) {pc : Nat} {Ls : Array Slot} (hret : meth.sig.returnType = none) (hd : decode c.code pc = .ok (.return_, 1)) (hc : cells ≤ C) (hs : slots ≤ S) (hq : Q none T.heap locs) (hlocks : meth.locks = false := by first | assumption | exact BodyLoose.notSynchronized (by assumption)) : OwnS Z EL p e below s Q C S (T.setTop (mkF m pc Ls [])) :=
  ownS_ret X hh hS eT hk hZ hEL CH (fun _ => rfl) hlocks hc hs hq fun fs hr => X.returnOut hx hret hd hr
/-- a String whose value is null is no booked one -/
theorem own_safe_null {vm : Vm} {h : Heap} {x : Addr} (hal : Z.vm.Alike vm) (E : Exa Z h x "java/lang/String") (F : Fld Z h x "java/lang/String" "value" "[B" .null) : Safe Z EL vm h x := fun B => by
  obtain ⟨p, -, u, a, -, q, -, G, e | e⟩ := B
  · subst e
    obtain ⟨cS, ⟨⟨s1, s2, s3, ⟨cv, kv, iv, s4, s4'⟩, ⟨cc, kc, ic, s5, s5'⟩, s6, s7, s8, -⟩, -⟩, -⟩ := G
    obtain ⟨kv', z4⟩ := ff_back (U := Wst Z vm h) hal s4
    obtain ⟨cell, cf, k, i, f, f1, f2, -, -, -, -, f7⟩ := F
    have e1 := (show h[q.sa]? = some q.sC from s1).symm.trans f1
    cases e1
    have f2 := (show Z.fieldFound? "java/lang/String" "value" "[B" = _ from z4).symm.trans f2
    simp only [Option.some.injEq, Prod.mk.injEq] at f2
    obtain ⟨-, -, -, rfl⟩ := f2
    rw [s8] at f7
    cases f7
  · subst e
    obtain ⟨cell, k, e1, e2, e3, -, -⟩ := E
    have hd : h[q.sd]? = some q.SA := G.hd
    obtain ⟨cS, -, -, f, -⟩ := G
    cases hd.symm.trans e1
    have f' : vm.findClass "[B" = some q.SA.cls := f
    rw [hal.findClass] at f'
    obtain ⟨k1, q1, q2⟩ := Vm.findClass_spec f'
    obtain ⟨k2, q3, q4⟩ := Vm.findClass_spec e2
    cases q1.symm.trans q3
    exact absurd (q2.symm.trans q4) (by decide)
end OwnSKit

theorem own_hEL {Z : State} {a0 : Array Value} (hw : ∀ d ∈ tables_1, d.before a0 Z = true) : EW Z a0 consts_1 := (EW.cons (hw _ (List.mem_of_getElem? (i := 49) rfl)) (by simp) (EW.cons (hw _ (List.mem_of_getElem? (i := 34) rfl)) (by simp) EW.nil))
theorem own_wS {Z : State} {a0 : Array Value} (hw : ∀ d ∈ tables_1, d.before a0 Z = true) : ∀ a ∈ Bundle.stringAtoms, a.before a0 Z = true := fun d hd => by
  simp only [Bundle.stringAtoms, Bundle.sN, List.mem_cons, List.not_mem_nil, or_false] at hd
  rcases hd with rfl | rfl | rfl | rfl | rfl | rfl | rfl
  · exact (hw _ (List.mem_of_getElem? (i := 6) rfl))
  · exact (hw _ (List.mem_of_getElem? (i := 5) rfl))
  · exact (hw _ (List.mem_of_getElem? (i := 23) rfl))
  · exact (hw _ (List.mem_of_getElem? (i := 33) rfl))
  · exact (hw _ (List.mem_of_getElem? (i := 31) rfl))
  · exact (hw _ (List.mem_of_getElem? (i := 35) rfl))
  · exact (hw _ (List.mem_of_getElem? (i := 36) rfl))

/-- an array of small ints by a function of its places -/
def Afn (Z : State) (h : Heap) (a : Addr) (ty : FieldType) (z : Int32) (y : Int32 → Int32) : Prop := ∃ cl : Cell, Arr Z h a cl ty ∧ cl.slots.size = z.toNatClampNeg ∧ ¬ z < 0 ∧ ∀ j : Int32, ¬ (j < 0 ∨ cl.slots.size ≤ j.toNatClampNeg) → cl.slots[j.toNatClampNeg]? = some (.int (y j))
def own_upd (y : Int32 → Int32) (i x : Int32) : Int32 → Int32 := fun j => if j = i then x else y j
section AfnKit
variable {Z : State} {h h' : Heap} {a b : Addr} {ty : FieldType} {z : Int32} {y y' : Int32 → Int32} {sl : Nat} {v : Value} {ws : List Addr}
theorem Afn.lt (F : Afn Z h a ty z y) : a < h.size := by obtain ⟨c, A, -⟩ := F; exact A.lt
theorem Afn.nn (F : Afn Z h a ty z y) : ¬ z < 0 := by obtain ⟨c, -, -, q, -⟩ := F; exact q
theorem Afn.ext (F : Afn Z h a ty z y) (E : Ext h h') : Afn Z h' a ty z y := by obtain ⟨c, A, r⟩ := F; exact ⟨c, A.ext E, r⟩
theorem Afn.other (F : Afn Z h b ty z y) (W : Wr h h' a sl v) (q : b ≠ a) : Afn Z h' b ty z y := by obtain ⟨c, A, r⟩ := F; exact ⟨c, A.other W q, r⟩
theorem Afn.keep (F : Afn Z h a ty z y) (K : Keep h h' ws) (q : a ∉ ws) : Afn Z h' a ty z y := by obtain ⟨c, A, r⟩ := F; exact ⟨c, ⟨K.2.1 a c A.1 q, A.2⟩, r⟩
theorem own_inr {j : Int32} {n : Nat} (S : n = z.toNatClampNeg) (M : ¬ z < 0) (q : ¬ (j < 0 ∨ n ≤ j.toNatClampNeg)) : ¬ j < 0 ∧ j < z := by
  have h1 : ¬ j < 0 := fun x => q (Or.inl x)
  have h2 : ¬ n ≤ j.toNatClampNeg := fun x => q (Or.inr x)
  refine ⟨h1, ?_⟩
  rw [Int32.lt_iff_toInt_lt] at *
  have e0 : (0 : Int32).toInt = 0 := by decide +kernel
  unfold Int32.toNatClampNeg at *
  omega
theorem Afn.congr (F : Afn Z h a ty z y) (q : ∀ j, ¬ j < 0 → j < z → y j = y' j) : Afn Z h a ty z y' := by
  obtain ⟨c, A, S, M, H⟩ := F
  exact ⟨c, A, S, M, fun j hj => by rw [H j hj, q j (own_inr S M hj).1 (own_inr S M hj).2]⟩
theorem Afn.new {k : ClassId} (A : Arr Z h a (newA k ty z) ty) (q : ¬ z < 0) (hd : defaultValue ty = .int 0) : Afn Z h a ty z (fun _ => 0) := ⟨_, A, sz_new _ _ _, q, fun j hj => by
  rw [sz_new] at hj; rw [get_new hj, hd]⟩
theorem Afn.put {cl : Cell} {i x : Int32} (A : Arr Z h a cl ty) (S : cl.slots.size = z.toNatClampNeg) (M : ¬ z < 0) (H : ∀ j : Int32, ¬ (j < 0 ∨ cl.slots.size ≤ j.toNatClampNeg) → cl.slots[j.toNatClampNeg]? = some (.int (y j))) (W : Wr h h' a i.toNatClampNeg (.int x)) (hi : ¬ i < 0) : Afn Z h' a ty z (own_upd y i x) := by
  refine ⟨_, Arr.same W A, by simp [Cell.setSlot, S], M, fun j hj => ?_⟩
  have hj' : ¬ (j < 0 ∨ cl.slots.size ≤ j.toNatClampNeg) := by simpa [Cell.setSlot] using hj
  unfold own_upd
  by_cases e : j = i
  · subst e
    rw [if_pos rfl]
    have : j.toNatClampNeg < cl.slots.size := Nat.lt_of_not_le fun q => hj' (Or.inr q)
    simp [Cell.setSlot, this]
  · rw [if_neg e]
    have ne : i.toNatClampNeg ≠ j.toNatClampNeg := fun q => e (by
      have h1 : ¬ j < 0 := fun x => hj' (Or.inl x)
      rw [Int32.lt_iff_toInt_lt] at h1 hi
      have e0 : (0 : Int32).toInt = 0 := by decide +kernel
      unfold Int32.toNatClampNeg at q
      exact Int32.toInt_inj.mp (by omega))
    show (cl.slots.setIfInBounds i.toNatClampNeg (.int x))[j.toNatClampNeg]? = _
    rw [Array.getElem?_setIfInBounds_ne ne]
    exact H j hj'
end AfnKit
/-- the static that the String code reads -/
def Sts (Z : State) (w0 : Int32) : Prop := Sta Z Z.heap "java/lang/String" "COMPACT_STRINGS" "Z" (.int w0) ∧ ¬ w0 = (0 : Int32)
abbrev own_i2c (x : Int32) : Int32 := x.toUInt32.toUInt16.toUInt32.toInt32
/-- a char as a byte, and back -/
def own_b (c : Int32) : Int32 := nar .byte c.toInt8.toInt32
def own_lc (b : Int32) : Int32 := own_i2c (b &&& (255 : Int32))
def own_lo (c : Int32) : Int32 := nar .byte (c >>> ((0 : Int32) &&& 31)).toInt8.toInt32
def own_hi (c : Int32) : Int32 := nar .byte (c >>> ((8 : Int32) &&& 31)).toInt8.toInt32
def own_gc (a b : Int32) : Int32 := own_i2c (((a &&& (255 : Int32)) <<< ((0 : Int32) &&& 31)) ||| ((b &&& (255 : Int32)) <<< ((8 : Int32) &&& 31)))
theorem own_nar_i2c (x : Int32) : nar .char (own_i2c x) = own_i2c x := by
  show own_i2c (own_i2c x) = own_i2c x
  have q : ∀ a : UInt32, a % 65536 % 65536 = a % 65536 := fun a => by apply UInt32.toNat_inj.mp; simp [UInt32.toNat_mod]
  simp [own_i2c, q]


theorem own_e0 : (0 : Int32).toInt = 0 := by decide +kernel
theorem own_e1 : (1 : Int32).toInt = 1 := by decide +kernel
/-- one turn more: i is in the range, so i + 1 doesn't wrap -/
theorem own_inc {i p : Int32} (h0 : ¬ i < 0) (hl : i < p) : (i + (1 : Int32)).toInt = i.toInt + 1 := by
  have hp := p.toInt_lt
  rw [Int32.lt_iff_toInt_lt] at h0 hl
  rw [own_e0] at h0
  rw [Jvm.Kit.i32_add (by rw [own_e1]; omega) (by rw [own_e1]; omega), own_e1]
theorem own_step {i p : Int32} {kk : Nat} (h0 : ¬ i < 0) (hl : i < p) (hm : p.toInt - i.toInt ≤ ((kk + 1 : Nat) : Int)) : ¬ (i + (1 : Int32)) < 0 ∧ ¬ p < (i + (1 : Int32)) ∧ p.toInt - (i + (1 : Int32)).toInt ≤ (kk : Int) := by
  have e := own_inc h0 hl
  rw [Int32.lt_iff_toInt_lt] at h0 hl ⊢
  rw [Int32.lt_iff_toInt_lt, e, own_e0] at *
  omega
theorem own_ltS {i j p : Int32} (h0 : ¬ i < 0) (hl : i < p) (hj : j < (i + (1 : Int32))) : j = i ∨ j < i := by
  have e := own_inc h0 hl
  rw [Int32.lt_iff_toInt_lt, e] at hj
  by_cases h : j.toInt = i.toInt
  · exact Or.inl (Int32.toInt_inj.mp h)
  · right; rw [Int32.lt_iff_toInt_lt]; omega
theorem own_top {i p : Int32} (h : ¬ i < p) (g : ¬ p < i) : i = p := by
  rw [Int32.lt_iff_toInt_lt] at h g; exact Int32.toInt_inj.mp (by omega)
theorem own_z0 {i p : Int32} (hm : p.toInt - i.toInt ≤ ((0 : Nat) : Int)) : ¬ i < p := by
  rw [Int32.lt_iff_toInt_lt]; omega
theorem own_os6 {z0 z1 z2 z3 z4 z5 : Value} {s6 : Slot} {v : Int32} (h : One s6) : storeLocals #[.val z0, .val z1, .val z2, .val z3, .val z4, .val z5, s6] 6 (.int v) = some #[.val z0, .val z1, .val z2, .val z3, .val z4, .val z5, .val (.int v)] := by
  rcases h with rfl | ⟨w, rfl, hw⟩
  · rfl
  · cases w <;> first | rfl | (simp [Value.category] at hw)
theorem own_os3 {z0 z1 z2 : Value} {s3 : Slot} {v : Int32} (h : One s3) : storeLocals #[.val z0, .val z1, .val z2, s3] 3 (.int v) = some #[.val z0, .val z1, .val z2, .val (.int v)] := by
  rcases h with rfl | ⟨w, rfl, hw⟩
  · rfl
  · cases w <;> first | rfl | (simp [Value.category] at hw)
theorem own_nar_b (x : Int32) : nar .byte x.toInt8.toInt32 = x.toInt8.toInt32 := by simp [nar]
/-- the low byte, masked, is the number modulo 256 -/
theorem own_mask8 (x : Int32) : ((nar .byte x.toInt8.toInt32) &&& (255 : Int32)) = x &&& (255 : Int32) := by
  rw [own_nar_b]
  apply Int32.toBitVec_inj.mp
  simp only [Int32.toBitVec_and, Int8.toBitVec_toInt32, Int32.toBitVec_toInt8]
  generalize x.toBitVec = v
  have e : (255 : Int32).toBitVec = 255#32 := rfl
  rw [e]
  apply BitVec.eq_of_getLsbD_eq
  intro i hi
  simp only [BitVec.getLsbD_and, BitVec.getLsbD_signExtend, BitVec.getLsbD_setWidth, BitVec.getLsbD_ofNat]
  by_cases h : i < 8
  · simp [h, hi]
  · have : Nat.testBit 255 i = false := Nat.testBit_lt_two_pow (Nat.lt_of_lt_of_le (by decide : 255 < 2 ^ 8) (Nat.pow_le_pow_right (by decide) (Nat.le_of_not_lt h)))
    simp [this]
theorem own_i2c_id {x : Int32} (h0 : ¬ x < 0) (h1 : ¬ (65535 : Int32) < x) : own_i2c x = x := by
  rw [Int32.lt_iff_toInt_lt] at h0 h1
  have e5 : (65535 : Int32).toInt = 65535 := by decide +kernel
  rw [own_e0] at h0
  rw [e5] at h1
  apply Int32.toBitVec_inj.mp
  have hn : x.toBitVec.toNat < 65536 := by
    have q := Int32.toInt_toBitVec x
    rw [BitVec.toInt_eq_toNat_cond] at q
    have := x.toBitVec.isLt
    split at q <;> omega
  simp only [own_i2c, UInt32.toBitVec_toInt32, UInt16.toBitVec_toUInt32, UInt32.toBitVec_toUInt16, Int32.toBitVec_toUInt32]
  apply BitVec.eq_of_toNat_eq
  simp only [BitVec.toNat_setWidth]
  omega
theorem own_lat {c : Int32} (h0 : ¬ c < 0) (h1 : ¬ (255 : Int32) < c) : own_lc (own_b c) = c := by
  have e2 : (255 : Int32).toInt = 255 := by decide +kernel
  have e5 : (65535 : Int32).toInt = 65535 := by decide +kernel
  have m : (c &&& (255 : Int32)) = c := by
    apply Int32.toInt_inj.mp
    rw [Jvm.Kit.i32_mask c 255 (k := 8) (by decide) (by decide)]
    rw [Int32.lt_iff_toInt_lt] at h0 h1
    rw [own_e0] at h0; rw [e2] at h1
    omega
  unfold own_lc own_b
  rw [own_mask8, m]
  exact own_i2c_id h0 (by rw [Int32.lt_iff_toInt_lt] at h1 ⊢; rw [e2] at h1; rw [e5]; omega)


theorem own_safe_afn {Z : State} {EL : List (String × Nat)} {vm : Vm} {h : Heap} {a : Addr} {ty : FieldType} {z : Int32} {y : Int32 → Int32} (hal : Z.vm.Alike vm) (F : Afn Z h a ty z y) (ht : ty ≠ .byte) : Safe Z EL vm h a := by obtain ⟨c, A, -⟩ := F; exact Safe.arr hal A ht
theorem own_afn0 {Z : State} {h : Heap} {b : Addr} {k : ClassId} (F : Arv Z h b k .byte 0 [] (.int 0)) (y : Int32 → Int32) : Afn Z h b .byte 0 y := by
  obtain ⟨c, A, -, S, M, -⟩ := F
  refine ⟨c, A, S, M, fun j hj => ?_⟩
  exact absurd (own_inr S M hj).2 (fun q => (own_inr S M hj).1 q)
theorem own_ne {i p : Int32} (h : i < p) : ¬ i = p := fun q => by subst q; rw [Int32.lt_iff_toInt_lt] at h; omega
/-- the String s says, in one byte each, the chars y, z of them -/
def Lat (Z : State) (h : Heap) (s : Addr) (z : Int32) (y : Int32 → Int32) : Prop := ∃ b : Addr, Fld Z h s "java/lang/String" "value" "[B" (.ref b) ∧ Fld Z h s "java/lang/String" "coder" "B" (.int 0) ∧ Afn Z h b .byte z (fun j => own_b (y j))
theorem own_cw0 (p : Int32) : (((p - p).toUInt32 >>> ((31 : Int32) &&& 31).toUInt32).toInt32).toInt8.toInt32 = (0 : Int32) := by
  rw [Int32.sub_self]; decide +kernel

theorem own_nnz {z : Int32} (h : ¬ z < 0) : 0 ≤ z.toInt - (0 : Int32).toInt := by rw [Int32.lt_iff_toInt_lt, own_e0] at h; rw [own_e0]; omega
theorem d6_0 : decode jdk_52_method_21_code 0 = .ok (.iconst 0, 1) := by decide +kernel
theorem d6_1 : decode jdk_52_method_21_code 1 = .ok (.istore 5, 2) := by decide +kernel
theorem d6_3 : decode jdk_52_method_21_code 3 = .ok (.iload 5, 2) := by decide +kernel
theorem d6_5 : decode jdk_52_method_21_code 5 = .ok (.iload 4, 2) := by decide +kernel
theorem d6_7 : decode jdk_52_method_21_code 7 = .ok (.if_icmp .ge 37, 3) := by decide +kernel
theorem d6_10 : decode jdk_52_method_21_code 10 = .ok (.aload_n 0, 1) := by decide +kernel
theorem d6_11 : decode jdk_52_method_21_code 11 = .ok (.iload_n 1, 1) := by decide +kernel
theorem d6_12 : decode jdk_52_method_21_code 12 = .ok (.caload, 1) := by decide +kernel
theorem d6_13 : decode jdk_52_method_21_code 13 = .ok (.istore 6, 2) := by decide +kernel
theorem d6_15 : decode jdk_52_method_21_code 15 = .ok (.iload 6, 2) := by decide +kernel
theorem d6_17 : decode jdk_52_method_21_code 17 = .ok (.sipush 255, 3) := by decide +kernel
theorem d6_20 : decode jdk_52_method_21_code 20 = .ok (.if_icmp .le 6, 3) := by decide +kernel
theorem d6_23 : decode jdk_52_method_21_code 23 = .ok (.iload 5, 2) := by decide +kernel
theorem d6_25 : decode jdk_52_method_21_code 25 = .ok (.ireturn, 1) := by decide +kernel
theorem d6_26 : decode jdk_52_method_21_code 26 = .ok (.aload_n 2, 1) := by decide +kernel
theorem d6_27 : decode jdk_52_method_21_code 27 = .ok (.iload_n 3, 1) := by decide +kernel
theorem d6_28 : decode jdk_52_method_21_code 28 = .ok (.iload 6, 2) := by decide +kernel
theorem d6_30 : decode jdk_52_method_21_code 30 = .ok (.i2b, 1) := by decide +kernel
theorem d6_31 : decode jdk_52_method_21_code 31 = .ok (.bastore, 1) := by decide +kernel
theorem d6_32 : decode jdk_52_method_21_code 32 = .ok (.iinc 1 1, 3) := by decide +kernel
theorem d6_35 : decode jdk_52_method_21_code 35 = .ok (.iinc 3 1, 3) := by decide +kernel
theorem d6_38 : decode jdk_52_method_21_code 38 = .ok (.iinc 5 1, 3) := by decide +kernel
theorem d6_41 : decode jdk_52_method_21_code 41 = .ok (.goto (-38), 3) := by decide +kernel
theorem d6_44 : decode jdk_52_method_21_code 44 = .ok (.iload 4, 2) := by decide +kernel
theorem d6_46 : decode jdk_52_method_21_code 46 = .ok (.ireturn, 1) := by decide +kernel
theorem pn_6 : plainName "java/lang/StringUTF16" = true := by first | (simp [plainName, overriddenIn]; done) | decide +kernel
theorem ef_6 (m : MethodId) (x0 : Addr) (x1 : Int32) (x2 : Addr) (x3 : Int32) (x4 : Int32) : entryFrame m #[(.ref x0), (.int x1), (.ref x2), (.int x3), (.int x4)] 7 = mkF m 0 #[.val (.ref x0), .val (.int x1), .val (.ref x2), .val (.int x3), .val (.int x4), .unset, .unset] [] := by first | (simp [entryFrame, mkF, argsToLocals, Value.category]; done) | rfl
def Q6 (Z : State) (a3 : Addr) (p5 : Int32) (y : Int32 → Int32) (h0 : Heap) (n0 : Nat) (v : Option Value) (h : Heap) (L : List Loc) : Prop := Fr n0 L ∧ Keep h0 h [a3] ∧ ((v = some (.int p5) ∧ (∀ j : Int32, ¬ j < 0 → j < p5 → ¬ (255 : Int32) < y j) ∧ ∃ yb, Afn Z h a3 .byte p5 yb ∧ ∀ j : Int32, ¬ j < 0 → j < p5 → yb j = own_b (y j)) ∨ (∃ i : Int32, v = some (.int i) ∧ ¬ i < 0 ∧ i < p5 ∧ (255 : Int32) < y i))
set_option maxRecDepth 65536 in
set_option maxHeartbeats 40000000 in
theorem rm6 (l : Launch) (Z : State) (a0 : Array Value) (hw : ∀ d ∈ tables_1, d.before a0 Z = true) (wds : List Jvm.Cond) (a1 : Addr) (a3 : Addr) (p5 : Int32) (y yb0 : Int32 → Int32) (h0 : Heap) (n0 : Nat) (Z0 : n0 ≤ h0.size) (P0 : Afn Z h0 a1 .char p5 y) (P1 : Afn Z h0 a3 .byte p5 yb0) (g_a3 : n0 ≤ a3) (ne13 : a1 ≠ a3) :
    MetFree l (⟨"java/lang/StringUTF16", "compress", "([CI[BII)I"⟩ : MethodName) (head1 (Jvm.Cond.code (⟨"java/lang/StringUTF16", "compress", "([CI[BII)I"⟩ : MethodName) jdk_52_method_21_code 7 (some .int) :: wds) ({ frames := 0, cells := 0, slots := 0, locals := 0 } : Room)) (fun a U => a = #[(.ref a1), (.int (0 : Int32)), (.ref a3), (.int (0 : Int32)), (.int p5)] ∧ Z.Warmed39 U.vm ∧ U.heap = h0) (fun _ _ _ _ _ => True) (fun _ U o U' => ∃ v L, o = .returned v ∧ Q6 Z a3 p5 y h0 n0 v U'.heap L ∧ FrameEnd U o U' L ({ frames := 0, cells := 0, slots := 0, locals := 0 } : Room).cells ({ frames := 0, cells := 0, slots := 0, locals := 0 } : Room).slots) := by
  refine MetFree.of_bodySF (plainFor_of_name pn_6) hisR ?_
  intro p e s m args below meth c s₁ Bd hml0 hP hK
  obtain ⟨rfl, hZ, hh⟩ := hP
  have hx := Bd.exec
  have hby := Bd.bytes
  have hml : c.maxLocals = 7 := hml0
  have hown : s.vm.findClass "java/lang/StringUTF16" = some m.cls := findClass_of_methodNamed Bd.named
  have hnm := (name_of_methodNamed Bd.named Bd.method).1
  have X0 : Stand p l e ({ frames := 0, cells := 0, slots := 0, locals := 0 } : Room) s m #[(.ref a1), (.int (0 : Int32)), (.ref a3), (.int (0 : Int32)), (.int p5)] below meth c s₁ [] 0 0 := Stand.of_body Bd
  have e0 : s₁.heap = h0 := by rw [← hh, Bd.state]; rfl
  have N0 := Fr.nil n0
  refine own_start (Q := Q6 Z a3 p5 y h0 n0) (C := ({ frames := 0, cells := 0, slots := 0, locals := 0 } : Room).cells) (S := ({ frames := 0, cells := 0, slots := 0, locals := 0 } : Room).slots) ?_
  rw [ef_6 m a1 (0 : Int32) a3 (0 : Int32) p5]
  have K0 : Keep h0 h0 [a3] := Keep.refl h0 [a3]
  refine Gen.on (b := s₁.setTop (mkF m 1 #[.val (.ref a1), .val (.int (0 : Int32)), .val (.ref a3), .val (.int (0 : Int32)), .val (.int p5), .unset, .unset] [(.int (0 : Int32))])) ?_ (fun t k => XS.iconst X0.here hx rfl (hb hby d6_0) k)
  refine Gen.on (b := s₁.setTop (mkF m 3 #[.val (.ref a1), .val (.int (0 : Int32)), .val (.ref a3), .val (.int (0 : Int32)), .val (.int p5), .val (.int (0 : Int32)), .unset] [])) ?_ (fun t k => XS.istore X0.here hx rfl (hb hby d6_1) rfl (l' := #[.val (.ref a1), .val (.int (0 : Int32)), .val (.ref a3), .val (.int (0 : Int32)), .val (.int p5), .val (.int (0 : Int32)), .unset]) rfl k)
  have loop : ∀ (kk : Nat) (i : Int32) (s6 : Slot) (TL : State) (lL : List Loc) (hL : Heap) (yb : Int32 → Int32), One s6 → ¬ i < 0 → ¬ p5 < i → p5.toInt - i.toInt ≤ (kk : Int) → Stand p l e ({ frames := 0, cells := 0, slots := 0, locals := 0 } : Room) s m #[(.ref a1), (.int (0 : Int32)), (.ref a3), (.int (0 : Int32)), (.int p5)] below meth c TL lL 0 0 → TL.heap = hL → Fr n0 lL → n0 ≤ hL.size → Keep h0 hL [a3] → Afn Z hL a1 .char p5 y → Afn Z hL a3 .byte p5 yb → (∀ j : Int32, ¬ j < 0 → j < i → ¬ (255 : Int32) < y j ∧ yb j = own_b (y j)) → Own p e below s (Q6 Z a3 p5 y h0 n0) ({ frames := 0, cells := 0, slots := 0, locals := 0 } : Room).cells ({ frames := 0, cells := 0, slots := 0, locals := 0 } : Room).slots (TL.setTop (mkF m 3 #[.val (.ref a1), .val (.int i), .val (.ref a3), .val (.int i), .val (.int p5), .val (.int i), s6] [])) := by
    intro kk
    induction kk with
    | zero =>
      intro i s6 TL lL hL yb hs6 hi0 hip hm XL eL NL ZL KL Y1 Y3 hyb
      refine Gen.on (b := TL.setTop (mkF m 5 #[.val (.ref a1), .val (.int i), .val (.ref a3), .val (.int i), .val (.int p5), .val (.int i), s6] [(.int i)])) ?_ (fun t k => XS.iload XL.here hx rfl (hb hby d6_3) rfl k)
      refine Gen.on (b := TL.setTop (mkF m 7 #[.val (.ref a1), .val (.int i), .val (.ref a3), .val (.int i), .val (.int p5), .val (.int i), s6] [(.int p5), (.int i)])) ?_ (fun t k => XS.iload XL.here hx rfl (hb hby d6_5) rfl k)
      refine Gen.on (b := TL.setTop (mkF m 44 #[.val (.ref a1), .val (.int i), .val (.ref a3), .val (.int i), .val (.int p5), .val (.int i), s6] [])) ?_ (fun t k => XS.icmpYes XL.here hx rfl (pc0 := 7) (pc' := 44) rfl (hb hby d6_7) rfl (flt (own_z0 hm)).2.1 (by decide) (by decide) k)
      refine Gen.on (b := TL.setTop (mkF m 46 #[.val (.ref a1), .val (.int i), .val (.ref a3), .val (.int i), .val (.int p5), .val (.int i), s6] [(.int p5)])) ?_ (fun t k => XS.iload XL.here hx rfl (hb hby d6_44) rfl k)
      refine own_retI XL hx Bd.returns (hb hby d6_46) (by decide) (by decide) ?_
      show Q6 Z a3 p5 y h0 n0 _ TL.heap _
      rw [eL]
      have hip' := own_top (own_z0 hm) hip
      subst hip'
      exact ⟨NL, KL, Or.inl ⟨rfl, fun j h1 h2 => (hyb j h1 h2).1, yb, Y3, fun j h1 h2 => (hyb j h1 h2).2⟩⟩
    | succ kk ih =>
      intro i s6 TL lL hL yb hs6 hi0 hip hm XL eL NL ZL KL Y1 Y3 hyb
      refine Gen.on (b := TL.setTop (mkF m 5 #[.val (.ref a1), .val (.int i), .val (.ref a3), .val (.int i), .val (.int p5), .val (.int i), s6] [(.int i)])) ?_ (fun t k => XS.iload XL.here hx rfl (hb hby d6_3) rfl k)
      refine Gen.on (b := TL.setTop (mkF m 7 #[.val (.ref a1), .val (.int i), .val (.ref a3), .val (.int i), .val (.int p5), .val (.int i), s6] [(.int p5), (.int i)])) ?_ (fun t k => XS.iload XL.here hx rfl (hb hby d6_5) rfl k)
      by_cases c7_1 : i < p5
      · refine Gen.on (b := TL.setTop (mkF m 10 #[.val (.ref a1), .val (.int i), .val (.ref a3), .val (.int i), .val (.int p5), .val (.int i), s6] [])) ?_ (fun t k => XS.icmpNo XL.here hx rfl (hb hby d6_7) rfl (tlt c7_1).2.1 k)
        refine Gen.on (b := TL.setTop (mkF m 11 #[.val (.ref a1), .val (.int i), .val (.ref a3), .val (.int i), .val (.int p5), .val (.int i), s6] [(.ref a1)])) ?_ (fun t k => XS.aloadN XL.here hx rfl (hb hby d6_10) rfl rfl k)
        refine Gen.on (b := TL.setTop (mkF m 12 #[.val (.ref a1), .val (.int i), .val (.ref a3), .val (.int i), .val (.int p5), .val (.int i), s6] [(.int i), (.ref a1)])) ?_ (fun t k => XS.iloadN XL.here hx rfl (hb hby d6_11) rfl k)
        obtain ⟨cl1, Ar1, SA1, NA1, HA1⟩ := id Y1
        have hin1 : ¬ (i < 0 ∨ cl1.slots.size ≤ (i).toNatClampNeg) := inb_of SA1 ⟨hi0, c7_1⟩
        refine Gen.on (b := TL.setTop (mkF m 13 #[.val (.ref a1), .val (.int i), .val (.ref a3), .val (.int i), .val (.int p5), .val (.int i), s6] [(.int (y i))])) ?_ (fun t k => XL.caload hx (j := i) (v := (.int (y i))) (by rw [eL]; exact Ar1.1) (State.isArrayOf_alike hZ.alike Ar1.2.1) Ar1.2.2 hin1 (HA1 _ hin1) (g := (mkF m 12 #[.val (.ref a1), .val (.int i), .val (.ref a3), .val (.int i), .val (.int p5), .val (.int i), s6] [(.int i), (.ref a1)])) rfl rfl (hb hby d6_12) t k)
        refine Gen.on (b := TL.setTop (mkF m 15 #[.val (.ref a1), .val (.int i), .val (.ref a3), .val (.int i), .val (.int p5), .val (.int i), .val (.int (y i))] [])) ?_ (fun t k => XS.istore XL.here hx rfl (hb hby d6_13) rfl (l' := #[.val (.ref a1), .val (.int i), .val (.ref a3), .val (.int i), .val (.int p5), .val (.int i), .val (.int (y i))]) (own_os6 hs6) k)
        refine Gen.on (b := TL.setTop (mkF m 17 #[.val (.ref a1), .val (.int i), .val (.ref a3), .val (.int i), .val (.int p5), .val (.int i), .val (.int (y i))] [(.int (y i))])) ?_ (fun t k => XS.iload XL.here hx rfl (hb hby d6_15) rfl k)
        refine Gen.on (b := TL.setTop (mkF m 20 #[.val (.ref a1), .val (.int i), .val (.ref a3), .val (.int i), .val (.int p5), .val (.int i), .val (.int (y i))] [(.int (255 : Int32)), (.int (y i))])) ?_ (fun t k => XS.sipush XL.here hx rfl (hb hby d6_17) k)
        by_cases c20_2 : (255 : Int32) < (y i)
        · refine Gen.on (b := TL.setTop (mkF m 23 #[.val (.ref a1), .val (.int i), .val (.ref a3), .val (.int i), .val (.int p5), .val (.int i), .val (.int (y i))] [])) ?_ (fun t k => XS.icmpNo XL.here hx rfl (hb hby d6_20) rfl (tlt c20_2).2.2.2 k)
          refine Gen.on (b := TL.setTop (mkF m 25 #[.val (.ref a1), .val (.int i), .val (.ref a3), .val (.int i), .val (.int p5), .val (.int i), .val (.int (y i))] [(.int i)])) ?_ (fun t k => XS.iload XL.here hx rfl (hb hby d6_23) rfl k)
          refine own_retI XL hx Bd.returns (hb hby d6_25) (by decide) (by decide) ?_
          show Q6 Z a3 p5 y h0 n0 _ TL.heap _
          rw [eL]
          exact ⟨NL, KL, Or.inr ⟨i, rfl, hi0, c7_1, c20_2⟩⟩
        · refine Gen.on (b := TL.setTop (mkF m 26 #[.val (.ref a1), .val (.int i), .val (.ref a3), .val (.int i), .val (.int p5), .val (.int i), .val (.int (y i))] [])) ?_ (fun t k => XS.icmpYes XL.here hx rfl (pc0 := 20) (pc' := 26) rfl (hb hby d6_20) rfl (flt c20_2).2.2.2 (by decide) (by decide) k)
          refine Gen.on (b := TL.setTop (mkF m 27 #[.val (.ref a1), .val (.int i), .val (.ref a3), .val (.int i), .val (.int p5), .val (.int i), .val (.int (y i))] [(.ref a3)])) ?_ (fun t k => XS.aloadN XL.here hx rfl (hb hby d6_26) rfl rfl k)
          refine Gen.on (b := TL.setTop (mkF m 28 #[.val (.ref a1), .val (.int i), .val (.ref a3), .val (.int i), .val (.int p5), .val (.int i), .val (.int (y i))] [(.int i), (.ref a3)])) ?_ (fun t k => XS.iloadN XL.here hx rfl (hb hby d6_27) rfl k)
          refine Gen.on (b := TL.setTop (mkF m 30 #[.val (.ref a1), .val (.int i), .val (.ref a3), .val (.int i), .val (.int p5), .val (.int i), .val (.int (y i))] [(.int (y i)), (.int i), (.ref a3)])) ?_ (fun t k => XS.iload XL.here hx rfl (hb hby d6_28) rfl k)
          refine Gen.on (b := TL.setTop (mkF m 31 #[.val (.ref a1), .val (.int i), .val (.ref a3), .val (.int i), .val (.int p5), .val (.int i), .val (.int (y i))] [(.int (y i).toInt8.toInt32), (.int i), (.ref a3)])) ?_ (fun t k => XS.i2b XL.here hx rfl (hb hby d6_30) rfl k)
          obtain ⟨cl2, Ar2, SA2, NA2, HA2⟩ := id Y3
          have hin2 : ¬ (i < 0 ∨ cl2.slots.size ≤ (i).toNatClampNeg) := inb_of SA2 ⟨hi0, c7_1⟩
          obtain ⟨T2, h2, X2, e2, W2, st2⟩ := stB XL hx hZ eL Ar2 (j := i) hin2 (g := (mkF m 31 #[.val (.ref a1), .val (.int i), .val (.ref a3), .val (.int i), .val (.int p5), .val (.int i), .val (.int (y i))] [(.int (y i).toInt8.toInt32), (.int i), (.ref a3)])) rfl rfl (hb hby d6_31)
          have Y2 := Afn.put Ar2 SA2 NA2 HA2 W2 hi0
          have Z2 : n0 ≤ h2.size := Nat.le_trans ZL (Keep.of_wr W2).1
          have K2 : Keep h0 h2 [a3] := KL.wr W2 (Or.inl (List.mem_of_getElem? (i := 0) rfl))
          have N2 := Fr.snoc X2 NL g_a3
          refine Gen.on (b := T2.setTop (mkF m 32 #[.val (.ref a1), .val (.int i), .val (.ref a3), .val (.int i), .val (.int p5), .val (.int i), .val (.int (y i))] [])) ?_ (fun t k => st2 t k)
          refine Gen.on (b := T2.setTop (mkF m 35 #[.val (.ref a1), .val (.int (i + (1 : Int32))), .val (.ref a3), .val (.int i), .val (.int p5), .val (.int i), .val (.int (y i))] [])) ?_ (fun t k => XS.iinc X2.here hx rfl (hb hby d6_32) rfl (l' := #[.val (.ref a1), .val (.int (i + (1 : Int32))), .val (.ref a3), .val (.int i), .val (.int p5), .val (.int i), .val (.int (y i))]) rfl k)
          refine Gen.on (b := T2.setTop (mkF m 38 #[.val (.ref a1), .val (.int (i + (1 : Int32))), .val (.ref a3), .val (.int (i + (1 : Int32))), .val (.int p5), .val (.int i), .val (.int (y i))] [])) ?_ (fun t k => XS.iinc X2.here hx rfl (hb hby d6_35) rfl (l' := #[.val (.ref a1), .val (.int (i + (1 : Int32))), .val (.ref a3), .val (.int (i + (1 : Int32))), .val (.int p5), .val (.int i), .val (.int (y i))]) rfl k)
          refine Gen.on (b := T2.setTop (mkF m 41 #[.val (.ref a1), .val (.int (i + (1 : Int32))), .val (.ref a3), .val (.int (i + (1 : Int32))), .val (.int p5), .val (.int (i + (1 : Int32))), .val (.int (y i))] [])) ?_ (fun t k => XS.iinc X2.here hx rfl (hb hby d6_38) rfl (l' := #[.val (.ref a1), .val (.int (i + (1 : Int32))), .val (.ref a3), .val (.int (i + (1 : Int32))), .val (.int p5), .val (.int (i + (1 : Int32))), .val (.int (y i))]) rfl k)
          refine Gen.on (b := T2.setTop (mkF m 3 #[.val (.ref a1), .val (.int (i + (1 : Int32))), .val (.ref a3), .val (.int (i + (1 : Int32))), .val (.int p5), .val (.int (i + (1 : Int32))), .val (.int (y i))] [])) ?_ (fun t k => XS.goto X2.here hx rfl (pc0 := 41) (pc' := 3) rfl (hb hby d6_41) (by decide) (by decide) k)
          have hstp := own_step hi0 c7_1 hm
          have fa3 := (Y1.other W2 ne13)
          exact ih (i + (1 : Int32)) _ _ _ _ _ (One.val rfl) hstp.1 hstp.2.1 hstp.2.2 X2 e2 N2 Z2 K2 fa3 Y2 (fun j hj0 hj => by
            rcases own_ltS hi0 c7_1 hj with rfl | hj'
            · exact ⟨c20_2, if_pos rfl⟩
            · have ne : ¬ j = i := fun q => by subst q; rw [Int32.lt_iff_toInt_lt] at hj'; omega
              exact ⟨(hyb j hj0 hj').1, (if_neg ne).trans (hyb j hj0 hj').2⟩)
      · refine Gen.on (b := TL.setTop (mkF m 44 #[.val (.ref a1), .val (.int i), .val (.ref a3), .val (.int i), .val (.int p5), .val (.int i), s6] [])) ?_ (fun t k => XS.icmpYes XL.here hx rfl (pc0 := 7) (pc' := 44) rfl (hb hby d6_7) rfl (flt c7_1).2.1 (by decide) (by decide) k)
        refine Gen.on (b := TL.setTop (mkF m 46 #[.val (.ref a1), .val (.int i), .val (.ref a3), .val (.int i), .val (.int p5), .val (.int i), s6] [(.int p5)])) ?_ (fun t k => XS.iload XL.here hx rfl (hb hby d6_44) rfl k)
        refine own_retI XL hx Bd.returns (hb hby d6_46) (by decide) (by decide) ?_
        show Q6 Z a3 p5 y h0 n0 _ TL.heap _
        rw [eL]
        have hip' := own_top c7_1 hip
        subst hip'
        exact ⟨NL, KL, Or.inl ⟨rfl, fun j h1 h2 => (hyb j h1 h2).1, yb, Y3, fun j h1 h2 => (hyb j h1 h2).2⟩⟩
  exact loop _ (0 : Int32) .unset _ _ _ _ One.u (by decide) P0.nn (Int.le_of_eq (Int.toNat_of_nonneg (own_nnz P0.nn)).symm) X0 e0 N0 Z0 K0 P0 P1 (fun j h1 h2 => absurd h2 h1)

theorem d7_0 : decode jdk_52_method_15_code 0 = .ok (.iload_n 1, 1) := by decide +kernel
theorem d7_1 : decode jdk_52_method_15_code 1 = .ok (.aload_n 0, 1) := by decide +kernel
theorem d7_2 : decode jdk_52_method_15_code 2 = .ok (.arraylength, 1) := by decide +kernel
theorem d7_3 : decode jdk_52_method_15_code 3 = .ok (.isub, 1) := by decide +kernel
theorem d7_4 : decode jdk_52_method_15_code 4 = .ok (.bipush 31, 2) := by decide +kernel
theorem d7_6 : decode jdk_52_method_15_code 6 = .ok (.iushr, 1) := by decide +kernel
theorem d7_7 : decode jdk_52_method_15_code 7 = .ok (.i2b, 1) := by decide +kernel
theorem d7_8 : decode jdk_52_method_15_code 8 = .ok (.ireturn, 1) := by decide +kernel
theorem pn_7 : plainName "java/lang/StringUTF16" = true := by first | (simp [plainName, overriddenIn]; done) | decide +kernel
theorem ef_7 (m : MethodId) (x0 : Addr) (x1 : Int32) : entryFrame m #[(.ref x0), (.int x1)] 2 = mkF m 0 #[.val (.ref x0), .val (.int x1)] [] := by first | (simp [entryFrame, mkF, argsToLocals, Value.category]; done) | rfl
def Q7 (Z : State) (a1 : Addr) (p2 : Int32) (zb : Int32) (yb : Int32 → Int32) (w1 : Int32) (h0 : Heap) (n0 : Nat) (v : Option Value) (h : Heap) (L : List Loc) : Prop := v = some (.int w1) ∧ Fr n0 L ∧ h = h0
set_option maxRecDepth 65536 in
set_option maxHeartbeats 40000000 in
theorem rm7 (l : Launch) (Z : State) (a0 : Array Value) (hw : ∀ d ∈ tables_1, d.before a0 Z = true) (wds : List Jvm.Cond) (a1 : Addr) (p2 : Int32) (zb : Int32) (yb : Int32 → Int32) (w1 : Int32) (h0 : Heap) (n0 : Nat) (Z0 : n0 ≤ h0.size) (P0 : Afn Z h0 a1 .byte zb yb) (hcw : ((((p2 - zb).toUInt32 >>> ((31 : Int32) &&& 31).toUInt32).toInt32).toInt8.toInt32) = w1) :
    MetFree l (⟨"java/lang/StringUTF16", "coderFromArrayLen", "([BI)B"⟩ : MethodName) (head1 (Jvm.Cond.code (⟨"java/lang/StringUTF16", "coderFromArrayLen", "([BI)B"⟩ : MethodName) jdk_52_method_15_code 2 (some .byte) :: wds) ({ frames := 0, cells := 0, slots := 0, locals := 0 } : Room)) (fun a U => a = #[(.ref a1), (.int p2)] ∧ Z.Warmed39 U.vm ∧ U.heap = h0) (fun _ _ _ _ _ => True) (fun _ U o U' => ∃ v L, o = .returned v ∧ Q7 Z a1 p2 zb yb w1 h0 n0 v U'.heap L ∧ FrameEnd U o U' L ({ frames := 0, cells := 0, slots := 0, locals := 0 } : Room).cells ({ frames := 0, cells := 0, slots := 0, locals := 0 } : Room).slots) := by
  refine MetFree.of_bodySF (plainFor_of_name pn_7) hisR ?_
  intro p e s m args below meth c s₁ Bd hml0 hP hK
  obtain ⟨rfl, hZ, hh⟩ := hP
  have hx := Bd.exec
  have hby := Bd.bytes
  have hml : c.maxLocals = 2 := hml0
  have hown : s.vm.findClass "java/lang/StringUTF16" = some m.cls := findClass_of_methodNamed Bd.named
  have hnm := (name_of_methodNamed Bd.named Bd.method).1
  have X0 : Stand p l e ({ frames := 0, cells := 0, slots := 0, locals := 0 } : Room) s m #[(.ref a1), (.int p2)] below meth c s₁ [] 0 0 := Stand.of_body Bd
  have e0 : s₁.heap = h0 := by rw [← hh, Bd.state]; rfl
  have N0 := Fr.nil n0
  refine own_start (Q := Q7 Z a1 p2 zb yb w1 h0 n0) (C := ({ frames := 0, cells := 0, slots := 0, locals := 0 } : Room).cells) (S := ({ frames := 0, cells := 0, slots := 0, locals := 0 } : Room).slots) ?_
  rw [ef_7 m a1 p2]
  refine Gen.on (b := s₁.setTop (mkF m 1 #[.val (.ref a1), .val (.int p2)] [(.int p2)])) ?_ (fun t k => XS.iloadN X0.here hx rfl (hb hby d7_0) rfl k)
  refine Gen.on (b := s₁.setTop (mkF m 2 #[.val (.ref a1), .val (.int p2)] [(.ref a1), (.int p2)])) ?_ (fun t k => XS.aloadN X0.here hx rfl (hb hby d7_1) rfl rfl k)
  obtain ⟨cl1, Ar1, SA1, NA1, HA1⟩ := id P0
  refine Gen.on (b := s₁.setTop (mkF m 3 #[.val (.ref a1), .val (.int p2)] [(.int zb), (.int p2)])) ?_ (fun t k => X0.arraylength hx (by rw [e0]; exact Ar1.1) (State.isArrayOf_alike hZ.alike Ar1.2.1) (g := (mkF m 2 #[.val (.ref a1), .val (.int p2)] [(.ref a1), (.int p2)])) rfl rfl (hb hby d7_2) t (by rw [len_of SA1 NA1]; exact k))
  refine Gen.on (b := s₁.setTop (mkF m 4 #[.val (.ref a1), .val (.int p2)] [(.int (p2 - zb))])) ?_ (fun t k => XS.isub X0.here hx rfl (hb hby d7_3) rfl k)
  refine Gen.on (b := s₁.setTop (mkF m 6 #[.val (.ref a1), .val (.int p2)] [(.int (31 : Int32)), (.int (p2 - zb))])) ?_ (fun t k => XS.bipush X0.here hx rfl (hb hby d7_4) k)
  refine Gen.on (b := s₁.setTop (mkF m 7 #[.val (.ref a1), .val (.int p2)] [(.int (((p2 - zb).toUInt32 >>> ((31 : Int32) &&& 31).toUInt32).toInt32))])) ?_ (fun t k => XS.iushr X0.here hx rfl (hb hby d7_6) rfl k)
  refine Gen.on (b := s₁.setTop (mkF m 8 #[.val (.ref a1), .val (.int p2)] [(.int (((p2 - zb).toUInt32 >>> ((31 : Int32) &&& 31).toUInt32).toInt32).toInt8.toInt32)])) ?_ (fun t k => XS.i2b X0.here hx rfl (hb hby d7_7) rfl k)
  refine own_retN (t := .byte) X0 hx Bd.returns (by simp) (own_nar_b _) (hb hby d7_8) (by decide) (by decide) ?_
  exact ⟨(by rw [hcw]), N0, e0⟩

theorem d5_0 : decode jdk_52_method_16_code 0 = .ok (.iload_n 2, 1) := by decide +kernel
theorem d5_1 : decode jdk_52_method_16_code 1 = .ok (.newarray .byte, 2) := by decide +kernel
theorem d5_3 : decode jdk_52_method_16_code 3 = .ok (.astore_n 3, 1) := by decide +kernel
theorem d5_4 : decode jdk_52_method_16_code 4 = .ok (.aload_n 0, 1) := by decide +kernel
theorem d5_5 : decode jdk_52_method_16_code 5 = .ok (.iload_n 1, 1) := by decide +kernel
theorem d5_6 : decode jdk_52_method_16_code 6 = .ok (.aload_n 3, 1) := by decide +kernel
theorem d5_7 : decode jdk_52_method_16_code 7 = .ok (.iconst 0, 1) := by decide +kernel
theorem d5_8 : decode jdk_52_method_16_code 8 = .ok (.iload_n 2, 1) := by decide +kernel
theorem d5_9 : decode jdk_52_method_16_code 9 = .ok (.invokestatic 115, 3) := by decide +kernel
theorem d5_12 : decode jdk_52_method_16_code 12 = .ok (.istore 4, 2) := by decide +kernel
theorem d5_14 : decode jdk_52_method_16_code 14 = .ok (.iload 4, 2) := by decide +kernel
theorem d5_16 : decode jdk_52_method_16_code 16 = .ok (.iload_n 2, 1) := by decide +kernel
theorem d5_17 : decode jdk_52_method_16_code 17 = .ok (.if_icmp .eq 40, 3) := by decide +kernel
theorem d5_57 : decode jdk_52_method_16_code 57 = .ok (.aload_n 3, 1) := by decide +kernel
theorem d5_58 : decode jdk_52_method_16_code 58 = .ok (.areturn, 1) := by decide +kernel
theorem pn_5 : plainName "java/lang/StringUTF16" = true := by first | (simp [plainName, overriddenIn]; done) | decide +kernel
theorem pd_5_0 : parseMethodDescriptor "([CI[BII)I" = some ⟨[(.array .char), .int, (.array .byte), .int, .int], some .int⟩ := by decide +kernel
theorem ef_5 (m : MethodId) (x0 : Addr) (x1 : Int32) (x2 : Int32) : entryFrame m #[(.ref x0), (.int x1), (.int x2)] 6 = mkF m 0 #[.val (.ref x0), .val (.int x1), .val (.int x2), .unset, .unset, .unset] [] := by first | (simp [entryFrame, mkF, argsToLocals, Value.category]; done) | rfl
def Q5 (Z : State) (p3 : Int32) (y : Int32 → Int32) (h0 : Heap) (n0 : Nat) (v : Option Value) (h : Heap) (L : List Loc) : Prop := ∃ xr : Addr, v = some (.ref xr) ∧ Fr n0 L ∧ Keep h0 h [] ∧ h0.size ≤ xr ∧ Afn Z h xr .byte p3 (fun j => own_b (y j))
set_option maxRecDepth 65536 in
set_option maxHeartbeats 40000000 in
theorem rm5 (l : Launch) (Z : State) (a0 : Array Value) (hw : ∀ d ∈ tables_1, d.before a0 Z = true) (wds : List Jvm.Cond) (a1 : Addr) (p3 : Int32) (y : Int32 → Int32) (h0 : Heap) (n0 : Nat) (Z0 : n0 ≤ h0.size) (P0 : Afn Z h0 a1 .char p3 y) (hcap1 : p3.toNatClampNeg ≤ 2) (hy : ∀ j : Int32, ¬ j < 0 → j < p3 → ¬ y j < 0 ∧ ¬ (255 : Int32) < y j) :
    MetFree l (⟨"java/lang/StringUTF16", "compress", "([CII)[B"⟩ : MethodName) (head1 (Jvm.Cond.code (⟨"java/lang/StringUTF16", "compress", "([CII)[B"⟩ : MethodName) jdk_52_method_16_code 6 (some (.array .byte)) :: wds) ({ frames := 1, cells := 1, slots := 2, locals := 20 } : Room)) (fun a U => a = #[(.ref a1), (.int (0 : Int32)), (.int p3)] ∧ Z.Warmed39 U.vm ∧ U.heap = h0) (fun _ _ _ _ _ => True) (fun _ U o U' => ∃ v L, o = .returned v ∧ Q5 Z p3 y h0 n0 v U'.heap L ∧ FrameEnd U o U' L ({ frames := 1, cells := 1, slots := 2, locals := 20 } : Room).cells ({ frames := 1, cells := 1, slots := 2, locals := 20 } : Room).slots) := by
  refine MetFree.of_bodySF (plainFor_of_name pn_5) hisR ?_
  intro p e s m args below meth c s₁ Bd hml0 hP hK
  obtain ⟨rfl, hZ, hh⟩ := hP
  have hx := Bd.exec
  have hby := Bd.bytes
  have hml : c.maxLocals = 6 := hml0
  have hown : s.vm.findClass "java/lang/StringUTF16" = some m.cls := findClass_of_methodNamed Bd.named
  have hnm := (name_of_methodNamed Bd.named Bd.method).1
  have X0 : Stand p l e ({ frames := 1, cells := 1, slots := 2, locals := 20 } : Room) s m #[(.ref a1), (.int (0 : Int32)), (.int p3)] below meth c s₁ [] 0 0 := Stand.of_body Bd
  have e0 : s₁.heap = h0 := by rw [← hh, Bd.state]; rfl
  have N0 := Fr.nil n0
  refine own_start (Q := Q5 Z p3 y h0 n0) (C := ({ frames := 1, cells := 1, slots := 2, locals := 20 } : Room).cells) (S := ({ frames := 1, cells := 1, slots := 2, locals := 20 } : Room).slots) ?_
  rw [ef_5 m a1 (0 : Int32) p3]
  have K0 : Keep h0 h0 [] := Keep.refl h0 []
  refine Gen.on (b := s₁.setTop (mkF m 1 #[.val (.ref a1), .val (.int (0 : Int32)), .val (.int p3), .unset, .unset, .unset] [(.int p3)])) ?_ (fun t k => XS.iloadN X0.here hx rfl (hb hby d5_0) rfl k)
  obtain ⟨b1, g1⟩ : ∃ z, z = h0.size := ⟨_, rfl⟩
  have ne_a1_b1 : a1 ≠ b1 := Nat.ne_of_lt (Nat.lt_of_lt_of_le P0.lt (Nat.le_of_eq g1.symm))
  have g_b1 : n0 ≤ b1 := Nat.le_trans Z0 (Nat.le_of_eq g1.symm)
  have sz_b1 : h0.size ≤ b1 := Nat.le_trans K0.1 (Nat.le_of_eq g1.symm)
  obtain ⟨T1, h1, k1, X1, e1, E1, A1, st1⟩ := newP X0 hx hZ (hw _ (List.mem_of_getElem? (i := 23) rfl)) e0 (g := (mkF m 1 #[.val (.ref a1), .val (.int (0 : Int32)), .val (.int p3), .unset, .unset, .unset] [(.int p3)])) rfl (hb hby d5_1) rfl P0.nn (cap := 2) hcap1 (by decide) (by decide) (by decide)
  rw [← g1] at A1 st1
  have Z1 : n0 ≤ h1.size := Nat.le_trans Z0 E1.1
  have K1 : Keep h0 h1 [] := K0.ext E1
  have V1 : Afn Z h1 b1 .byte p3 (fun _ => 0) := Afn.new A1 P0.nn rfl
  refine Gen.on (b := T1.setTop (mkF m 3 #[.val (.ref a1), .val (.int (0 : Int32)), .val (.int p3), .unset, .unset, .unset] [(.ref b1)])) ?_ (fun t k => st1 t k)
  refine Gen.on (b := T1.setTop (mkF m 4 #[.val (.ref a1), .val (.int (0 : Int32)), .val (.int p3), .val (.ref b1), .unset, .unset] [])) ?_ (fun t k => XS.astoreN X1.here hx rfl (hb hby d5_3) rfl rfl (l' := #[.val (.ref a1), .val (.int (0 : Int32)), .val (.int p3), .val (.ref b1), .unset, .unset]) rfl k)
  refine Gen.on (b := T1.setTop (mkF m 5 #[.val (.ref a1), .val (.int (0 : Int32)), .val (.int p3), .val (.ref b1), .unset, .unset] [(.ref a1)])) ?_ (fun t k => XS.aloadN X1.here hx rfl (hb hby d5_4) rfl rfl k)
  refine Gen.on (b := T1.setTop (mkF m 6 #[.val (.ref a1), .val (.int (0 : Int32)), .val (.int p3), .val (.ref b1), .unset, .unset] [(.int (0 : Int32)), (.ref a1)])) ?_ (fun t k => XS.iloadN X1.here hx rfl (hb hby d5_5) rfl k)
  refine Gen.on (b := T1.setTop (mkF m 7 #[.val (.ref a1), .val (.int (0 : Int32)), .val (.int p3), .val (.ref b1), .unset, .unset] [(.ref b1), (.int (0 : Int32)), (.ref a1)])) ?_ (fun t k => XS.aloadN X1.here hx rfl (hb hby d5_6) rfl rfl k)
  refine Gen.on (b := T1.setTop (mkF m 8 #[.val (.ref a1), .val (.int (0 : Int32)), .val (.int p3), .val (.ref b1), .unset, .unset] [(.int (0 : Int32)), (.ref b1), (.int (0 : Int32)), (.ref a1)])) ?_ (fun t k => XS.iconst X1.here hx rfl (hb hby d5_7) k)
  refine Gen.on (b := T1.setTop (mkF m 9 #[.val (.ref a1), .val (.int (0 : Int32)), .val (.int p3), .val (.ref b1), .unset, .unset] [(.int p3), (.int (0 : Int32)), (.ref b1), (.int (0 : Int32)), (.ref a1)])) ?_ (fun t k => XS.iloadN X1.here hx rfl (hb hby d5_8) rfl k)
  have fa3 := (P0.ext E1)
  obtain ⟨_, _, ⟨T2, L2, k2, n2⟩, -, X2, ⟨Lc2, hQ2, l2, y2, z2⟩, st2⟩ := Jvm.LawKit.callS X1 hx (y := (⟨"java/lang/StringUTF16", "compress", "([CI[BII)I"⟩ : MethodName)) hown (mvT hZ (hw _ (List.mem_of_getElem? (i := 24) rfl))) (mvT hZ (hw _ (List.mem_of_getElem? (i := 25) rfl))) (mvT hZ (hw _ (List.mem_of_getElem? (i := 21) rfl))) (mvT hZ (hw _ (List.mem_of_getElem? (i := 26) rfl))) (by decide) (backOf (W := 0) (rm6 l Z a0 hw [] a1 b1 p3 y (fun _ => 0) h1 n0 Z1 fa3 V1 g_b1 ne_a1_b1) hZ (hw _ (List.mem_of_getElem? (i := 26) rfl)) (hw _ (List.mem_of_getElem? (i := 21) rfl)) (by decide) (by decide)) (g := (mkF m 9 #[.val (.ref a1), .val (.int (0 : Int32)), .val (.int p3), .val (.ref b1), .unset, .unset] [(.int p3), (.int (0 : Int32)), (.ref b1), (.int (0 : Int32)), (.ref a1)])) rfl (by rw [hml]; rfl) (argsL := [(.ref a1), (.int (0 : Int32)), (.ref b1), (.int (0 : Int32)), (.int p3)]) (rest := []) (lenOf pd_5_0 rfl) rfl (by show 2 * 0 + _ ≤ _; exact Nat.le_of_eq rfl) (hb hby d5_9) (fun _ _ => ⟨rfl, e1, (by decide : 1 + 0 ≤ _), (by decide : 2 + 0 ≤ _)⟩)
  dsimp only [Pt.U, Pt.locs, Pt.cells, Pt.slots] at X2 l2 y2 z2 st2 hQ2
  subst l2 y2 z2
  obtain ⟨N2q, Kc2, hH2⟩ := hQ2
  have N2 := Fr.app N0 N2q
  have Z2 : n0 ≤ T2.heap.size := Nat.le_trans Z1 Kc2.1
  have K2 : Keep h0 T2.heap [] := K1.trans Kc2 (allS (Or.inr sz_b1) all0)
  rcases hH2 with ⟨rfl, hall, yb, Yb, hyb⟩ | ⟨i, rfl, hi0, hlt, hbig⟩
  rotate_left
  · exact absurd hbig (hy i hi0 hlt).2
  replace Yb := Afn.congr Yb hyb
  refine Gen.on (b := T2.setTop (mkF m 12 #[.val (.ref a1), .val (.int (0 : Int32)), .val (.int p3), .val (.ref b1), .unset, .unset] [(.int p3)])) ?_ (fun t k => st2 t k)
  refine Gen.on (b := T2.setTop (mkF m 14 #[.val (.ref a1), .val (.int (0 : Int32)), .val (.int p3), .val (.ref b1), .val (.int p3), .unset] [])) ?_ (fun t k => XS.istore X2.here hx rfl (hb hby d5_12) rfl (l' := #[.val (.ref a1), .val (.int (0 : Int32)), .val (.int p3), .val (.ref b1), .val (.int p3), .unset]) rfl k)
  refine Gen.on (b := T2.setTop (mkF m 16 #[.val (.ref a1), .val (.int (0 : Int32)), .val (.int p3), .val (.ref b1), .val (.int p3), .unset] [(.int p3)])) ?_ (fun t k => XS.iload X2.here hx rfl (hb hby d5_14) rfl k)
  refine Gen.on (b := T2.setTop (mkF m 17 #[.val (.ref a1), .val (.int (0 : Int32)), .val (.int p3), .val (.ref b1), .val (.int p3), .unset] [(.int p3), (.int p3)])) ?_ (fun t k => XS.iloadN X2.here hx rfl (hb hby d5_16) rfl k)
  refine Gen.on (b := T2.setTop (mkF m 57 #[.val (.ref a1), .val (.int (0 : Int32)), .val (.int p3), .val (.ref b1), .val (.int p3), .unset] [])) ?_ (fun t k => XS.icmpYes X2.here hx rfl (pc0 := 17) (pc' := 57) rfl (hb hby d5_17) rfl (teq (rfl : p3 = p3)).1 (by decide) (by decide) k)
  refine Gen.on (b := T2.setTop (mkF m 58 #[.val (.ref a1), .val (.int (0 : Int32)), .val (.int p3), .val (.ref b1), .val (.int p3), .unset] [(.ref b1)])) ?_ (fun t k => XS.aloadN X2.here hx rfl (hb hby d5_57) rfl rfl k)
  refine own_retA X2 hx Bd.returns rfl rfl (hb hby d5_58) (by decide) (by decide) ?_
  show Q5 Z p3 y h0 n0 _ T2.heap _
  exact ⟨_, rfl, N2, K2, sz_b1, Yb⟩

theorem d3_0 : decode jdk_42_method_149_code 0 = .ok (.aload_n 0, 1) := by decide +kernel
theorem d3_1 : decode jdk_42_method_149_code 1 = .ok (.invokespecial 1, 3) := by decide +kernel
theorem d3_4 : decode jdk_42_method_149_code 4 = .ok (.iload_n 3, 1) := by decide +kernel
theorem d3_5 : decode jdk_42_method_149_code 5 = .ok (.ifCond .ne 22, 3) := by decide +kernel
theorem d3_27 : decode jdk_42_method_149_code 27 = .ok (.getstatic 38, 3) := by decide +kernel
theorem d3_30 : decode jdk_42_method_149_code 30 = .ok (.ifCond .eq 28, 3) := by decide +kernel
theorem d3_33 : decode jdk_42_method_149_code 33 = .ok (.aload_n 1, 1) := by decide +kernel
theorem d3_34 : decode jdk_42_method_149_code 34 = .ok (.iload_n 2, 1) := by decide +kernel
theorem d3_35 : decode jdk_42_method_149_code 35 = .ok (.iload_n 3, 1) := by decide +kernel
theorem d3_36 : decode jdk_42_method_149_code 36 = .ok (.invokestatic 177, 3) := by decide +kernel
theorem d3_39 : decode jdk_42_method_149_code 39 = .ok (.astore 5, 2) := by decide +kernel
theorem d3_41 : decode jdk_42_method_149_code 41 = .ok (.aload_n 0, 1) := by decide +kernel
theorem d3_42 : decode jdk_42_method_149_code 42 = .ok (.aload 5, 2) := by decide +kernel
theorem d3_44 : decode jdk_42_method_149_code 44 = .ok (.iload_n 3, 1) := by decide +kernel
theorem d3_45 : decode jdk_42_method_149_code 45 = .ok (.invokestatic 47, 3) := by decide +kernel
theorem d3_48 : decode jdk_42_method_149_code 48 = .ok (.putfield 15, 3) := by decide +kernel
theorem d3_51 : decode jdk_42_method_149_code 51 = .ok (.aload_n 0, 1) := by decide +kernel
theorem d3_52 : decode jdk_42_method_149_code 52 = .ok (.aload 5, 2) := by decide +kernel
theorem d3_54 : decode jdk_42_method_149_code 54 = .ok (.putfield 9, 3) := by decide +kernel
theorem d3_57 : decode jdk_42_method_149_code 57 = .ok (.return_, 1) := by decide +kernel
theorem pn_3 : plainName "java/lang/String" = true := by first | (simp [plainName, overriddenIn]; done) | decide +kernel
theorem pd_3_0 : parseMethodDescriptor "([CII)[B" = some ⟨[(.array .char), .int, .int], some (.array .byte)⟩ := by decide +kernel
theorem pd_3_1 : parseMethodDescriptor "([BI)B" = some ⟨[(.array .byte), .int], some .byte⟩ := by decide +kernel
theorem ef_3 (m : MethodId) (x0 : Addr) (x1 : Addr) (x2 : Int32) (x3 : Int32) : entryFrame m #[(.ref x0), (.ref x1), (.int x2), (.int x3), .null] 6 = mkF m 0 #[.val (.ref x0), .val (.ref x1), .val (.int x2), .val (.int x3), .val .null, .unset] [] := by first | (simp [entryFrame, mkF, argsToLocals, Value.category]; done) | rfl
def Q3 (Z : State) (a1 : Addr) (a2 : Addr) (p4 : Int32) (u1 : Value) (u2 : Value) (y : Int32 → Int32) (w0 : Int32) (h0 : Heap) (n0 : Nat) (v : Option Value) (h : Heap) (L : List Loc) : Prop := v = none ∧ Fr n0 L ∧ Keep h0 h [a1] ∧ Exa Z h a1 "java/lang/String" ∧ Lat Z h a1 p4 y
set_option maxRecDepth 65536 in
set_option maxHeartbeats 40000000 in
theorem rm3 (l : Launch) (Z : State) (a0 : Array Value) (hw : ∀ d ∈ tables_1, d.before a0 Z = true) (wds : List Jvm.Cond) (a1 : Addr) (a2 : Addr) (p4 : Int32) (u1 : Value) (u2 : Value) (y : Int32 → Int32) (w0 : Int32) (h0 : Heap) (n0 : Nat) (Z0 : n0 ≤ h0.size) (P0 : Exa Z h0 a1 "java/lang/String") (P1 : Fld Z h0 a1 "java/lang/String" "value" "[B" u1) (P2 : Fld Z h0 a1 "java/lang/String" "coder" "B" u2) (P3 : Afn Z h0 a2 .char p4 y) (P4 : Old Z n0 h0) (g_a1 : n0 ≤ a1) (sts : Sts Z w0) (hcap1 : p4.toNatClampNeg ≤ 2) (hy : ∀ j : Int32, ¬ j < 0 → j < p4 → ¬ y j < 0 ∧ ¬ (255 : Int32) < y j) (hne0 : ¬ p4 = (0 : Int32)) :
    MetFree l (⟨"java/lang/String", "<init>", "([CIILjava/lang/Void;)V"⟩ : MethodName) (head1 (Jvm.Cond.code (⟨"java/lang/String", "<init>", "([CIILjava/lang/Void;)V"⟩ : MethodName) jdk_42_method_149_code 6 none :: wds) ({ frames := 2, cells := 1, slots := 2, locals := 37 } : Room)) (fun a U => a = #[(.ref a1), (.ref a2), (.int (0 : Int32)), (.int p4), .null] ∧ Z.Warmed39 U.vm ∧ U.heap = h0) (fun _ _ _ _ _ => True) (fun _ U o U' => ∃ v L, o = .returned v ∧ Q3 Z a1 a2 p4 u1 u2 y w0 h0 n0 v U'.heap L ∧ FrameEnd U o U' L ({ frames := 2, cells := 1, slots := 2, locals := 37 } : Room).cells ({ frames := 2, cells := 1, slots := 2, locals := 37 } : Room).slots) := by
  refine MetFree.of_bodySF (plainFor_of_name pn_3) hisR ?_
  intro p e s m args below meth c s₁ Bd hml0 hP hK
  obtain ⟨rfl, hZ, hh⟩ := hP
  have hx := Bd.exec
  have hby := Bd.bytes
  have hml : c.maxLocals = 6 := hml0
  have hown : s.vm.findClass "java/lang/String" = some m.cls := findClass_of_methodNamed Bd.named
  have hnm := (name_of_methodNamed Bd.named Bd.method).1
  have X0 : Stand p l e ({ frames := 2, cells := 1, slots := 2, locals := 37 } : Room) s m #[(.ref a1), (.ref a2), (.int (0 : Int32)), (.int p4), .null] below meth c s₁ [] 0 0 := Stand.of_body Bd
  have e0 : s₁.heap = h0 := by rw [← hh, Bd.state]; rfl
  have N0 := Fr.nil n0
  refine own_start (Q := Q3 Z a1 a2 p4 u1 u2 y w0 h0 n0) (C := ({ frames := 2, cells := 1, slots := 2, locals := 37 } : Room).cells) (S := ({ frames := 2, cells := 1, slots := 2, locals := 37 } : Room).slots) ?_
  rw [ef_3 m a1 a2 (0 : Int32) p4]
  have K0 : Keep h0 h0 [a1] := Keep.refl h0 [a1]
  obtain ⟨SC, hw0⟩ := id sts
  refine Gen.on (b := s₁.setTop (mkF m 1 #[.val (.ref a1), .val (.ref a2), .val (.int (0 : Int32)), .val (.int p4), .val .null, .unset] [(.ref a1)])) ?_ (fun t k => XS.aloadN X0.here hx rfl (hb hby d3_0) rfl rfl k)
  obtain ⟨T1, X1, e1, st1⟩ := initO X0 hx hZ hown (hw _ (List.mem_of_getElem? (i := 15) rfl)) (hw _ (List.mem_of_getElem? (i := 16) rfl)) (hw _ (List.mem_of_getElem? (i := 17) rfl)) e0 (g := (mkF m 1 #[.val (.ref a1), .val (.ref a2), .val (.int (0 : Int32)), .val (.int p4), .val .null, .unset] [(.ref a1)])) rfl (by rw [hml]; rfl) rfl (hb hby d3_1) (by decide) (W := 0) (by show 2 * 0 + _ ≤ _; exact Nat.le_of_eq rfl) (by decide)
  refine Gen.on (b := T1.setTop (mkF m 4 #[.val (.ref a1), .val (.ref a2), .val (.int (0 : Int32)), .val (.int p4), .val .null, .unset] [])) ?_ (fun t k => st1 t k)
  refine Gen.on (b := T1.setTop (mkF m 5 #[.val (.ref a1), .val (.ref a2), .val (.int (0 : Int32)), .val (.int p4), .val .null, .unset] [(.int p4)])) ?_ (fun t k => XS.iloadN X1.here hx rfl (hb hby d3_4) rfl k)
  refine Gen.on (b := T1.setTop (mkF m 27 #[.val (.ref a1), .val (.ref a2), .val (.int (0 : Int32)), .val (.int p4), .val .null, .unset] [])) ?_ (fun t k => XS.ifYes X1.here hx rfl (pc0 := 5) (pc' := 27) rfl (hb hby d3_5) rfl ((if0 _ _).trans (feq hne0).2) (by decide) (by decide) k)
  have fa3 := Sta.ext P4.2 SC
  obtain ⟨T2, X2, e2, st2⟩ := getS2 X1 hx hZ hown (host := "") (Or.inl (hw _ (List.mem_of_getElem? (i := 18) rfl))) Via.refl e1 fa3 (g := (mkF m 27 #[.val (.ref a1), .val (.ref a2), .val (.int (0 : Int32)), .val (.int p4), .val .null, .unset] [])) rfl (hb hby d3_27)
  refine Gen.on (b := T2.setTop (mkF m 30 #[.val (.ref a1), .val (.ref a2), .val (.int (0 : Int32)), .val (.int p4), .val .null, .unset] [(.int w0)])) ?_ (fun t k => st2 t k)
  refine Gen.on (b := T2.setTop (mkF m 33 #[.val (.ref a1), .val (.ref a2), .val (.int (0 : Int32)), .val (.int p4), .val .null, .unset] [])) ?_ (fun t k => XS.ifNo X2.here hx rfl (hb hby d3_30) rfl ((if0 _ _).trans (feq hw0).1) k)
  refine Gen.on (b := T2.setTop (mkF m 34 #[.val (.ref a1), .val (.ref a2), .val (.int (0 : Int32)), .val (.int p4), .val .null, .unset] [(.ref a2)])) ?_ (fun t k => XS.aloadN X2.here hx rfl (hb hby d3_33) rfl rfl k)
  refine Gen.on (b := T2.setTop (mkF m 35 #[.val (.ref a1), .val (.ref a2), .val (.int (0 : Int32)), .val (.int p4), .val .null, .unset] [(.int (0 : Int32)), (.ref a2)])) ?_ (fun t k => XS.iloadN X2.here hx rfl (hb hby d3_34) rfl k)
  refine Gen.on (b := T2.setTop (mkF m 36 #[.val (.ref a1), .val (.ref a2), .val (.int (0 : Int32)), .val (.int p4), .val .null, .unset] [(.int p4), (.int (0 : Int32)), (.ref a2)])) ?_ (fun t k => XS.iloadN X2.here hx rfl (hb hby d3_35) rfl k)
  obtain ⟨_, _, ⟨T4, L4, k4, n4⟩, -, X4, ⟨Lc4, hQ4, l4, y4, z4⟩, st4⟩ := Jvm.LawKit.callS X2 hx (y := (⟨"java/lang/StringUTF16", "compress", "([CII)[B"⟩ : MethodName)) hown (mvT hZ (hw _ (List.mem_of_getElem? (i := 19) rfl))) (mvT hZ (hw _ (List.mem_of_getElem? (i := 20) rfl))) (mvT hZ (hw _ (List.mem_of_getElem? (i := 21) rfl))) (mvT hZ (hw _ (List.mem_of_getElem? (i := 22) rfl))) (by decide) (backOf (W := 0) (rm5 l Z a0 hw [] a2 p4 y h0 n0 Z0 P3 hcap1 hy) hZ (hw _ (List.mem_of_getElem? (i := 22) rfl)) (hw _ (List.mem_of_getElem? (i := 21) rfl)) (by decide) (by decide)) (g := (mkF m 36 #[.val (.ref a1), .val (.ref a2), .val (.int (0 : Int32)), .val (.int p4), .val .null, .unset] [(.int p4), (.int (0 : Int32)), (.ref a2)])) rfl (by rw [hml]; rfl) (argsL := [(.ref a2), (.int (0 : Int32)), (.int p4)]) (rest := []) (lenOf pd_3_0 rfl) rfl (by show 2 * 0 + _ ≤ _; exact Nat.le_of_eq rfl) (hb hby d3_36) (fun _ _ => ⟨rfl, e2, (by decide : 0 + 1 ≤ _), (by decide : 0 + 2 ≤ _)⟩)
  dsimp only [Pt.U, Pt.locs, Pt.cells, Pt.slots] at X4 l4 y4 z4 st4 hQ4
  subst l4 y4 z4
  obtain ⟨xr4, rfl, N4q, Kc4, hge4, Yx4⟩ := hQ4
  have N4 := Fr.app N0 N4q
  have sz_xr4 := Nat.le_trans K0.1 hge4
  have ne_a1_xr4 : a1 ≠ xr4 := Nat.ne_of_lt (Nat.lt_of_lt_of_le P0.lt hge4)
  have ne_a2_xr4 : a2 ≠ xr4 := Nat.ne_of_lt (Nat.lt_of_lt_of_le P3.lt hge4)
  have Z4 : n0 ≤ T4.heap.size := Nat.le_trans Z0 Kc4.1
  have K4 : Keep h0 T4.heap [a1] := K0.trans Kc4 all0
  refine Gen.on (b := T4.setTop (mkF m 39 #[.val (.ref a1), .val (.ref a2), .val (.int (0 : Int32)), .val (.int p4), .val .null, .unset] [(.ref xr4)])) ?_ (fun t k => st4 t k)
  refine Gen.on (b := T4.setTop (mkF m 41 #[.val (.ref a1), .val (.ref a2), .val (.int (0 : Int32)), .val (.int p4), .val .null, .val (.ref xr4)] [])) ?_ (fun t k => XS.astore X4.here hx rfl (hb hby d3_39) rfl rfl (l' := #[.val (.ref a1), .val (.ref a2), .val (.int (0 : Int32)), .val (.int p4), .val .null, .val (.ref xr4)]) rfl k)
  refine Gen.on (b := T4.setTop (mkF m 42 #[.val (.ref a1), .val (.ref a2), .val (.int (0 : Int32)), .val (.int p4), .val .null, .val (.ref xr4)] [(.ref a1)])) ?_ (fun t k => XS.aloadN X4.here hx rfl (hb hby d3_41) rfl rfl k)
  refine Gen.on (b := T4.setTop (mkF m 44 #[.val (.ref a1), .val (.ref a2), .val (.int (0 : Int32)), .val (.int p4), .val .null, .val (.ref xr4)] [(.ref xr4), (.ref a1)])) ?_ (fun t k => XS.aload X4.here hx rfl (hb hby d3_42) rfl rfl k)
  refine Gen.on (b := T4.setTop (mkF m 45 #[.val (.ref a1), .val (.ref a2), .val (.int (0 : Int32)), .val (.int p4), .val .null, .val (.ref xr4)] [(.int p4), (.ref xr4), (.ref a1)])) ?_ (fun t k => XS.iloadN X4.here hx rfl (hb hby d3_44) rfl k)
  obtain ⟨_, _, ⟨T5, L5, k5, n5⟩, -, X5, ⟨Lc5, hQ5, l5, y5, z5⟩, st5⟩ := Jvm.LawKit.callS X4 hx (y := (⟨"java/lang/StringUTF16", "coderFromArrayLen", "([BI)B"⟩ : MethodName)) hown (mvT hZ (hw _ (List.mem_of_getElem? (i := 27) rfl))) (mvT hZ (hw _ (List.mem_of_getElem? (i := 28) rfl))) (mvT hZ (hw _ (List.mem_of_getElem? (i := 21) rfl))) (mvT hZ (hw _ (List.mem_of_getElem? (i := 29) rfl))) (by decide) (backOf (W := 1) (rm7 l Z a0 hw [] xr4 p4 p4 (fun j => own_b (y j)) (0 : Int32) T4.heap n0 Z4 Yx4 (own_cw0 p4)) hZ (hw _ (List.mem_of_getElem? (i := 29) rfl)) (hw _ (List.mem_of_getElem? (i := 21) rfl)) (by decide) (by decide)) (g := (mkF m 45 #[.val (.ref a1), .val (.ref a2), .val (.int (0 : Int32)), .val (.int p4), .val .null, .val (.ref xr4)] [(.int p4), (.ref xr4), (.ref a1)])) rfl (by rw [hml]; rfl) (argsL := [(.ref xr4), (.int p4)]) (rest := [(.ref a1)]) (lenOf pd_3_1 rfl) rfl (by show 2 * 0 + _ ≤ _; exact Nat.le_of_eq rfl) (hb hby d3_45) (fun _ _ => ⟨rfl, rfl, (by decide : 1 + 0 ≤ _), (by decide : 2 + 0 ≤ _)⟩)
  dsimp only [Pt.U, Pt.locs, Pt.cells, Pt.slots] at X5 l5 y5 z5 st5 hQ5
  subst l5 y5 z5
  obtain ⟨rfl, N5q, e5⟩ := hQ5
  have N5 := Fr.app N4 N5q
  refine Gen.on (b := T5.setTop (mkF m 48 #[.val (.ref a1), .val (.ref a2), .val (.int (0 : Int32)), .val (.int p4), .val .null, .val (.ref xr4)] [(.int (0 : Int32)), (.ref a1)])) ?_ (fun t k => st5 t k)
  have fa6 := (P2.keep Kc4 nin0)
  have fa7 := (P0.keep Kc4)
  obtain ⟨T8, h8, X8, e8, W8, st8⟩ := putFN X5 hx hZ hown (hw _ (List.mem_of_getElem? (i := 30) rfl)) Via.refl e5 fa6 fa7 (Or.inr ⟨(hw _ (List.mem_of_getElem? (i := 31) rfl)), rfl, hnm⟩) (hw _ (List.mem_of_getElem? (i := 5) rfl)) (ty := .byte) (v' := (.int (0 : Int32))) (by decide) rfl (by decide) (g := (mkF m 48 #[.val (.ref a1), .val (.ref a2), .val (.int (0 : Int32)), .val (.int p4), .val .null, .val (.ref xr4)] [(.int (0 : Int32)), (.ref a1)])) rfl rfl (hb hby d3_48)
  have Fw8 := fa6.same W8
  have Z8 : n0 ≤ h8.size := Nat.le_trans Z4 (Keep.of_wr W8).1
  have K8 : Keep h0 h8 [a1] := K4.wr W8 (Or.inl (List.mem_of_getElem? (i := 0) rfl))
  have N8 := Fr.snoc X8 N5 g_a1
  refine Gen.on (b := T8.setTop (mkF m 51 #[.val (.ref a1), .val (.ref a2), .val (.int (0 : Int32)), .val (.int p4), .val .null, .val (.ref xr4)] [])) ?_ (fun t k => st8 t k)
  refine Gen.on (b := T8.setTop (mkF m 52 #[.val (.ref a1), .val (.ref a2), .val (.int (0 : Int32)), .val (.int p4), .val .null, .val (.ref xr4)] [(.ref a1)])) ?_ (fun t k => XS.aloadN X8.here hx rfl (hb hby d3_51) rfl rfl k)
  refine Gen.on (b := T8.setTop (mkF m 54 #[.val (.ref a1), .val (.ref a2), .val (.int (0 : Int32)), .val (.int p4), .val .null, .val (.ref xr4)] [(.ref xr4), (.ref a1)])) ?_ (fun t k => XS.aload X8.here hx rfl (hb hby d3_52) rfl rfl k)
  have fa9 := ((P1.keep Kc4 nin0).other W8 (Or.inr (slot_ne (Or.inr (hw _ (List.mem_of_getElem? (i := 33) rfl))) (Or.inr (hw _ (List.mem_of_getElem? (i := 31) rfl))) (by decide) (t := (.array .byte)) (t' := .byte) (by decide) (by decide))))
  have fa10 := (fa7.wr W8)
  obtain ⟨T11, h11, X11, e11, W11, st11⟩ := putF X8 hx hZ hown (host := "") (Or.inl (hw _ (List.mem_of_getElem? (i := 32) rfl))) Via.refl e8 fa9 fa10 (Or.inr ⟨(hw _ (List.mem_of_getElem? (i := 33) rfl)), rfl, hnm⟩) (hw _ (List.mem_of_getElem? (i := 5) rfl)) (ty := (.array .byte)) (by decide) rfl rfl (g := (mkF m 54 #[.val (.ref a1), .val (.ref a2), .val (.int (0 : Int32)), .val (.int p4), .val .null, .val (.ref xr4)] [(.ref xr4), (.ref a1)])) rfl rfl (hb hby d3_54)
  have Fw11 := fa9.same W11
  have Z11 : n0 ≤ h11.size := Nat.le_trans Z8 (Keep.of_wr W11).1
  have K11 : Keep h0 h11 [a1] := K8.wr W11 (Or.inl (List.mem_of_getElem? (i := 0) rfl))
  have N11 := Fr.snoc X11 N8 g_a1
  refine Gen.on (b := T11.setTop (mkF m 57 #[.val (.ref a1), .val (.ref a2), .val (.int (0 : Int32)), .val (.int p4), .val .null, .val (.ref xr4)] [])) ?_ (fun t k => st11 t k)
  refine own_ret0 X11 hx Bd.returns (hb hby d3_57) (by decide) (by decide) ?_
  have fa12 := (fa10.wr W11)
  have fa13 := (Fw8.other W11 (Or.inr (slot_ne (Or.inr (hw _ (List.mem_of_getElem? (i := 31) rfl))) (Or.inr (hw _ (List.mem_of_getElem? (i := 33) rfl))) (by decide) (t := .byte) (t' := (.array .byte)) (by decide) (by decide))))
  have fa14 := ((Yx4.other W8 (Ne.symm ne_a1_xr4)).other W11 (Ne.symm ne_a1_xr4))
  show Q3 Z a1 a2 p4 u1 u2 y w0 h0 n0 _ T11.heap _
  rw [e11]
  exact ⟨rfl, N11, K11, fa12, ⟨xr4, Fw11, fa13, fa14⟩⟩

theorem d2_0 : decode jdk_42_method_3_code 0 = .ok (.aload_n 0, 1) := by decide +kernel
theorem d2_1 : decode jdk_42_method_3_code 1 = .ok (.aload_n 1, 1) := by decide +kernel
theorem d2_2 : decode jdk_42_method_3_code 2 = .ok (.iconst 0, 1) := by decide +kernel
theorem d2_3 : decode jdk_42_method_3_code 3 = .ok (.aload_n 1, 1) := by decide +kernel
theorem d2_4 : decode jdk_42_method_3_code 4 = .ok (.arraylength, 1) := by decide +kernel
theorem d2_5 : decode jdk_42_method_3_code 5 = .ok (.aconst_null, 1) := by decide +kernel
theorem d2_6 : decode jdk_42_method_3_code 6 = .ok (.invokespecial 27, 3) := by decide +kernel
theorem d2_9 : decode jdk_42_method_3_code 9 = .ok (.return_, 1) := by decide +kernel
theorem pn_2 : plainName "java/lang/String" = true := by first | (simp [plainName, overriddenIn]; done) | decide +kernel
theorem pd_2_0 : parseMethodDescriptor "([CIILjava/lang/Void;)V" = some ⟨[(.array .char), .int, .int, (.object "java/lang/Void")], none⟩ := by decide +kernel
theorem ef_2 (m : MethodId) (x0 : Addr) (x1 : Addr) : entryFrame m #[(.ref x0), (.ref x1)] 2 = mkF m 0 #[.val (.ref x0), .val (.ref x1)] [] := by first | (simp [entryFrame, mkF, argsToLocals, Value.category]; done) | rfl
def Q2 (Z : State) (a1 : Addr) (a2 : Addr) (u1 : Value) (u2 : Value) (zc : Int32) (y : Int32 → Int32) (w0 : Int32) (h0 : Heap) (n0 : Nat) (v : Option Value) (h : Heap) (L : List Loc) : Prop := v = none ∧ Fr n0 L ∧ Keep h0 h [a1] ∧ Exa Z h a1 "java/lang/String" ∧ Lat Z h a1 zc y
set_option maxRecDepth 65536 in
set_option maxHeartbeats 40000000 in
theorem rm2 (l : Launch) (Z : State) (a0 : Array Value) (hw : ∀ d ∈ tables_1, d.before a0 Z = true) (wds : List Jvm.Cond) (a1 : Addr) (a2 : Addr) (u1 : Value) (u2 : Value) (zc : Int32) (y : Int32 → Int32) (w0 : Int32) (h0 : Heap) (n0 : Nat) (Z0 : n0 ≤ h0.size) (P0 : Exa Z h0 a1 "java/lang/String") (P1 : Fld Z h0 a1 "java/lang/String" "value" "[B" u1) (P2 : Fld Z h0 a1 "java/lang/String" "coder" "B" u2) (P3 : Afn Z h0 a2 .char zc y) (P4 : Old Z n0 h0) (g_a1 : n0 ≤ a1) (sts : Sts Z w0) (hcap1 : zc.toNatClampNeg ≤ 2) (hy : ∀ j : Int32, ¬ j < 0 → j < zc → ¬ y j < 0 ∧ ¬ (255 : Int32) < y j) (hne0 : ¬ zc = (0 : Int32)) :
    MetFree l (⟨"java/lang/String", "<init>", "([C)V"⟩ : MethodName) (head1 (Jvm.Cond.code (⟨"java/lang/String", "<init>", "([C)V"⟩ : MethodName) jdk_42_method_3_code 2 none :: wds) ({ frames := 3, cells := 1, slots := 2, locals := 54 } : Room)) (fun a U => a = #[(.ref a1), (.ref a2)] ∧ Z.Warmed39 U.vm ∧ U.heap = h0) (fun _ _ _ _ _ => True) (fun _ U o U' => ∃ v L, o = .returned v ∧ Q2 Z a1 a2 u1 u2 zc y w0 h0 n0 v U'.heap L ∧ FrameEnd U o U' L ({ frames := 3, cells := 1, slots := 2, locals := 54 } : Room).cells ({ frames := 3, cells := 1, slots := 2, locals := 54 } : Room).slots) := by
  refine MetFree.of_bodySF (plainFor_of_name pn_2) hisR ?_
  intro p e s m args below meth c s₁ Bd hml0 hP hK
  obtain ⟨rfl, hZ, hh⟩ := hP
  have hx := Bd.exec
  have hby := Bd.bytes
  have hml : c.maxLocals = 2 := hml0
  have hown : s.vm.findClass "java/lang/String" = some m.cls := findClass_of_methodNamed Bd.named
  have hnm := (name_of_methodNamed Bd.named Bd.method).1
  have X0 : Stand p l e ({ frames := 3, cells := 1, slots := 2, locals := 54 } : Room) s m #[(.ref a1), (.ref a2)] below meth c s₁ [] 0 0 := Stand.of_body Bd
  have e0 : s₁.heap = h0 := by rw [← hh, Bd.state]; rfl
  have N0 := Fr.nil n0
  refine own_start (Q := Q2 Z a1 a2 u1 u2 zc y w0 h0 n0) (C := ({ frames := 3, cells := 1, slots := 2, locals := 54 } : Room).cells) (S := ({ frames := 3, cells := 1, slots := 2, locals := 54 } : Room).slots) ?_
  rw [ef_2 m a1 a2]
  have K0 : Keep h0 h0 [a1] := Keep.refl h0 [a1]
  obtain ⟨SC, hw0⟩ := id sts
  refine Gen.on (b := s₁.setTop (mkF m 1 #[.val (.ref a1), .val (.ref a2)] [(.ref a1)])) ?_ (fun t k => XS.aloadN X0.here hx rfl (hb hby d2_0) rfl rfl k)
  refine Gen.on (b := s₁.setTop (mkF m 2 #[.val (.ref a1), .val (.ref a2)] [(.ref a2), (.ref a1)])) ?_ (fun t k => XS.aloadN X0.here hx rfl (hb hby d2_1) rfl rfl k)
  refine Gen.on (b := s₁.setTop (mkF m 3 #[.val (.ref a1), .val (.ref a2)] [(.int (0 : Int32)), (.ref a2), (.ref a1)])) ?_ (fun t k => XS.iconst X0.here hx rfl (hb hby d2_2) k)
  refine Gen.on (b := s₁.setTop (mkF m 4 #[.val (.ref a1), .val (.ref a2)] [(.ref a2), (.int (0 : Int32)), (.ref a2), (.ref a1)])) ?_ (fun t k => XS.aloadN X0.here hx rfl (hb hby d2_3) rfl rfl k)
  obtain ⟨cl1, Ar1, SA1, NA1, HA1⟩ := id P3
  refine Gen.on (b := s₁.setTop (mkF m 5 #[.val (.ref a1), .val (.ref a2)] [(.int zc), (.int (0 : Int32)), (.ref a2), (.ref a1)])) ?_ (fun t k => X0.arraylength hx (by rw [e0]; exact Ar1.1) (State.isArrayOf_alike hZ.alike Ar1.2.1) (g := (mkF m 4 #[.val (.ref a1), .val (.ref a2)] [(.ref a2), (.int (0 : Int32)), (.ref a2), (.ref a1)])) rfl rfl (hb hby d2_4) t (by rw [len_of SA1 NA1]; exact k))
  refine Gen.on (b := s₁.setTop (mkF m 6 #[.val (.ref a1), .val (.ref a2)] [.null, (.int zc), (.int (0 : Int32)), (.ref a2), (.ref a1)])) ?_ (fun t k => XS.aconstNull X0.here hx rfl (hb hby d2_5) k)
  obtain ⟨_, _, ⟨T2, L2, k2, n2⟩, -, X2, ⟨Lc2, hQ2, l2, y2, z2⟩, st2⟩ := X0.specialBack hx (y := (⟨"java/lang/String", "<init>", "([CIILjava/lang/Void;)V"⟩ : MethodName)) rfl hown (mvT hZ (hw _ (List.mem_of_getElem? (i := 11) rfl))) (mvT hZ (hw _ (List.mem_of_getElem? (i := 12) rfl))) (mvT hZ (hw _ (List.mem_of_getElem? (i := 14) rfl))) (by decide) (backOf (W := 0) (rm3 l Z a0 hw [] a1 a2 zc u1 u2 y w0 h0 n0 Z0 P0 P1 P2 P3 P4 g_a1 (sts) (hcap1) (hy) (hne0)) hZ (hw _ (List.mem_of_getElem? (i := 14) rfl)) (hw _ (List.mem_of_getElem? (i := 6) rfl)) (by decide) (by decide)) (g := (mkF m 6 #[.val (.ref a1), .val (.ref a2)] [.null, (.int zc), (.int (0 : Int32)), (.ref a2), (.ref a1)])) rfl (by rw [hml]; rfl) (Steps.refl _) (a := a1) (argsL := [(.ref a2), (.int (0 : Int32)), (.int zc), .null]) (rest := []) (lenOf pd_2_0 rfl) rfl (by show 2 * 0 + _ ≤ _; exact Nat.le_of_eq rfl) (hb hby d2_6) (fun _ _ => ⟨rfl, e0, (by decide : 0 + 1 ≤ _), (by decide : 0 + 2 ≤ _)⟩)
  dsimp only [Pt.U, Pt.locs, Pt.cells, Pt.slots] at X2 l2 y2 z2 st2 hQ2
  subst l2 y2 z2
  obtain ⟨rfl, N2q, Kc2, hf2_0, hf2_1⟩ := hQ2
  have N2 := Fr.app N0 N2q
  have Z2 : n0 ≤ T2.heap.size := Nat.le_trans Z0 Kc2.1
  have K2 : Keep h0 T2.heap [a1] := K0.trans Kc2 (allS (Or.inl (List.mem_of_getElem? (i := 0) rfl)) all0)
  refine Gen.on (b := T2.setTop (mkF m 9 #[.val (.ref a1), .val (.ref a2)] [])) ?_ (fun t k => st2.trans k)
  refine own_ret0 X2 hx Bd.returns (hb hby d2_9) (by decide) (by decide) ?_
  show Q2 Z a1 a2 u1 u2 zc y w0 h0 n0 _ T2.heap _
  exact ⟨rfl, N2, K2, hf2_0, hf2_1⟩

theorem d3z_0 : decode jdk_42_method_149_code 0 = .ok (.aload_n 0, 1) := by decide +kernel
theorem d3z_1 : decode jdk_42_method_149_code 1 = .ok (.invokespecial 1, 3) := by decide +kernel
theorem d3z_4 : decode jdk_42_method_149_code 4 = .ok (.iload_n 3, 1) := by decide +kernel
theorem d3z_5 : decode jdk_42_method_149_code 5 = .ok (.ifCond .ne 22, 3) := by decide +kernel
theorem d3z_8 : decode jdk_42_method_149_code 8 = .ok (.aload_n 0, 1) := by decide +kernel
theorem d3z_9 : decode jdk_42_method_149_code 9 = .ok (.ldc 7, 2) := by decide +kernel
theorem d3z_11 : decode jdk_42_method_149_code 11 = .ok (.getfield 9, 3) := by decide +kernel
theorem d3z_14 : decode jdk_42_method_149_code 14 = .ok (.putfield 9, 3) := by decide +kernel
theorem d3z_17 : decode jdk_42_method_149_code 17 = .ok (.aload_n 0, 1) := by decide +kernel
theorem d3z_18 : decode jdk_42_method_149_code 18 = .ok (.ldc 7, 2) := by decide +kernel
theorem d3z_20 : decode jdk_42_method_149_code 20 = .ok (.getfield 15, 3) := by decide +kernel
theorem d3z_23 : decode jdk_42_method_149_code 23 = .ok (.putfield 15, 3) := by decide +kernel
theorem d3z_26 : decode jdk_42_method_149_code 26 = .ok (.return_, 1) := by decide +kernel
theorem pn_3z : plainName "java/lang/String" = true := by first | (simp [plainName, overriddenIn]; done) | decide +kernel
theorem ef_3z (m : MethodId) (x0 : Addr) (x1 : Addr) (x2 : Int32) (x3 : Int32) : entryFrame m #[(.ref x0), (.ref x1), (.int x2), (.int x3), .null] 6 = mkF m 0 #[.val (.ref x0), .val (.ref x1), .val (.int x2), .val (.int x3), .val .null, .unset] [] := by first | (simp [entryFrame, mkF, argsToLocals, Value.category]; done) | rfl
def Q3z (Z : State) (a1 : Addr) (a2 : Addr) (u2 : Value) (y : Int32 → Int32) (h0 : Heap) (n0 : Nat) (v : Option Value) (h : Heap) (L : List Loc) : Prop := v = none ∧ Fr n0 L ∧ Keep h0 h [a1] ∧ Exa Z h a1 "java/lang/String" ∧ Lat Z h a1 (0 : Int32) y
set_option maxRecDepth 65536 in
set_option maxHeartbeats 40000000 in
theorem rm3z (l : Launch) (Z : State) (a0 : Array Value) (hw : ∀ d ∈ tables_1, d.before a0 Z = true) (wds : List Jvm.Cond) (a1 : Addr) (a2 : Addr) (u2 : Value) (y : Int32 → Int32) (h0 : Heap) (n0 : Nat) (Z0 : n0 ≤ h0.size) (P0 : Exa Z h0 a1 "java/lang/String") (P1 : Fld Z h0 a1 "java/lang/String" "value" "[B" .null) (P2 : Fld Z h0 a1 "java/lang/String" "coder" "B" u2) (g_a1 : n0 ≤ a1) :
    MetFree l (⟨"java/lang/String", "<init>", "([CIILjava/lang/Void;)V"⟩ : MethodName) (head1 (Jvm.Cond.code (⟨"java/lang/String", "<init>", "([CIILjava/lang/Void;)V"⟩ : MethodName) jdk_42_method_149_code 6 none :: wds) ({ frames := 1, cells := 4, slots := 8, locals := 12 } : Room)) (fun a U => a = #[(.ref a1), (.ref a2), (.int (0 : Int32)), (.int (0 : Int32)), .null] ∧ Z.Warmed39 U.vm ∧ U.heap = h0 ∧ CHv Z consts_1 U.vm h0) (fun _ _ _ _ _ => True) (fun _ U o U' => ∃ v L, o = .returned v ∧ Q3z Z a1 a2 u2 y h0 n0 v U'.heap L ∧ CHr Z consts_1 U.vm U.heap U'.vm U'.heap ∧ ReturnedEndW U o U' L ({ frames := 1, cells := 4, slots := 8, locals := 12 } : Room).cells ({ frames := 1, cells := 4, slots := 8, locals := 12 } : Room).slots) := by
  refine MetFree.of_bodySF (plainFor_of_name pn_3z) hisR ?_
  intro p e s m args below meth c s₁ Bd hml0 hP hK
  obtain ⟨rfl, hZ, hh, CHs⟩ := hP
  have hx := Bd.exec
  have hby := Bd.bytes
  have hml : c.maxLocals = 6 := hml0
  have hown : s.vm.findClass "java/lang/String" = some m.cls := findClass_of_methodNamed Bd.named
  have hnm := (name_of_methodNamed Bd.named Bd.method).1
  have hZ : Z.Warmed39 (s.setVm s.vm).vm := hZ
  have hown : (s.setVm s.vm).vm.findClass "java/lang/String" = some m.cls := hown
  have X0 : Stand p l e ({ frames := 1, cells := 4, slots := 8, locals := 12 } : Room) (s.setVm s.vm) m #[(.ref a1), (.ref a2), (.int (0 : Int32)), (.int (0 : Int32)), .null] below meth c s₁ [] 0 0 := Stand.of_body Bd
  have e0 : s₁.heap = h0 := by rw [← hh, Bd.state]; rfl
  have N0 := Fr.nil n0
  have hEL : EW Z a0 consts_1 := own_hEL hw
  have wS := own_wS hw
  have hS0 : s.Since s.vm h0.size := (State.WarmedH.refl s).since _
  have hk0 : h0.size ≤ h0.size := Nat.le_refl _
  have CH0 : CHr Z consts_1 s.vm h0 s.vm h0 := CHr.refl CHs
  refine ownS_start (Z := Z) (EL := consts_1) (Q := Q3z Z a1 a2 u2 y h0 n0) (C := ({ frames := 1, cells := 4, slots := 8, locals := 12 } : Room).cells) (S := ({ frames := 1, cells := 4, slots := 8, locals := 12 } : Room).slots) ?_
  rw [ef_3z m a1 a2 (0 : Int32) (0 : Int32)]
  have K0 : Keep h0 h0 [a1] := Keep.refl h0 [a1]
  have sfa1 : Safe Z consts_1 s.vm h0 a1 := own_safe_null hZ.alike P0 P1
  refine Gen.on (b := s₁.setTop (mkF m 1 #[.val (.ref a1), .val (.ref a2), .val (.int (0 : Int32)), .val (.int (0 : Int32)), .val .null, .unset] [(.ref a1)])) ?_ (fun t k => XS.aloadN X0.here hx rfl (hb hby d3z_0) rfl rfl k)
  obtain ⟨T1, X1, e1, st1⟩ := initO X0 hx hZ hown (hw _ (List.mem_of_getElem? (i := 15) rfl)) (hw _ (List.mem_of_getElem? (i := 16) rfl)) (hw _ (List.mem_of_getElem? (i := 17) rfl)) e0 (g := (mkF m 1 #[.val (.ref a1), .val (.ref a2), .val (.int (0 : Int32)), .val (.int (0 : Int32)), .val .null, .unset] [(.ref a1)])) rfl (by rw [hml]; rfl) rfl (hb hby d3z_1) (by decide) (W := 0) (by show 2 * 0 + _ ≤ _; exact Nat.le_of_eq rfl) (by decide)
  refine Gen.on (b := T1.setTop (mkF m 4 #[.val (.ref a1), .val (.ref a2), .val (.int (0 : Int32)), .val (.int (0 : Int32)), .val .null, .unset] [])) ?_ (fun t k => st1 t k)
  refine Gen.on (b := T1.setTop (mkF m 5 #[.val (.ref a1), .val (.ref a2), .val (.int (0 : Int32)), .val (.int (0 : Int32)), .val .null, .unset] [(.int (0 : Int32))])) ?_ (fun t k => XS.iloadN X1.here hx rfl (hb hby d3z_4) rfl k)
  refine Gen.on (b := T1.setTop (mkF m 8 #[.val (.ref a1), .val (.ref a2), .val (.int (0 : Int32)), .val (.int (0 : Int32)), .val .null, .unset] [])) ?_ (fun t k => XS.ifNo X1.here hx rfl (hb hby d3z_5) rfl ((if0 _ _).trans (teq (by decide : (0 : Int32) = (0 : Int32))).2) k)
  refine Gen.on (b := T1.setTop (mkF m 9 #[.val (.ref a1), .val (.ref a2), .val (.int (0 : Int32)), .val (.int (0 : Int32)), .val .null, .unset] [(.ref a1)])) ?_ (fun t k => XS.aloadN X1.here hx rfl (hb hby d3z_8) rfl rfl k)
  obtain ⟨la2, T2, h2, k1_2, lb2, lk2, X2, e2, E2, hS2, hk2, hZ, hown, lE2, lC2, lV2, lA2, -, -, CHc2, -, lne2, st2⟩ := ldcCH X1 hx hZ hown (hw _ (List.mem_of_getElem? (i := 34) rfl)) wS e1 hS0 hk0 hEL (List.mem_of_getElem? (i := 1) rfl) CH0.1 (vs := []) (z := 0) (by simp) (by decide) rfl (g := (mkF m 9 #[.val (.ref a1), .val (.ref a2), .val (.int (0 : Int32)), .val (.int (0 : Int32)), .val .null, .unset] [(.ref a1)])) rfl (hb hby d3z_9) (n := 0) (by simp) (by decide) (by decide) (by decide)
  have sf2_a1 := CHr.safe CHc2 P0.lt sfa1
  have CH2 := CHr.trans CH0 CHc2
  have Z2 : n0 ≤ h2.size := Nat.le_trans Z0 E2.1
  have K2 : Keep h0 h2 [a1] := K0.ext E2
  have ne_a1_la2 := (lne2 _ sf2_a1).1
  have ne_a1_lb2 := (lne2 _ sf2_a1).2
  refine Gen.on (b := T2.setTop (mkF m 11 #[.val (.ref a1), .val (.ref a2), .val (.int (0 : Int32)), .val (.int (0 : Int32)), .val .null, .unset] [(.ref la2), (.ref a1)])) ?_ (fun t k => st2 t k)
  obtain ⟨T3, X3, e3, st3⟩ := getF X2 hx hZ hown (host := "") (Or.inl (hw _ (List.mem_of_getElem? (i := 32) rfl))) Via.refl e2 lV2 (g := (mkF m 11 #[.val (.ref a1), .val (.ref a2), .val (.int (0 : Int32)), .val (.int (0 : Int32)), .val .null, .unset] [(.ref la2), (.ref a1)])) rfl rfl (hb hby d3z_11)
  refine Gen.on (b := T3.setTop (mkF m 14 #[.val (.ref a1), .val (.ref a2), .val (.int (0 : Int32)), .val (.int (0 : Int32)), .val .null, .unset] [(.ref lb2), (.ref a1)])) ?_ (fun t k => st3 t k)
  have fa4 := (P1.ext E2)
  have fa5 := (P0.ext E2)
  obtain ⟨T6, h6, X6, e6, W6, st6⟩ := putF X3 hx hZ hown (host := "") (Or.inl (hw _ (List.mem_of_getElem? (i := 32) rfl))) Via.refl e3 fa4 fa5 (Or.inr ⟨(hw _ (List.mem_of_getElem? (i := 33) rfl)), rfl, hnm⟩) (hw _ (List.mem_of_getElem? (i := 5) rfl)) (ty := (.array .byte)) (by decide) rfl rfl (g := (mkF m 14 #[.val (.ref a1), .val (.ref a2), .val (.int (0 : Int32)), .val (.int (0 : Int32)), .val .null, .unset] [(.ref lb2), (.ref a1)])) rfl rfl (hb hby d3z_14)
  have Fw6 := fa4.same W6
  have sf7_a1 := Safe.wr W6 sf2_a1 CH2.1 sf2_a1
  have CH7 := CHr.trans CH2 (CHr.wr W6 sf2_a1 CH2.1)
  have hk7 := Nat.le_trans hk2 (Keep.of_wr W6).1
  have Z6 : n0 ≤ h6.size := Nat.le_trans Z2 (Keep.of_wr W6).1
  have K6 : Keep h0 h6 [a1] := K2.wr W6 (Or.inl (List.mem_of_getElem? (i := 0) rfl))
  have N6 := Fr.snoc X6 N0 g_a1
  refine Gen.on (b := T6.setTop (mkF m 17 #[.val (.ref a1), .val (.ref a2), .val (.int (0 : Int32)), .val (.int (0 : Int32)), .val .null, .unset] [])) ?_ (fun t k => st6 t k)
  refine Gen.on (b := T6.setTop (mkF m 18 #[.val (.ref a1), .val (.ref a2), .val (.int (0 : Int32)), .val (.int (0 : Int32)), .val .null, .unset] [(.ref a1)])) ?_ (fun t k => XS.aloadN X6.here hx rfl (hb hby d3z_17) rfl rfl k)
  obtain ⟨la8, T8, h8, k1_8, lb8, lk8, X8, e8, E8, hS8, hk8, hZ, hown, lE8, lC8, lV8, lA8, -, -, CHc8, -, lne8, st8⟩ := ldcCH X6 hx hZ hown (hw _ (List.mem_of_getElem? (i := 34) rfl)) wS e6 hS2 hk7 hEL (List.mem_of_getElem? (i := 1) rfl) CH7.1 (vs := []) (z := 0) (by simp) (by decide) rfl (g := (mkF m 18 #[.val (.ref a1), .val (.ref a2), .val (.int (0 : Int32)), .val (.int (0 : Int32)), .val .null, .unset] [(.ref a1)])) rfl (hb hby d3z_18) (n := 0) (by simp) (by decide) (by decide) (by decide)
  have fa9 := (fa5.wr W6)
  have sf8_a1 := CHr.safe CHc8 fa9.lt sf7_a1
  have CH8 := CHr.trans CH7 CHc8
  have Z8 : n0 ≤ h8.size := Nat.le_trans Z6 E8.1
  have K8 : Keep h0 h8 [a1] := K6.ext E8
  have ne_a1_la8 := (lne8 _ sf8_a1).1
  have ne_a1_lb8 := (lne8 _ sf8_a1).2
  refine Gen.on (b := T8.setTop (mkF m 20 #[.val (.ref a1), .val (.ref a2), .val (.int (0 : Int32)), .val (.int (0 : Int32)), .val .null, .unset] [(.ref la8), (.ref a1)])) ?_ (fun t k => st8 t k)
  obtain ⟨T10, X10, e10, st10⟩ := getF X8 hx hZ hown (host := "") (Or.inl (hw _ (List.mem_of_getElem? (i := 30) rfl))) Via.refl e8 lC8 (g := (mkF m 20 #[.val (.ref a1), .val (.ref a2), .val (.int (0 : Int32)), .val (.int (0 : Int32)), .val .null, .unset] [(.ref la8), (.ref a1)])) rfl rfl (hb hby d3z_20)
  refine Gen.on (b := T10.setTop (mkF m 23 #[.val (.ref a1), .val (.ref a2), .val (.int (0 : Int32)), .val (.int (0 : Int32)), .val .null, .unset] [(.int (0 : Int32)), (.ref a1)])) ?_ (fun t k => st10 t k)
  have fa11 := (((P2.ext E2).other W6 (Or.inr (slot_ne (Or.inr (hw _ (List.mem_of_getElem? (i := 31) rfl))) (Or.inr (hw _ (List.mem_of_getElem? (i := 33) rfl))) (by decide) (t := .byte) (t' := (.array .byte)) (by decide) (by decide)))).ext E8)
  have fa12 := (fa9.ext E8)
  obtain ⟨T13, h13, X13, e13, W13, st13⟩ := putFN X10 hx hZ hown (hw _ (List.mem_of_getElem? (i := 30) rfl)) Via.refl e10 fa11 fa12 (Or.inr ⟨(hw _ (List.mem_of_getElem? (i := 31) rfl)), rfl, hnm⟩) (hw _ (List.mem_of_getElem? (i := 5) rfl)) (ty := .byte) (v' := (.int (0 : Int32))) (by decide) rfl (by decide) (g := (mkF m 23 #[.val (.ref a1), .val (.ref a2), .val (.int (0 : Int32)), .val (.int (0 : Int32)), .val .null, .unset] [(.int (0 : Int32)), (.ref a1)])) rfl rfl (hb hby d3z_23)
  have Fw13 := fa11.same W13
  have sf14_a1 := Safe.wr W13 sf8_a1 CH8.1 sf8_a1
  have CH14 := CHr.trans CH8 (CHr.wr W13 sf8_a1 CH8.1)
  have hk14 := Nat.le_trans hk8 (Keep.of_wr W13).1
  have Z13 : n0 ≤ h13.size := Nat.le_trans Z8 (Keep.of_wr W13).1
  have K13 : Keep h0 h13 [a1] := K8.wr W13 (Or.inl (List.mem_of_getElem? (i := 0) rfl))
  have N13 := Fr.snoc X13 N6 g_a1
  refine Gen.on (b := T13.setTop (mkF m 26 #[.val (.ref a1), .val (.ref a2), .val (.int (0 : Int32)), .val (.int (0 : Int32)), .val .null, .unset] [])) ?_ (fun t k => st13 t k)
  refine ownS_ret0 X13 hh hS8 e13 hk14 hZ hEL CH14 hx Bd.returns (hb hby d3z_26) (by decide) (by decide) ?_
  have fa15 := (fa12.wr W13)
  have fa16 := (((lA2.other W6 (Ne.symm ne_a1_lb2)).ext E8).other W13 (Ne.symm ne_a1_lb2))
  have fa17 := ((Fw6.ext E8).other W13 (Or.inr (slot_ne (Or.inr (hw _ (List.mem_of_getElem? (i := 33) rfl))) (Or.inr (hw _ (List.mem_of_getElem? (i := 31) rfl))) (by decide) (t := (.array .byte)) (t' := .byte) (by decide) (by decide))))
  show Q3z Z a1 a2 u2 y h0 n0 _ T13.heap _
  rw [e13]
  exact ⟨rfl, N13, K13, fa15, ⟨lb2, fa17, Fw13, own_afn0 fa16 _⟩⟩

theorem d2z_0 : decode jdk_42_method_3_code 0 = .ok (.aload_n 0, 1) := by decide +kernel
theorem d2z_1 : decode jdk_42_method_3_code 1 = .ok (.aload_n 1, 1) := by decide +kernel
theorem d2z_2 : decode jdk_42_method_3_code 2 = .ok (.iconst 0, 1) := by decide +kernel
theorem d2z_3 : decode jdk_42_method_3_code 3 = .ok (.aload_n 1, 1) := by decide +kernel
theorem d2z_4 : decode jdk_42_method_3_code 4 = .ok (.arraylength, 1) := by decide +kernel
theorem d2z_5 : decode jdk_42_method_3_code 5 = .ok (.aconst_null, 1) := by decide +kernel
theorem d2z_6 : decode jdk_42_method_3_code 6 = .ok (.invokespecial 27, 3) := by decide +kernel
theorem d2z_9 : decode jdk_42_method_3_code 9 = .ok (.return_, 1) := by decide +kernel
theorem pn_2z : plainName "java/lang/String" = true := by first | (simp [plainName, overriddenIn]; done) | decide +kernel
theorem pd_2z_0 : parseMethodDescriptor "([CIILjava/lang/Void;)V" = some ⟨[(.array .char), .int, .int, (.object "java/lang/Void")], none⟩ := by decide +kernel
theorem ef_2z (m : MethodId) (x0 : Addr) (x1 : Addr) : entryFrame m #[(.ref x0), (.ref x1)] 2 = mkF m 0 #[.val (.ref x0), .val (.ref x1)] [] := by first | (simp [entryFrame, mkF, argsToLocals, Value.category]; done) | rfl
def Q2z (Z : State) (a1 : Addr) (a2 : Addr) (u2 : Value) (y0 : Int32 → Int32) (y : Int32 → Int32) (h0 : Heap) (n0 : Nat) (v : Option Value) (h : Heap) (L : List Loc) : Prop := v = none ∧ Fr n0 L ∧ Keep h0 h [a1] ∧ Exa Z h a1 "java/lang/String" ∧ Lat Z h a1 (0 : Int32) y
set_option maxRecDepth 65536 in
set_option maxHeartbeats 40000000 in
theorem rm2z (l : Launch) (Z : State) (a0 : Array Value) (hw : ∀ d ∈ tables_1, d.before a0 Z = true) (wds : List Jvm.Cond) (a1 : Addr) (a2 : Addr) (u2 : Value) (y0 : Int32 → Int32) (y : Int32 → Int32) (h0 : Heap) (n0 : Nat) (Z0 : n0 ≤ h0.size) (P0 : Exa Z h0 a1 "java/lang/String") (P1 : Fld Z h0 a1 "java/lang/String" "value" "[B" .null) (P2 : Fld Z h0 a1 "java/lang/String" "coder" "B" u2) (P3 : Afn Z h0 a2 .char (0 : Int32) y0) (g_a1 : n0 ≤ a1) :
    MetFree l (⟨"java/lang/String", "<init>", "([C)V"⟩ : MethodName) (head1 (Jvm.Cond.code (⟨"java/lang/String", "<init>", "([C)V"⟩ : MethodName) jdk_42_method_3_code 2 none :: wds) ({ frames := 2, cells := 4, slots := 8, locals := 29 } : Room)) (fun a U => a = #[(.ref a1), (.ref a2)] ∧ Z.Warmed39 U.vm ∧ U.heap = h0 ∧ CHv Z consts_1 U.vm h0) (fun _ _ _ _ _ => True) (fun _ U o U' => ∃ v L, o = .returned v ∧ Q2z Z a1 a2 u2 y0 y h0 n0 v U'.heap L ∧ CHr Z consts_1 U.vm U.heap U'.vm U'.heap ∧ ReturnedEndW U o U' L ({ frames := 2, cells := 4, slots := 8, locals := 29 } : Room).cells ({ frames := 2, cells := 4, slots := 8, locals := 29 } : Room).slots) := by
  refine MetFree.of_bodySF (plainFor_of_name pn_2z) hisR ?_
  intro p e s m args below meth c s₁ Bd hml0 hP hK
  obtain ⟨rfl, hZ, hh, CHs⟩ := hP
  have hx := Bd.exec
  have hby := Bd.bytes
  have hml : c.maxLocals = 2 := hml0
  have hown : s.vm.findClass "java/lang/String" = some m.cls := findClass_of_methodNamed Bd.named
  have hnm := (name_of_methodNamed Bd.named Bd.method).1
  have hZ : Z.Warmed39 (s.setVm s.vm).vm := hZ
  have hown : (s.setVm s.vm).vm.findClass "java/lang/String" = some m.cls := hown
  have X0 : Stand p l e ({ frames := 2, cells := 4, slots := 8, locals := 29 } : Room) (s.setVm s.vm) m #[(.ref a1), (.ref a2)] below meth c s₁ [] 0 0 := Stand.of_body Bd
  have e0 : s₁.heap = h0 := by rw [← hh, Bd.state]; rfl
  have N0 := Fr.nil n0
  have hEL : EW Z a0 consts_1 := own_hEL hw
  have wS := own_wS hw
  have hS0 : s.Since s.vm h0.size := (State.WarmedH.refl s).since _
  have hk0 : h0.size ≤ h0.size := Nat.le_refl _
  have CH0 : CHr Z consts_1 s.vm h0 s.vm h0 := CHr.refl CHs
  refine ownS_start (Z := Z) (EL := consts_1) (Q := Q2z Z a1 a2 u2 y0 y h0 n0) (C := ({ frames := 2, cells := 4, slots := 8, locals := 29 } : Room).cells) (S := ({ frames := 2, cells := 4, slots := 8, locals := 29 } : Room).slots) ?_
  rw [ef_2z m a1 a2]
  have K0 : Keep h0 h0 [a1] := Keep.refl h0 [a1]
  refine Gen.on (b := s₁.setTop (mkF m 1 #[.val (.ref a1), .val (.ref a2)] [(.ref a1)])) ?_ (fun t k => XS.aloadN X0.here hx rfl (hb hby d2z_0) rfl rfl k)
  refine Gen.on (b := s₁.setTop (mkF m 2 #[.val (.ref a1), .val (.ref a2)] [(.ref a2), (.ref a1)])) ?_ (fun t k => XS.aloadN X0.here hx rfl (hb hby d2z_1) rfl rfl k)
  refine Gen.on (b := s₁.setTop (mkF m 3 #[.val (.ref a1), .val (.ref a2)] [(.int (0 : Int32)), (.ref a2), (.ref a1)])) ?_ (fun t k => XS.iconst X0.here hx rfl (hb hby d2z_2) k)
  refine Gen.on (b := s₁.setTop (mkF m 4 #[.val (.ref a1), .val (.ref a2)] [(.ref a2), (.int (0 : Int32)), (.ref a2), (.ref a1)])) ?_ (fun t k => XS.aloadN X0.here hx rfl (hb hby d2z_3) rfl rfl k)
  obtain ⟨cl1, Ar1, SA1, NA1, HA1⟩ := id P3
  refine Gen.on (b := s₁.setTop (mkF m 5 #[.val (.ref a1), .val (.ref a2)] [(.int (0 : Int32)), (.int (0 : Int32)), (.ref a2), (.ref a1)])) ?_ (fun t k => X0.arraylength hx (by rw [e0]; exact Ar1.1) (State.isArrayOf_alike hZ.alike Ar1.2.1) (g := (mkF m 4 #[.val (.ref a1), .val (.ref a2)] [(.ref a2), (.int (0 : Int32)), (.ref a2), (.ref a1)])) rfl rfl (hb hby d2z_4) t (by rw [len_of SA1 NA1]; exact k))
  refine Gen.on (b := s₁.setTop (mkF m 6 #[.val (.ref a1), .val (.ref a2)] [.null, (.int (0 : Int32)), (.int (0 : Int32)), (.ref a2), (.ref a1)])) ?_ (fun t k => XS.aconstNull X0.here hx rfl (hb hby d2z_5) k)
  obtain ⟨_, _, ⟨T2, L2, k2, n2⟩, -, X2, hSc2, gr2, ⟨Lc2, hQ2, l2, y2, z2, CHc2⟩, st2⟩ := X0.specialBackS hx (y := (⟨"java/lang/String", "<init>", "([CIILjava/lang/Void;)V"⟩ : MethodName)) rfl hown (mvT hZ (hw _ (List.mem_of_getElem? (i := 11) rfl))) (mvT hZ (hw _ (List.mem_of_getElem? (i := 12) rfl))) (mvT hZ (hw _ (List.mem_of_getElem? (i := 14) rfl))) (by decide) (backOfSH (W := 0) (rm3z l Z a0 hw [] a1 a2 u2 y h0 n0 Z0 P0 P1 P2 g_a1) hZ (hw _ (List.mem_of_getElem? (i := 14) rfl)) (hw _ (List.mem_of_getElem? (i := 6) rfl)) (by decide) (by decide) hEL CH0.1) (g := (mkF m 6 #[.val (.ref a1), .val (.ref a2)] [.null, (.int (0 : Int32)), (.int (0 : Int32)), (.ref a2), (.ref a1)])) rfl (by rw [hml]; rfl) (Steps.refl _) (a := a1) (argsL := [(.ref a2), (.int (0 : Int32)), (.int (0 : Int32)), .null]) (rest := []) (lenOf pd_2z_0 rfl) rfl (by show 2 * 0 + _ ≤ _; exact Nat.le_of_eq rfl) (hb hby d2z_6) (fun _ _ => ⟨rfl, e0, (by decide : 0 + 4 ≤ _), (by decide : 0 + 8 ≤ _)⟩)
  dsimp only [Pt.U, Pt.locs, Pt.cells, Pt.slots] at X2 l2 y2 z2 st2 hQ2 hSc2 gr2 CHc2
  subst l2 y2 z2
  obtain ⟨X2, hS2, hZ, hown⟩ := rebS hS0 hk0 X2 hSc2 (Nat.le_trans (Nat.le_of_eq (congrArg Array.size e0).symm) gr2) hZ hown
  have CH2 := CHr.trans CH0 CHc2
  obtain ⟨rfl, N2q, Kc2, hf2_0, hf2_1⟩ := hQ2
  have N2 := Fr.app N0 N2q
  have Z2 : n0 ≤ T2.heap.size := Nat.le_trans Z0 Kc2.1
  have K2 : Keep h0 T2.heap [a1] := K0.trans Kc2 (allS (Or.inl (List.mem_of_getElem? (i := 0) rfl)) all0)
  refine Gen.on (b := T2.setTop (mkF m 9 #[.val (.ref a1), .val (.ref a2)] [])) ?_ (fun t k => st2.trans k)
  refine ownS_ret0 X2 hh hS2 rfl (Nat.le_refl T2.heap.size) hZ hEL CH2 hx Bd.returns (hb hby d2z_9) (by decide) (by decide) ?_
  show Q2z Z a1 a2 u2 y0 y h0 n0 _ T2.heap _
  exact ⟨rfl, N2, K2, hf2_0, hf2_1⟩

theorem own_noinst {Z : State} {a0 : Array Value} {C K : String} {n : Nat} (w : (Cond.superclass C "java/lang/Object").before a0 Z = true) (wo : (Cond.noSuperclass "java/lang/Object").before a0 Z = true) (wk : (Cond.instantiable K n).before a0 Z = true) (hn : C ≠ K) (ho : "java/lang/Object" ≠ K) : ∃ c t, Z.vm.findClass C = some c ∧ Z.vm.findClass K = some t ∧ Z.vm.assignable c t = false := by
  obtain ⟨t, k', g1, g2, g5, gi, -⟩ := Cond.instantiable_spec wk
  obtain ⟨co, ko, o1, o2, o3, -, -⟩ := Cond.noSuperclass_spec wo
  have neo := ids_ne o1 g1 ho
  have ns : NS Z "java/lang/Object" K := ⟨co, t, o1, g1, fun fuel => by
    cases fuel with
    | zero => rfl
    | succ f => simp [Vm.isSubclassAux, neo, o2, o3]⟩
  obtain ⟨c, t', h0, g0, n3⟩ := NS.step w ns hn
  cases g1.symm.trans g0
  obtain ⟨p, k, kp, h1, h2, h3, h4, h5, -, h7⟩ := Cond.superclass_spec h0 w
  have ne := ids_ne h0 g0 hn
  have gi' : k'.isInterface = false := by
    cases q : k'.isInterface with
    | false => rfl
    | true => rw [q] at gi; cases gi
  refine ⟨c, t, h0, g0, ?_⟩
  show Z.vm.assignableAux (255 + 1) c t = false
  simp [Vm.assignableAux, ne, h2, g2, h5, g5, gi', Vm.isSubclass, n3]


theorem d9_0 : decode jdk_30_method_1_code 0 = .ok (.aload_n 0, 1) := by decide +kernel
theorem d9_1 : decode jdk_30_method_1_code 1 = .ok (.invokespecial 1, 3) := by decide +kernel
theorem d9_4 : decode jdk_30_method_1_code 4 = .ok (.return_, 1) := by decide +kernel
theorem pn_9 : plainName "java/lang/Record" = true := by first | (simp [plainName, overriddenIn]; done) | decide +kernel
theorem ef_9 (m : MethodId) (x0 : Addr) : entryFrame m #[(.ref x0)] 1 = mkF m 0 #[.val (.ref x0)] [] := by first | (simp [entryFrame, mkF, argsToLocals, Value.category]; done) | rfl
def Q9 (Z : State) (a1 : Addr) (h0 : Heap) (n0 : Nat) (v : Option Value) (h : Heap) (L : List Loc) : Prop := v = none ∧ Fr n0 L ∧ h = h0
set_option maxRecDepth 65536 in
set_option maxHeartbeats 40000000 in
theorem rm9 (l : Launch) (Z : State) (a0 : Array Value) (hw : ∀ d ∈ tables_1, d.before a0 Z = true) (wds : List Jvm.Cond) (a1 : Addr) (h0 : Heap) (n0 : Nat) (Z0 : n0 ≤ h0.size)  :
    MetFree l (⟨"java/lang/Record", "<init>", "()V"⟩ : MethodName) (head1 (Jvm.Cond.code (⟨"java/lang/Record", "<init>", "()V"⟩ : MethodName) jdk_30_method_1_code 1 none :: wds) ({ frames := 1, cells := 0, slots := 0, locals := 12 } : Room)) (fun a U => a = #[(.ref a1)] ∧ Z.Warmed39 U.vm ∧ U.heap = h0) (fun _ _ _ _ _ => True) (fun _ U o U' => ∃ v L, o = .returned v ∧ Q9 Z a1 h0 n0 v U'.heap L ∧ FrameEnd U o U' L ({ frames := 1, cells := 0, slots := 0, locals := 12 } : Room).cells ({ frames := 1, cells := 0, slots := 0, locals := 12 } : Room).slots) := by
  refine MetFree.of_bodySF (plainFor_of_name pn_9) hisR ?_
  intro p e s m args below meth c s₁ Bd hml0 hP hK
  obtain ⟨rfl, hZ, hh⟩ := hP
  have hx := Bd.exec
  have hby := Bd.bytes
  have hml : c.maxLocals = 1 := hml0
  have hown : s.vm.findClass "java/lang/Record" = some m.cls := findClass_of_methodNamed Bd.named
  have hnm := (name_of_methodNamed Bd.named Bd.method).1
  have X0 : Stand p l e ({ frames := 1, cells := 0, slots := 0, locals := 12 } : Room) s m #[(.ref a1)] below meth c s₁ [] 0 0 := Stand.of_body Bd
  have e0 : s₁.heap = h0 := by rw [← hh, Bd.state]; rfl
  have N0 := Fr.nil n0
  refine own_start (Q := Q9 Z a1 h0 n0) (C := ({ frames := 1, cells := 0, slots := 0, locals := 12 } : Room).cells) (S := ({ frames := 1, cells := 0, slots := 0, locals := 12 } : Room).slots) ?_
  rw [ef_9 m a1]
  refine Gen.on (b := s₁.setTop (mkF m 1 #[.val (.ref a1)] [(.ref a1)])) ?_ (fun t k => XS.aloadN X0.here hx rfl (hb hby d9_0) rfl rfl k)
  obtain ⟨T1, X1, e1, st1⟩ := initO X0 hx hZ hown (hw _ (List.mem_of_getElem? (i := 48) rfl)) (hw _ (List.mem_of_getElem? (i := 16) rfl)) (hw _ (List.mem_of_getElem? (i := 17) rfl)) e0 (g := (mkF m 1 #[.val (.ref a1)] [(.ref a1)])) rfl (by rw [hml]; rfl) rfl (hb hby d9_1) (by decide) (W := 0) (by show 2 * 0 + _ ≤ _; exact Nat.le_of_eq rfl) (by decide)
  refine Gen.on (b := T1.setTop (mkF m 4 #[.val (.ref a1)] [])) ?_ (fun t k => st1 t k)
  refine own_ret0 X1 hx Bd.returns (hb hby d9_4) (by decide) (by decide) ?_
  exact ⟨rfl, N0, e1⟩

theorem d10_0 : decode jdk_31_method_11_code 0 = .ok (.aload_n 0, 1) := by decide +kernel
theorem d10_1 : decode jdk_31_method_11_code 1 = .ok (.ifnonnull 12, 3) := by decide +kernel
theorem d10_13 : decode jdk_31_method_11_code 13 = .ok (.aload_n 0, 1) := by decide +kernel
theorem d10_14 : decode jdk_31_method_11_code 14 = .ok (.areturn, 1) := by decide +kernel
theorem pn_10 : plainName "java/util/Objects" = true := by first | (simp [plainName, overriddenIn]; done) | decide +kernel
theorem ef_10 (m : MethodId) (x0 : Addr) (x1 : Addr) : entryFrame m #[(.ref x0), (.ref x1)] 2 = mkF m 0 #[.val (.ref x0), .val (.ref x1)] [] := by first | (simp [entryFrame, mkF, argsToLocals, Value.category]; done) | rfl
def Q10 (Z : State) (a1 : Addr) (a2 : Addr) (h0 : Heap) (n0 : Nat) (v : Option Value) (h : Heap) (L : List Loc) : Prop := v = some (.ref a1) ∧ Fr n0 L ∧ h = h0
set_option maxRecDepth 65536 in
set_option maxHeartbeats 40000000 in
theorem rm10 (l : Launch) (Z : State) (a0 : Array Value) (hw : ∀ d ∈ tables_1, d.before a0 Z = true) (wds : List Jvm.Cond) (a1 : Addr) (a2 : Addr) (h0 : Heap) (n0 : Nat) (Z0 : n0 ≤ h0.size)  :
    MetFree l (⟨"java/util/Objects", "requireNonNull", "(Ljava/lang/Object;Ljava/lang/String;)Ljava/lang/Object;"⟩ : MethodName) (head1 (Jvm.Cond.code (⟨"java/util/Objects", "requireNonNull", "(Ljava/lang/Object;Ljava/lang/String;)Ljava/lang/Object;"⟩ : MethodName) jdk_31_method_11_code 2 (some (.object "java/lang/Object")) :: wds) ({ frames := 0, cells := 0, slots := 0, locals := 0 } : Room)) (fun a U => a = #[(.ref a1), (.ref a2)] ∧ Z.Warmed39 U.vm ∧ U.heap = h0) (fun _ _ _ _ _ => True) (fun _ U o U' => ∃ v L, o = .returned v ∧ Q10 Z a1 a2 h0 n0 v U'.heap L ∧ FrameEnd U o U' L ({ frames := 0, cells := 0, slots := 0, locals := 0 } : Room).cells ({ frames := 0, cells := 0, slots := 0, locals := 0 } : Room).slots) := by
  refine MetFree.of_bodySF (plainFor_of_name pn_10) hisR ?_
  intro p e s m args below meth c s₁ Bd hml0 hP hK
  obtain ⟨rfl, hZ, hh⟩ := hP
  have hx := Bd.exec
  have hby := Bd.bytes
  have hml : c.maxLocals = 2 := hml0
  have hown : s.vm.findClass "java/util/Objects" = some m.cls := findClass_of_methodNamed Bd.named
  have hnm := (name_of_methodNamed Bd.named Bd.method).1
  have X0 : Stand p l e ({ frames := 0, cells := 0, slots := 0, locals := 0 } : Room) s m #[(.ref a1), (.ref a2)] below meth c s₁ [] 0 0 := Stand.of_body Bd
  have e0 : s₁.heap = h0 := by rw [← hh, Bd.state]; rfl
  have N0 := Fr.nil n0
  refine own_start (Q := Q10 Z a1 a2 h0 n0) (C := ({ frames := 0, cells := 0, slots := 0, locals := 0 } : Room).cells) (S := ({ frames := 0, cells := 0, slots := 0, locals := 0 } : Room).slots) ?_
  rw [ef_10 m a1 a2]
  refine Gen.on (b := s₁.setTop (mkF m 1 #[.val (.ref a1), .val (.ref a2)] [(.ref a1)])) ?_ (fun t k => XS.aloadN X0.here hx rfl (hb hby d10_0) rfl rfl k)
  refine Gen.on (b := s₁.setTop (mkF m 13 #[.val (.ref a1), .val (.ref a2)] [])) ?_ (fun t k => XS.ifnonnullYes X0.here hx rfl (pc0 := 1) (pc' := 13) rfl (hb hby d10_1) rfl (by decide) (by decide) k)
  refine Gen.on (b := s₁.setTop (mkF m 14 #[.val (.ref a1), .val (.ref a2)] [(.ref a1)])) ?_ (fun t k => XS.aloadN X0.here hx rfl (hb hby d10_13) rfl rfl k)
  refine own_retA X0 hx Bd.returns rfl rfl (hb hby d10_14) (by decide) (by decide) ?_
  exact ⟨rfl, N0, e0⟩

theorem d8_0 : decode prog_83_method_1_code 0 = .ok (.aload_n 0, 1) := by decide +kernel
theorem d8_1 : decode prog_83_method_1_code 1 = .ok (.invokespecial 1, 3) := by decide +kernel
theorem d8_4 : decode prog_83_method_1_code 4 = .ok (.aload_n 1, 1) := by decide +kernel
theorem d8_5 : decode prog_83_method_1_code 5 = .ok (.ldc 7, 2) := by decide +kernel
theorem d8_7 : decode prog_83_method_1_code 7 = .ok (.invokestatic 9, 3) := by decide +kernel
theorem d8_10 : decode prog_83_method_1_code 10 = .ok (.pop, 1) := by decide +kernel
theorem d8_11 : decode prog_83_method_1_code 11 = .ok (.aload_n 0, 1) := by decide +kernel
theorem d8_12 : decode prog_83_method_1_code 12 = .ok (.aload_n 1, 1) := by decide +kernel
theorem d8_13 : decode prog_83_method_1_code 13 = .ok (.putfield 15, 3) := by decide +kernel
theorem d8_16 : decode prog_83_method_1_code 16 = .ok (.aload_n 0, 1) := by decide +kernel
theorem d8_17 : decode prog_83_method_1_code 17 = .ok (.iload_n 2, 1) := by decide +kernel
theorem d8_18 : decode prog_83_method_1_code 18 = .ok (.putfield 20, 3) := by decide +kernel
theorem d8_21 : decode prog_83_method_1_code 21 = .ok (.return_, 1) := by decide +kernel
theorem pn_8 : plainName "com/example/mapwright/mapwright/sql/Identifier" = true := by first | (simp [plainName, overriddenIn]; done) | decide +kernel
theorem pd_8_0 : parseMethodDescriptor "()V" = some ⟨[], none⟩ := by decide +kernel
theorem pd_8_1 : parseMethodDescriptor "(Ljava/lang/Object;Ljava/lang/String;)Ljava/lang/Object;" = some ⟨[(.object "java/lang/Object"), (.object "java/lang/String")], some (.object "java/lang/Object")⟩ := by decide +kernel
theorem ef_8 (m : MethodId) (x0 : Addr) (x1 : Addr) (x2 : Int32) : entryFrame m #[(.ref x0), (.ref x1), (.int x2)] 3 = mkF m 0 #[.val (.ref x0), .val (.ref x1), .val (.int x2)] [] := by first | (simp [entryFrame, mkF, argsToLocals, Value.category]; done) | rfl
def Q8 (Z : State) (a1 : Addr) (a2 : Addr) (p3 : Int32) (u1 : Value) (u2 : Value) (h0 : Heap) (n0 : Nat) (v : Option Value) (h : Heap) (L : List Loc) : Prop := v = none ∧ Fr n0 L ∧ Keep h0 h [a1] ∧ Exa Z h a1 "com/example/mapwright/mapwright/sql/Identifier" ∧ Fld Z h a1 "com/example/mapwright/mapwright/sql/Identifier" "name" "Ljava/lang/String;" (.ref a2) ∧ Fld Z h a1 "com/example/mapwright/mapwright/sql/Identifier" "delimited" "Z" (.int (nar .boolean p3))
set_option maxRecDepth 65536 in
set_option maxHeartbeats 40000000 in
theorem rm8 (l : Launch) (Z : State) (a0 : Array Value) (hw : ∀ d ∈ tables_1, d.before a0 Z = true) (wds : List Jvm.Cond) (a1 : Addr) (a2 : Addr) (p3 : Int32) (u1 : Value) (u2 : Value) (h0 : Heap) (n0 : Nat) (Z0 : n0 ≤ h0.size) (P0 : Exa Z h0 a1 "com/example/mapwright/mapwright/sql/Identifier") (P1 : Fld Z h0 a1 "com/example/mapwright/mapwright/sql/Identifier" "name" "Ljava/lang/String;" u1) (P2 : Fld Z h0 a1 "com/example/mapwright/mapwright/sql/Identifier" "delimited" "Z" u2) (g_a1 : n0 ≤ a1) :
    MetFree l (⟨"com/example/mapwright/mapwright/sql/Identifier", "<init>", "(Ljava/lang/String;Z)V"⟩ : MethodName) (head1 (Jvm.Cond.code (⟨"com/example/mapwright/mapwright/sql/Identifier", "<init>", "(Ljava/lang/String;Z)V"⟩ : MethodName) prog_83_method_1_code 3 none :: wds) ({ frames := 2, cells := 2, slots := 20, locals := 24 } : Room)) (fun a U => a = #[(.ref a1), (.ref a2), (.int p3)] ∧ Z.Warmed39 U.vm ∧ U.heap = h0 ∧ CHv Z consts_1 U.vm h0) (fun _ _ _ _ _ => True) (fun _ U o U' => ∃ v L, o = .returned v ∧ Q8 Z a1 a2 p3 u1 u2 h0 n0 v U'.heap L ∧ CHr Z consts_1 U.vm U.heap U'.vm U'.heap ∧ ReturnedEndW U o U' L ({ frames := 2, cells := 2, slots := 20, locals := 24 } : Room).cells ({ frames := 2, cells := 2, slots := 20, locals := 24 } : Room).slots) := by
  refine MetFree.of_bodySF (plainFor_of_name pn_8) hisR ?_
  intro p e s m args below meth c s₁ Bd hml0 hP hK
  obtain ⟨rfl, hZ, hh, CHs⟩ := hP
  have hx := Bd.exec
  have hby := Bd.bytes
  have hml : c.maxLocals = 3 := hml0
  have hown : s.vm.findClass "com/example/mapwright/mapwright/sql/Identifier" = some m.cls := findClass_of_methodNamed Bd.named
  have hnm := (name_of_methodNamed Bd.named Bd.method).1
  have hZ : Z.Warmed39 (s.setVm s.vm).vm := hZ
  have hown : (s.setVm s.vm).vm.findClass "com/example/mapwright/mapwright/sql/Identifier" = some m.cls := hown
  have X0 : Stand p l e ({ frames := 2, cells := 2, slots := 20, locals := 24 } : Room) (s.setVm s.vm) m #[(.ref a1), (.ref a2), (.int p3)] below meth c s₁ [] 0 0 := Stand.of_body Bd
  have e0 : s₁.heap = h0 := by rw [← hh, Bd.state]; rfl
  have N0 := Fr.nil n0
  have hEL : EW Z a0 consts_1 := own_hEL hw
  have wS := own_wS hw
  have hS0 : s.Since s.vm h0.size := (State.WarmedH.refl s).since _
  have hk0 : h0.size ≤ h0.size := Nat.le_refl _
  have CH0 : CHr Z consts_1 s.vm h0 s.vm h0 := CHr.refl CHs
  refine ownS_start (Z := Z) (EL := consts_1) (Q := Q8 Z a1 a2 p3 u1 u2 h0 n0) (C := ({ frames := 2, cells := 2, slots := 20, locals := 24 } : Room).cells) (S := ({ frames := 2, cells := 2, slots := 20, locals := 24 } : Room).slots) ?_
  rw [ef_8 m a1 a2 p3]
  have K0 : Keep h0 h0 [a1] := Keep.refl h0 [a1]
  refine Gen.on (b := s₁.setTop (mkF m 1 #[.val (.ref a1), .val (.ref a2), .val (.int p3)] [(.ref a1)])) ?_ (fun t k => XS.aloadN X0.here hx rfl (hb hby d8_0) rfl rfl k)
  obtain ⟨_, _, ⟨T1, L1, k1, n1⟩, -, X1, ⟨Lc1, hQ1, l1, y1, z1⟩, st1⟩ := X0.specialBack hx (y := (⟨"java/lang/Record", "<init>", "()V"⟩ : MethodName)) rfl hown (mvT hZ (hw _ (List.mem_of_getElem? (i := 43) rfl))) (mvT hZ (hw _ (List.mem_of_getElem? (i := 44) rfl))) (mvT hZ (hw _ (List.mem_of_getElem? (i := 47) rfl))) (by decide) (backOf (W := 0) (rm9 l Z a0 hw [] a1  h0 n0 Z0 ) hZ (hw _ (List.mem_of_getElem? (i := 47) rfl)) (hw _ (List.mem_of_getElem? (i := 46) rfl)) (by decide) (by decide)) (g := (mkF m 1 #[.val (.ref a1), .val (.ref a2), .val (.int p3)] [(.ref a1)])) rfl (by rw [hml]; rfl) (Steps.refl _) (a := a1) (argsL := []) (rest := []) (lenOf pd_8_0 rfl) rfl (by show 2 * 0 + _ ≤ _; exact Nat.le_of_eq rfl) (hb hby d8_1) (fun _ _ => ⟨rfl, e0, (by decide : 0 + 0 ≤ _), (by decide : 0 + 0 ≤ _)⟩)
  dsimp only [Pt.U, Pt.locs, Pt.cells, Pt.slots] at X1 l1 y1 z1 st1 hQ1
  subst l1 y1 z1
  obtain ⟨rfl, N1q, e1⟩ := hQ1
  have N1 := Fr.app N0 N1q
  refine Gen.on (b := T1.setTop (mkF m 4 #[.val (.ref a1), .val (.ref a2), .val (.int p3)] [])) ?_ (fun t k => st1.trans k)
  refine Gen.on (b := T1.setTop (mkF m 5 #[.val (.ref a1), .val (.ref a2), .val (.int p3)] [(.ref a2)])) ?_ (fun t k => XS.aloadN X1.here hx rfl (hb hby d8_4) rfl rfl k)
  obtain ⟨la2, T2, h2, k1_2, X2, e2, E2, hS2, hk2, hZ, hown, CHc2, -, st2⟩ := ldcOH X1 hx hZ hown (hw _ (List.mem_of_getElem? (i := 49) rfl)) wS e1 hS0 hk0 hEL CH0.1 (g := (mkF m 5 #[.val (.ref a1), .val (.ref a2), .val (.int p3)] [(.ref a2)])) rfl (hb hby d8_5) (n := 16) (by simp) (by decide) (by decide) (by decide)
  have CH2 := CHr.trans CH0 CHc2
  have Z2 : n0 ≤ h2.size := Nat.le_trans Z0 E2.1
  have K2 : Keep h0 h2 [a1] := K0.ext E2
  refine Gen.on (b := T2.setTop (mkF m 7 #[.val (.ref a1), .val (.ref a2), .val (.int p3)] [(.ref la2), (.ref a2)])) ?_ (fun t k => st2 t k)
  obtain ⟨_, _, ⟨T3, L3, k3, n3⟩, -, X3, ⟨Lc3, hQ3, l3, y3, z3⟩, st3⟩ := Jvm.LawKit.callS X2 hx (y := (⟨"java/util/Objects", "requireNonNull", "(Ljava/lang/Object;Ljava/lang/String;)Ljava/lang/Object;"⟩ : MethodName)) hown (mvT hZ (hw _ (List.mem_of_getElem? (i := 50) rfl))) (mvT hZ (hw _ (List.mem_of_getElem? (i := 51) rfl))) (mvT hZ (hw _ (List.mem_of_getElem? (i := 52) rfl))) (mvT hZ (hw _ (List.mem_of_getElem? (i := 53) rfl))) (by decide) (backOf (W := 0) (rm10 l Z a0 hw [] a2 la2  h2 n0 Z2 ) hZ (hw _ (List.mem_of_getElem? (i := 53) rfl)) (hw _ (List.mem_of_getElem? (i := 52) rfl)) (by decide) (by decide)) (g := (mkF m 7 #[.val (.ref a1), .val (.ref a2), .val (.int p3)] [(.ref la2), (.ref a2)])) rfl (by rw [hml]; rfl) (argsL := [(.ref a2), (.ref la2)]) (rest := []) (lenOf pd_8_1 rfl) rfl (by show 2 * 0 + _ ≤ _; exact Nat.le_of_eq rfl) (hb hby d8_7) (fun _ _ => ⟨rfl, e2, (by decide : 2 + 0 ≤ _), (by decide : 20 + 0 ≤ _)⟩)
  dsimp only [Pt.U, Pt.locs, Pt.cells, Pt.slots] at X3 l3 y3 z3 st3 hQ3
  subst l3 y3 z3
  obtain ⟨rfl, N3q, e3⟩ := hQ3
  have N3 := Fr.app N1 N3q
  refine Gen.on (b := T3.setTop (mkF m 10 #[.val (.ref a1), .val (.ref a2), .val (.int p3)] [(.ref a2)])) ?_ (fun t k => st3 t k)
  refine Gen.on (b := T3.setTop (mkF m 11 #[.val (.ref a1), .val (.ref a2), .val (.int p3)] [])) ?_ (fun t k => XS.pop X3.here hx rfl (hb hby d8_10) rfl rfl k)
  refine Gen.on (b := T3.setTop (mkF m 12 #[.val (.ref a1), .val (.ref a2), .val (.int p3)] [(.ref a1)])) ?_ (fun t k => XS.aloadN X3.here hx rfl (hb hby d8_11) rfl rfl k)
  refine Gen.on (b := T3.setTop (mkF m 13 #[.val (.ref a1), .val (.ref a2), .val (.int p3)] [(.ref a2), (.ref a1)])) ?_ (fun t k => XS.aloadN X3.here hx rfl (hb hby d8_12) rfl rfl k)
  have fa4 := (P1.ext E2)
  have fa5 := (P0.ext E2)
  obtain ⟨T6, h6, X6, e6, W6, st6⟩ := putF X3 hx hZ hown (host := "") (Or.inl (hw _ (List.mem_of_getElem? (i := 54) rfl))) Via.refl e3 fa4 fa5 (Or.inr ⟨(hw _ (List.mem_of_getElem? (i := 55) rfl)), rfl, hnm⟩) (hw _ (List.mem_of_getElem? (i := 38) rfl)) (ty := (.object "java/lang/String")) (by decide) rfl rfl (g := (mkF m 13 #[.val (.ref a1), .val (.ref a2), .val (.int p3)] [(.ref a2), (.ref a1)])) rfl rfl (hb hby d8_13)
  have Fw6 := fa4.same W6
  have CH7 := CHr.trans CH2 (CHr.wr W6 (Safe.exa hZ.alike fa5 (by decide) (by decide)) CH2.1)
  have hk7 := Nat.le_trans hk2 (Keep.of_wr W6).1
  have Z6 : n0 ≤ h6.size := Nat.le_trans Z2 (Keep.of_wr W6).1
  have K6 : Keep h0 h6 [a1] := K2.wr W6 (Or.inl (List.mem_of_getElem? (i := 0) rfl))
  have N6 := Fr.snoc X6 N3 g_a1
  refine Gen.on (b := T6.setTop (mkF m 16 #[.val (.ref a1), .val (.ref a2), .val (.int p3)] [])) ?_ (fun t k => st6 t k)
  refine Gen.on (b := T6.setTop (mkF m 17 #[.val (.ref a1), .val (.ref a2), .val (.int p3)] [(.ref a1)])) ?_ (fun t k => XS.aloadN X6.here hx rfl (hb hby d8_16) rfl rfl k)
  refine Gen.on (b := T6.setTop (mkF m 18 #[.val (.ref a1), .val (.ref a2), .val (.int p3)] [(.int p3), (.ref a1)])) ?_ (fun t k => XS.iloadN X6.here hx rfl (hb hby d8_17) rfl k)
  have fa8 := ((P2.ext E2).other W6 (Or.inr (slot_ne (Or.inr (hw _ (List.mem_of_getElem? (i := 57) rfl))) (Or.inr (hw _ (List.mem_of_getElem? (i := 55) rfl))) (by decide) (t := .boolean) (t' := (.object "java/lang/String")) (by decide) (by decide))))
  have fa9 := (fa5.wr W6)
  obtain ⟨T10, h10, X10, e10, W10, st10⟩ := putFN X6 hx hZ hown (hw _ (List.mem_of_getElem? (i := 56) rfl)) Via.refl e6 fa8 fa9 (Or.inr ⟨(hw _ (List.mem_of_getElem? (i := 57) rfl)), rfl, hnm⟩) (hw _ (List.mem_of_getElem? (i := 38) rfl)) (ty := .boolean) (v' := (.int (nar .boolean p3))) (by decide) rfl (fits_nar_bool _) (g := (mkF m 18 #[.val (.ref a1), .val (.ref a2), .val (.int p3)] [(.int p3), (.ref a1)])) rfl rfl (hb hby d8_18)
  have Fw10 := fa8.same W10
  have CH11 := CHr.trans CH7 (CHr.wr W10 (Safe.exa hZ.alike fa9 (by decide) (by decide)) CH7.1)
  have hk11 := Nat.le_trans hk7 (Keep.of_wr W10).1
  have Z10 : n0 ≤ h10.size := Nat.le_trans Z6 (Keep.of_wr W10).1
  have K10 : Keep h0 h10 [a1] := K6.wr W10 (Or.inl (List.mem_of_getElem? (i := 0) rfl))
  have N10 := Fr.snoc X10 N6 g_a1
  refine Gen.on (b := T10.setTop (mkF m 21 #[.val (.ref a1), .val (.ref a2), .val (.int p3)] [])) ?_ (fun t k => st10 t k)
  refine ownS_ret0 X10 hh hS2 e10 hk11 hZ hEL CH11 hx Bd.returns (hb hby d8_21) (by decide) (by decide) ?_
  have fa12 := (fa9.wr W10)
  have fa13 := (Fw6.other W10 (Or.inr (slot_ne (Or.inr (hw _ (List.mem_of_getElem? (i := 55) rfl))) (Or.inr (hw _ (List.mem_of_getElem? (i := 57) rfl))) (by decide) (t := (.object "java/lang/String")) (t' := .boolean) (by decide) (by decide))))
  show Q8 Z a1 a2 p3 u1 u2 h0 n0 _ T10.heap _
  rw [e10]
  exact ⟨rfl, N10, K10, fa12, fa13, Fw10⟩

def own_y (p q : Int32) : Int32 → Int32 := fun j => if j = (0 : Int32) then p else q
theorem own_y255 {z p q : Int32} (hp : ¬ p < 0 ∧ ¬ (255 : Int32) < p) (hq : ¬ q < 0 ∧ ¬ (255 : Int32) < q) : ∀ j : Int32, ¬ j < 0 → j < z → ¬ own_y p q j < 0 ∧ ¬ (255 : Int32) < own_y p q j := fun j _ _ => by
  unfold own_y; split <;> assumption
theorem own_y1 {p q : Int32} (hp : nar .char p = p) : ∀ j : Int32, ¬ j < 0 → j < (1 : Int32) → own_upd (fun _ => 0) (0 : Int32) (nar .char p) j = own_y p q j := fun j h0 h1 => by
  have e : j = 0 := by rw [Int32.lt_iff_toInt_lt, own_e0] at h0; rw [Int32.lt_iff_toInt_lt, own_e1] at h1; exact Int32.toInt_inj.mp (by rw [own_e0]; omega)
  subst e; unfold own_upd own_y; rw [if_pos rfl, if_pos rfl, hp]
theorem own_y2 {p q : Int32} (hp : nar .char p = p) (hq : nar .char q = q) : ∀ j : Int32, ¬ j < 0 → j < (2 : Int32) → own_upd (own_upd (fun _ => 0) (0 : Int32) (nar .char p)) (1 : Int32) (nar .char q) j = own_y p q j := fun j h0 h1 => by
  have e2 : (2 : Int32).toInt = 2 := by decide +kernel
  have e : j = 0 ∨ j = 1 := by
    rw [Int32.lt_iff_toInt_lt, own_e0] at h0; rw [Int32.lt_iff_toInt_lt, e2] at h1
    by_cases q : j.toInt = 0
    · left; exact Int32.toInt_inj.mp (by rw [own_e0]; omega)
    · right; exact Int32.toInt_inj.mp (by rw [own_e1]; omega)
  unfold own_upd own_y
  rcases e with rfl | rfl
  · rw [if_neg (by decide), if_pos rfl, if_pos rfl, hp]
  · rw [if_pos rfl, if_neg (by decide), hq]

theorem own_is2 {z : Int32} (h : z = 0 ∨ z = 1 ∨ z = 2) (h0 : ¬ z = 0) (h1 : ¬ z = 1) : z = 2 := by
  rcases h with h | h | h
  · exact absurd h h0
  · exact absurd h h1
  · exact h
theorem d1_0 : decode method_2_code 0 = .ok (.iload_n 0, 1) := by decide +kernel
theorem d1_1 : decode method_2_code 1 = .ok (.ifCond .ne 14, 3) := by decide +kernel
theorem d1_4 : decode method_2_code 4 = .ok (.new 7, 3) := by decide +kernel
theorem d1_7 : decode method_2_code 7 = .ok (.dup, 1) := by decide +kernel
theorem d1_8 : decode method_2_code 8 = .ok (.iconst 0, 1) := by decide +kernel
theorem d1_9 : decode method_2_code 9 = .ok (.newarray .char, 2) := by decide +kernel
theorem d1_11 : decode method_2_code 11 = .ok (.invokespecial 9, 3) := by decide +kernel
theorem d1_14 : decode method_2_code 14 = .ok (.areturn, 1) := by decide +kernel
theorem d1_15 : decode method_2_code 15 = .ok (.iload_n 0, 1) := by decide +kernel
theorem d1_16 : decode method_2_code 16 = .ok (.iconst 1, 1) := by decide +kernel
theorem d1_17 : decode method_2_code 17 = .ok (.if_icmp .ne 18, 3) := by decide +kernel
theorem d1_20 : decode method_2_code 20 = .ok (.new 7, 3) := by decide +kernel
theorem d1_23 : decode method_2_code 23 = .ok (.dup, 1) := by decide +kernel
theorem d1_24 : decode method_2_code 24 = .ok (.iconst 1, 1) := by decide +kernel
theorem d1_25 : decode method_2_code 25 = .ok (.newarray .char, 2) := by decide +kernel
theorem d1_27 : decode method_2_code 27 = .ok (.dup, 1) := by decide +kernel
theorem d1_28 : decode method_2_code 28 = .ok (.iconst 0, 1) := by decide +kernel
theorem d1_29 : decode method_2_code 29 = .ok (.iload_n 1, 1) := by decide +kernel
theorem d1_30 : decode method_2_code 30 = .ok (.castore, 1) := by decide +kernel
theorem d1_31 : decode method_2_code 31 = .ok (.invokespecial 9, 3) := by decide +kernel
theorem d1_34 : decode method_2_code 34 = .ok (.areturn, 1) := by decide +kernel
theorem d1_35 : decode method_2_code 35 = .ok (.new 7, 3) := by decide +kernel
theorem d1_38 : decode method_2_code 38 = .ok (.dup, 1) := by decide +kernel
theorem d1_39 : decode method_2_code 39 = .ok (.iconst 2, 1) := by decide +kernel
theorem d1_40 : decode method_2_code 40 = .ok (.newarray .char, 2) := by decide +kernel
theorem d1_42 : decode method_2_code 42 = .ok (.dup, 1) := by decide +kernel
theorem d1_43 : decode method_2_code 43 = .ok (.iconst 0, 1) := by decide +kernel
theorem d1_44 : decode method_2_code 44 = .ok (.iload_n 1, 1) := by decide +kernel
theorem d1_45 : decode method_2_code 45 = .ok (.castore, 1) := by decide +kernel
theorem d1_46 : decode method_2_code 46 = .ok (.dup, 1) := by decide +kernel
theorem d1_47 : decode method_2_code 47 = .ok (.iconst 1, 1) := by decide +kernel
theorem d1_48 : decode method_2_code 48 = .ok (.iload_n 2, 1) := by decide +kernel
theorem d1_49 : decode method_2_code 49 = .ok (.castore, 1) := by decide +kernel
theorem d1_50 : decode method_2_code 50 = .ok (.invokespecial 9, 3) := by decide +kernel
theorem d1_53 : decode method_2_code 53 = .ok (.areturn, 1) := by decide +kernel
theorem pn_1 : plainName "com/example/mapwright/mapwright/sql/IdentifierEqualsPinLaw" = true := by first | (simp [plainName, overriddenIn]; done) | decide +kernel
theorem pd_1_0 : parseMethodDescriptor "([C)V" = some ⟨[(.array .char)], none⟩ := by decide +kernel
theorem ef_1 (m : MethodId) (x0 : Int32) (x1 : Int32) (x2 : Int32) : entryFrame m #[(.int x0), (.int x1), (.int x2)] 3 = mkF m 0 #[.val (.int x0), .val (.int x1), .val (.int x2)] [] := by first | (simp [entryFrame, mkF, argsToLocals, Value.category]; done) | rfl
def Q1 (Z : State) (p1 : Int32) (p2 : Int32) (p3 : Int32) (w0 : Int32) (h0 : Heap) (n0 : Nat) (v : Option Value) (h : Heap) (L : List Loc) : Prop := ∃ xr : Addr, v = some (.ref xr) ∧ Fr n0 L ∧ Keep h0 h [] ∧ Exa Z h xr "java/lang/String" ∧ Lat Z h xr p1 (own_y p2 p3) ∧ h0.size ≤ xr
set_option maxRecDepth 65536 in
set_option maxHeartbeats 40000000 in
theorem rm1 (l : Launch) (Z : State) (a0 : Array Value) (hw : ∀ d ∈ tables_1, d.before a0 Z = true) (wds : List Jvm.Cond) (p1 : Int32) (p2 : Int32) (p3 : Int32) (w0 : Int32) (h0 : Heap) (n0 : Nat) (Z0 : n0 ≤ h0.size) (P0 : Old Z n0 h0) (sts : Sts Z w0) (hn2 : nar .char p2 = p2) (hn3 : nar .char p3 = p3) (hb2 : ¬ p2 < 0 ∧ ¬ (255 : Int32) < p2) (hb3 : ¬ p3 < 0 ∧ ¬ (255 : Int32) < p3) (hl : p1 = 0 ∨ p1 = 1 ∨ p1 = 2) :
    MetFree l (⟨"com/example/mapwright/mapwright/sql/IdentifierEqualsPinLaw", "mk", "(ICC)Ljava/lang/String;"⟩ : MethodName) (head1 (Jvm.Cond.code (⟨"com/example/mapwright/mapwright/sql/IdentifierEqualsPinLaw", "mk", "(ICC)Ljava/lang/String;"⟩ : MethodName) method_2_code 3 (some (.object "java/lang/String")) :: wds) ({ frames := 4, cells := 6, slots := 12, locals := 68 } : Room)) (fun a U => a = #[(.int p1), (.int p2), (.int p3)] ∧ Z.Warmed39 U.vm ∧ U.heap = h0 ∧ CHv Z consts_1 U.vm h0) (fun _ _ _ _ _ => True) (fun _ U o U' => ∃ v L, o = .returned v ∧ Q1 Z p1 p2 p3 w0 h0 n0 v U'.heap L ∧ CHr Z consts_1 U.vm U.heap U'.vm U'.heap ∧ ReturnedEndW U o U' L ({ frames := 4, cells := 6, slots := 12, locals := 68 } : Room).cells ({ frames := 4, cells := 6, slots := 12, locals := 68 } : Room).slots) := by
  refine MetFree.of_bodySF (plainFor_of_name pn_1) hisR ?_
  intro p e s m args below meth c s₁ Bd hml0 hP hK
  obtain ⟨rfl, hZ, hh, CHs⟩ := hP
  have hx := Bd.exec
  have hby := Bd.bytes
  have hml : c.maxLocals = 3 := hml0
  have hown : s.vm.findClass "com/example/mapwright/mapwright/sql/IdentifierEqualsPinLaw" = some m.cls := findClass_of_methodNamed Bd.named
  have hnm := (name_of_methodNamed Bd.named Bd.method).1
  have hZ : Z.Warmed39 (s.setVm s.vm).vm := hZ
  have hown : (s.setVm s.vm).vm.findClass "com/example/mapwright/mapwright/sql/IdentifierEqualsPinLaw" = some m.cls := hown
  have X0 : Stand p l e ({ frames := 4, cells := 6, slots := 12, locals := 68 } : Room) (s.setVm s.vm) m #[(.int p1), (.int p2), (.int p3)] below meth c s₁ [] 0 0 := Stand.of_body Bd
  have e0 : s₁.heap = h0 := by rw [← hh, Bd.state]; rfl
  have N0 := Fr.nil n0
  have hEL : EW Z a0 consts_1 := own_hEL hw
  have wS := own_wS hw
  have hS0 : s.Since s.vm h0.size := (State.WarmedH.refl s).since _
  have hk0 : h0.size ≤ h0.size := Nat.le_refl _
  have CH0 : CHr Z consts_1 s.vm h0 s.vm h0 := CHr.refl CHs
  refine ownS_start (Z := Z) (EL := consts_1) (Q := Q1 Z p1 p2 p3 w0 h0 n0) (C := ({ frames := 4, cells := 6, slots := 12, locals := 68 } : Room).cells) (S := ({ frames := 4, cells := 6, slots := 12, locals := 68 } : Room).slots) ?_
  rw [ef_1 m p1 p2 p3]
  have K0 : Keep h0 h0 [] := Keep.refl h0 []
  obtain ⟨SC, hw0⟩ := id sts
  refine Gen.on (b := s₁.setTop (mkF m 1 #[.val (.int p1), .val (.int p2), .val (.int p3)] [(.int p1)])) ?_ (fun t k => XS.iloadN X0.here hx rfl (hb hby d1_0) rfl k)
  by_cases c1_1 : p1 = (0 : Int32)
  · refine Gen.on (b := s₁.setTop (mkF m 4 #[.val (.int p1), .val (.int p2), .val (.int p3)] [])) ?_ (fun t k => XS.ifNo X0.here hx rfl (hb hby d1_1) rfl ((if0 _ _).trans (teq c1_1).2) k)
    obtain ⟨b1, g1⟩ : ∃ z, z = h0.size := ⟨_, rfl⟩
    have g_b1 : n0 ≤ b1 := Nat.le_trans Z0 (Nat.le_of_eq g1.symm)
    have sz_b1 : h0.size ≤ b1 := Nat.le_trans K0.1 (Nat.le_of_eq g1.symm)
    obtain ⟨T1, h1, X1, e1, E1, A1, D1, -, st1⟩ := newO X0 hx hZ hown (hw _ (List.mem_of_getElem? (i := 4) rfl)) (hw _ (List.mem_of_getElem? (i := 5) rfl)) (hw _ (List.mem_of_getElem? (i := 6) rfl)) e0 (g := (mkF m 4 #[.val (.int p1), .val (.int p2), .val (.int p3)] [])) rfl (hb hby d1_4) (by decide) (by decide)
    rw [← g1] at A1 D1 st1
    have CH2 := CHr.trans CH0 (CHr.ext E1 CH0.1)
    have hk2 := Nat.le_trans hk0 E1.1
    have Z1 : n0 ≤ h1.size := Nat.le_trans Z0 E1.1
    have K1 : Keep h0 h1 [] := K0.ext E1
    have F1_coder : Fld Z h1 b1 "java/lang/String" "coder" "B" (.int (0 : Int32)) := D1 (Or.inr (hw _ (List.mem_of_getElem? (i := 31) rfl))) (ty := .byte) (by decide)
    have F1_value : Fld Z h1 b1 "java/lang/String" "value" "[B" .null := D1 (Or.inr (hw _ (List.mem_of_getElem? (i := 33) rfl))) (ty := (.array .byte)) (by decide)
    refine Gen.on (b := T1.setTop (mkF m 7 #[.val (.int p1), .val (.int p2), .val (.int p3)] [(.ref b1)])) ?_ (fun t k => st1 t k)
    have sf_b1 : Safe Z consts_1 s.vm h1 b1 := Safe.ext E1 CH0.1 (Safe.new (Nat.le_of_eq g1.symm))
    refine Gen.on (b := T1.setTop (mkF m 8 #[.val (.int p1), .val (.int p2), .val (.int p3)] [(.ref b1), (.ref b1)])) ?_ (fun t k => XS.dup X1.here hx rfl (hb hby d1_7) rfl rfl k)
    refine Gen.on (b := T1.setTop (mkF m 9 #[.val (.int p1), .val (.int p2), .val (.int p3)] [(.int (0 : Int32)), (.ref b1), (.ref b1)])) ?_ (fun t k => XS.iconst X1.here hx rfl (hb hby d1_8) k)
    obtain ⟨b3, g3⟩ : ∃ z, z = h1.size := ⟨_, rfl⟩
    have ne_b1_b3 : b1 ≠ b3 := Nat.ne_of_lt (Nat.lt_of_lt_of_le A1.lt (Nat.le_of_eq g3.symm))
    have g_b3 : n0 ≤ b3 := Nat.le_trans Z1 (Nat.le_of_eq g3.symm)
    have sz_b3 : h0.size ≤ b3 := Nat.le_trans K1.1 (Nat.le_of_eq g3.symm)
    obtain ⟨T3, h3, k3, X3, e3, E3, A3, st3⟩ := newP X1 hx hZ (hw _ (List.mem_of_getElem? (i := 7) rfl)) e1 (g := (mkF m 9 #[.val (.int p1), .val (.int p2), .val (.int p3)] [(.int (0 : Int32)), (.ref b1), (.ref b1)])) rfl (hb hby d1_9) rfl (by decide) (cap := 0) (by decide) (by decide) (by decide) (by decide)
    rw [← g3] at A3 st3
    have sf4_b1 := Safe.ext E3 CH2.1 sf_b1
    have CH4 := CHr.trans CH2 (CHr.ext E3 CH2.1)
    have hk4 := Nat.le_trans hk2 E3.1
    have Z3 : n0 ≤ h3.size := Nat.le_trans Z1 E3.1
    have K3 : Keep h0 h3 [] := K1.ext E3
    have V3 : Afn Z h3 b3 .char (0 : Int32) (fun _ => 0) := Afn.new A3 (by decide) rfl
    refine Gen.on (b := T3.setTop (mkF m 11 #[.val (.int p1), .val (.int p2), .val (.int p3)] [(.ref b3), (.ref b1), (.ref b1)])) ?_ (fun t k => st3 t k)
    have fa6 := (A1.ext E3)
    have fa7 := (F1_value.ext E3)
    have fa8 := (F1_coder.ext E3)
    obtain ⟨_, _, ⟨T5, L5, k5, n5⟩, -, X5, hSc5, gr5, ⟨Lc5, hQ5, l5, y5, z5, CHc5⟩, st5⟩ := X3.specialBackS hx (y := (⟨"java/lang/String", "<init>", "([C)V"⟩ : MethodName)) rfl hown (mvT hZ (hw _ (List.mem_of_getElem? (i := 8) rfl))) (mvT hZ (hw _ (List.mem_of_getElem? (i := 9) rfl))) (mvT hZ (hw _ (List.mem_of_getElem? (i := 10) rfl))) (by decide) (backOfSH (W := 1) (rm2z l Z a0 hw [] b1 b3 (.int (0 : Int32)) (fun _ => 0) (own_y p2 p3) h3 n0 Z3 fa6 fa7 fa8 V3 g_b1) hZ (hw _ (List.mem_of_getElem? (i := 10) rfl)) (hw _ (List.mem_of_getElem? (i := 6) rfl)) (by decide) (by decide) hEL CH4.1) (g := (mkF m 11 #[.val (.int p1), .val (.int p2), .val (.int p3)] [(.ref b3), (.ref b1), (.ref b1)])) rfl (by rw [hml]; rfl) (Steps.refl _) (a := b1) (argsL := [(.ref b3)]) (rest := [(.ref b1)]) (lenOf pd_1_0 rfl) rfl (by show 2 * 0 + _ ≤ _; exact Nat.le_of_eq rfl) (hb hby d1_11) (fun _ _ => ⟨rfl, e3, (by decide : 2 + 4 ≤ _), (by decide : 4 + 8 ≤ _)⟩)
    dsimp only [Pt.U, Pt.locs, Pt.cells, Pt.slots] at X5 l5 y5 z5 st5 hQ5 hSc5 gr5 CHc5
    subst l5 y5 z5
    obtain ⟨X5, hS5, hZ, hown⟩ := rebS hS0 hk4 X5 hSc5 (Nat.le_trans (Nat.le_of_eq (congrArg Array.size e3).symm) gr5) hZ hown
    have sf5_b1 := CHr.safe CHc5 fa6.lt sf4_b1
    have CH5 := CHr.trans CH4 CHc5
    obtain ⟨rfl, N5q, Kc5, hf5_0, hf5_1⟩ := hQ5
    have N5 := Fr.app N0 N5q
    have Z5 : n0 ≤ T5.heap.size := Nat.le_trans Z3 Kc5.1
    have K5 : Keep h0 T5.heap [] := K3.trans Kc5 (allS (Or.inr sz_b1) all0)
    refine Gen.on (b := T5.setTop (mkF m 14 #[.val (.int p1), .val (.int p2), .val (.int p3)] [(.ref b1)])) ?_ (fun t k => st5.trans k)
    refine ownS_retA X5 hh hS5 rfl (Nat.le_refl T5.heap.size) hZ hEL CH5 hx Bd.returns rfl rfl (hb hby d1_14) (by decide) (by decide) ?_
    show Q1 Z p1 p2 p3 w0 h0 n0 _ T5.heap _
    exact ⟨_, rfl, N5, K5, hf5_0, (by rw [c1_1]; exact hf5_1), sz_b1⟩
  · refine Gen.on (b := s₁.setTop (mkF m 15 #[.val (.int p1), .val (.int p2), .val (.int p3)] [])) ?_ (fun t k => XS.ifYes X0.here hx rfl (pc0 := 1) (pc' := 15) rfl (hb hby d1_1) rfl ((if0 _ _).trans (feq c1_1).2) (by decide) (by decide) k)
    refine Gen.on (b := s₁.setTop (mkF m 16 #[.val (.int p1), .val (.int p2), .val (.int p3)] [(.int p1)])) ?_ (fun t k => XS.iloadN X0.here hx rfl (hb hby d1_15) rfl k)
    refine Gen.on (b := s₁.setTop (mkF m 17 #[.val (.int p1), .val (.int p2), .val (.int p3)] [(.int (1 : Int32)), (.int p1)])) ?_ (fun t k => XS.iconst X0.here hx rfl (hb hby d1_16) k)
    by_cases c17_2 : p1 = (1 : Int32)
    · refine Gen.on (b := s₁.setTop (mkF m 20 #[.val (.int p1), .val (.int p2), .val (.int p3)] [])) ?_ (fun t k => XS.icmpNo X0.here hx rfl (hb hby d1_17) rfl (teq c17_2).2 k)
      obtain ⟨b9, g9⟩ : ∃ z, z = h0.size := ⟨_, rfl⟩
      have g_b9 : n0 ≤ b9 := Nat.le_trans Z0 (Nat.le_of_eq g9.symm)
      have sz_b9 : h0.size ≤ b9 := Nat.le_trans K0.1 (Nat.le_of_eq g9.symm)
      obtain ⟨T9, h9, X9, e9, E9, A9, D9, -, st9⟩ := newO X0 hx hZ hown (hw _ (List.mem_of_getElem? (i := 4) rfl)) (hw _ (List.mem_of_getElem? (i := 5) rfl)) (hw _ (List.mem_of_getElem? (i := 6) rfl)) e0 (g := (mkF m 20 #[.val (.int p1), .val (.int p2), .val (.int p3)] [])) rfl (hb hby d1_20) (by decide) (by decide)
      rw [← g9] at A9 D9 st9
      have CH10 := CHr.trans CH0 (CHr.ext E9 CH0.1)
      have hk10 := Nat.le_trans hk0 E9.1
      have Z9 : n0 ≤ h9.size := Nat.le_trans Z0 E9.1
      have K9 : Keep h0 h9 [] := K0.ext E9
      have F9_coder : Fld Z h9 b9 "java/lang/String" "coder" "B" (.int (0 : Int32)) := D9 (Or.inr (hw _ (List.mem_of_getElem? (i := 31) rfl))) (ty := .byte) (by decide)
      have F9_value : Fld Z h9 b9 "java/lang/String" "value" "[B" .null := D9 (Or.inr (hw _ (List.mem_of_getElem? (i := 33) rfl))) (ty := (.array .byte)) (by decide)
      refine Gen.on (b := T9.setTop (mkF m 23 #[.val (.int p1), .val (.int p2), .val (.int p3)] [(.ref b9)])) ?_ (fun t k => st9 t k)
      have sf_b9 : Safe Z consts_1 s.vm h9 b9 := Safe.ext E9 CH0.1 (Safe.new (Nat.le_of_eq g9.symm))
      refine Gen.on (b := T9.setTop (mkF m 24 #[.val (.int p1), .val (.int p2), .val (.int p3)] [(.ref b9), (.ref b9)])) ?_ (fun t k => XS.dup X9.here hx rfl (hb hby d1_23) rfl rfl k)
      refine Gen.on (b := T9.setTop (mkF m 25 #[.val (.int p1), .val (.int p2), .val (.int p3)] [(.int (1 : Int32)), (.ref b9), (.ref b9)])) ?_ (fun t k => XS.iconst X9.here hx rfl (hb hby d1_24) k)
      obtain ⟨b11, g11⟩ : ∃ z, z = h9.size := ⟨_, rfl⟩
      have ne_b9_b11 : b9 ≠ b11 := Nat.ne_of_lt (Nat.lt_of_lt_of_le A9.lt (Nat.le_of_eq g11.symm))
      have g_b11 : n0 ≤ b11 := Nat.le_trans Z9 (Nat.le_of_eq g11.symm)
      have sz_b11 : h0.size ≤ b11 := Nat.le_trans K9.1 (Nat.le_of_eq g11.symm)
      obtain ⟨T11, h11, k11, X11, e11, E11, A11, st11⟩ := newP X9 hx hZ (hw _ (List.mem_of_getElem? (i := 7) rfl)) e9 (g := (mkF m 25 #[.val (.int p1), .val (.int p2), .val (.int p3)] [(.int (1 : Int32)), (.ref b9), (.ref b9)])) rfl (hb hby d1_25) rfl (by decide) (cap := 1) (by decide) (by decide) (by decide) (by decide)
      rw [← g11] at A11 st11
      have sf12_b9 := Safe.ext E11 CH10.1 sf_b9
      have CH12 := CHr.trans CH10 (CHr.ext E11 CH10.1)
      have hk12 := Nat.le_trans hk10 E11.1
      have Z11 : n0 ≤ h11.size := Nat.le_trans Z9 E11.1
      have K11 : Keep h0 h11 [] := K9.ext E11
      have V11 : Afn Z h11 b11 .char (1 : Int32) (fun _ => 0) := Afn.new A11 (by decide) rfl
      refine Gen.on (b := T11.setTop (mkF m 27 #[.val (.int p1), .val (.int p2), .val (.int p3)] [(.ref b11), (.ref b9), (.ref b9)])) ?_ (fun t k => st11 t k)
      refine Gen.on (b := T11.setTop (mkF m 28 #[.val (.int p1), .val (.int p2), .val (.int p3)] [(.ref b11), (.ref b11), (.ref b9), (.ref b9)])) ?_ (fun t k => XS.dup X11.here hx rfl (hb hby d1_27) rfl rfl k)
      refine Gen.on (b := T11.setTop (mkF m 29 #[.val (.int p1), .val (.int p2), .val (.int p3)] [(.int (0 : Int32)), (.ref b11), (.ref b11), (.ref b9), (.ref b9)])) ?_ (fun t k => XS.iconst X11.here hx rfl (hb hby d1_28) k)
      refine Gen.on (b := T11.setTop (mkF m 30 #[.val (.int p1), .val (.int p2), .val (.int p3)] [(.int p2), (.int (0 : Int32)), (.ref b11), (.ref b11), (.ref b9), (.ref b9)])) ?_ (fun t k => XS.iloadN X11.here hx rfl (hb hby d1_29) rfl k)
      obtain ⟨cl13, Ar13, SA13, NA13, HA13⟩ := id V11
      have hin13 : ¬ ((0 : Int32) < 0 ∨ cl13.slots.size ≤ ((0 : Int32)).toNatClampNeg) := inb_of SA13 ⟨(by decide), (by decide)⟩
      obtain ⟨T13, h13, X13, e13, W13, st13⟩ := stC X11 hx hZ e11 Ar13 (j := (0 : Int32)) hin13 (g := (mkF m 30 #[.val (.int p1), .val (.int p2), .val (.int p3)] [(.int p2), (.int (0 : Int32)), (.ref b11), (.ref b11), (.ref b9), (.ref b9)])) rfl rfl (hb hby d1_30)
      have Y13 := Afn.put Ar13 SA13 NA13 HA13 W13 (by decide)
      have sf14_b9 := Safe.wr W13 (own_safe_afn hZ.alike V11 (by decide)) CH12.1 sf12_b9
      have CH14 := CHr.trans CH12 (CHr.wr W13 (own_safe_afn hZ.alike V11 (by decide)) CH12.1)
      have hk14 := Nat.le_trans hk12 (Keep.of_wr W13).1
      have Z13 : n0 ≤ h13.size := Nat.le_trans Z11 (Keep.of_wr W13).1
      have K13 : Keep h0 h13 [] := K11.wr W13 (Or.inr sz_b11)
      have N13 := Fr.snoc X13 N0 g_b11
      refine Gen.on (b := T13.setTop (mkF m 31 #[.val (.int p1), .val (.int p2), .val (.int p3)] [(.ref b11), (.ref b9), (.ref b9)])) ?_ (fun t k => st13 t k)
      have Yc15 := Afn.congr Y13 (own_y1 (q := p3) hn2)
      have fa17 := ((A9.ext E11).wr W13)
      have fa18 := ((F9_value.ext E11).other W13 (Or.inl ne_b9_b11))
      have fa19 := ((F9_coder.ext E11).other W13 (Or.inl ne_b9_b11))
      have fa20 := (((P0.ext E9).ext E11).wr W13 g_b11)
      obtain ⟨_, _, ⟨T16, L16, k16, n16⟩, -, X16, ⟨Lc16, hQ16, l16, y16, z16⟩, st16⟩ := X13.specialBack hx (y := (⟨"java/lang/String", "<init>", "([C)V"⟩ : MethodName)) rfl hown (mvT hZ (hw _ (List.mem_of_getElem? (i := 8) rfl))) (mvT hZ (hw _ (List.mem_of_getElem? (i := 9) rfl))) (mvT hZ (hw _ (List.mem_of_getElem? (i := 10) rfl))) (by decide) (backOf (W := 1) (rm2 l Z a0 hw [] b9 b11 .null (.int (0 : Int32)) (1 : Int32) (own_y p2 p3) w0 h13 n0 Z13 fa17 fa18 fa19 Yc15 fa20 g_b9 (sts) (by decide) (own_y255 hb2 hb3) (by decide)) hZ (hw _ (List.mem_of_getElem? (i := 10) rfl)) (hw _ (List.mem_of_getElem? (i := 6) rfl)) (by decide) (by decide)) (g := (mkF m 31 #[.val (.int p1), .val (.int p2), .val (.int p3)] [(.ref b11), (.ref b9), (.ref b9)])) rfl (by rw [hml]; rfl) (Steps.refl _) (a := b9) (argsL := [(.ref b11)]) (rest := [(.ref b9)]) (lenOf pd_1_0 rfl) rfl (by show 2 * 0 + _ ≤ _; exact Nat.le_of_eq rfl) (hb hby d1_31) (fun _ _ => ⟨rfl, e13, (by decide : 2 + 1 ≤ _), (by decide : 5 + 2 ≤ _)⟩)
      dsimp only [Pt.U, Pt.locs, Pt.cells, Pt.slots] at X16 l16 y16 z16 st16 hQ16
      subst l16 y16 z16
      obtain ⟨rfl, N16q, Kc16, hf16_0, hf16_1⟩ := hQ16
      have N16 := Fr.app N13 N16q
      have sf21_b9 := Safe.keep Kc16 (sfS sf14_b9 sf0) CH14.1 sf14_b9
      have CH21 := CHr.trans CH14 (CHr.keep Kc16 (sfS sf14_b9 sf0) CH14.1)
      have hk21 := Nat.le_trans hk14 Kc16.1
      have Z16 : n0 ≤ T16.heap.size := Nat.le_trans Z13 Kc16.1
      have K16 : Keep h0 T16.heap [] := K13.trans Kc16 (allS (Or.inr sz_b9) all0)
      refine Gen.on (b := T16.setTop (mkF m 34 #[.val (.int p1), .val (.int p2), .val (.int p3)] [(.ref b9)])) ?_ (fun t k => st16.trans k)
      refine ownS_retA X16 hh hS0 rfl hk21 hZ hEL CH21 hx Bd.returns rfl rfl (hb hby d1_34) (by decide) (by decide) ?_
      show Q1 Z p1 p2 p3 w0 h0 n0 _ T16.heap _
      exact ⟨_, rfl, N16, K16, hf16_0, (by rw [c17_2]; exact hf16_1), sz_b9⟩
    · refine Gen.on (b := s₁.setTop (mkF m 35 #[.val (.int p1), .val (.int p2), .val (.int p3)] [])) ?_ (fun t k => XS.icmpYes X0.here hx rfl (pc0 := 17) (pc' := 35) rfl (hb hby d1_17) rfl (feq c17_2).2 (by decide) (by decide) k)
      obtain ⟨b22, g22⟩ : ∃ z, z = h0.size := ⟨_, rfl⟩
      have g_b22 : n0 ≤ b22 := Nat.le_trans Z0 (Nat.le_of_eq g22.symm)
      have sz_b22 : h0.size ≤ b22 := Nat.le_trans K0.1 (Nat.le_of_eq g22.symm)
      obtain ⟨T22, h22, X22, e22, E22, A22, D22, -, st22⟩ := newO X0 hx hZ hown (hw _ (List.mem_of_getElem? (i := 4) rfl)) (hw _ (List.mem_of_getElem? (i := 5) rfl)) (hw _ (List.mem_of_getElem? (i := 6) rfl)) e0 (g := (mkF m 35 #[.val (.int p1), .val (.int p2), .val (.int p3)] [])) rfl (hb hby d1_35) (by decide) (by decide)
      rw [← g22] at A22 D22 st22
      have CH23 := CHr.trans CH0 (CHr.ext E22 CH0.1)
      have hk23 := Nat.le_trans hk0 E22.1
      have Z22 : n0 ≤ h22.size := Nat.le_trans Z0 E22.1
      have K22 : Keep h0 h22 [] := K0.ext E22
      have F22_coder : Fld Z h22 b22 "java/lang/String" "coder" "B" (.int (0 : Int32)) := D22 (Or.inr (hw _ (List.mem_of_getElem? (i := 31) rfl))) (ty := .byte) (by decide)
      have F22_value : Fld Z h22 b22 "java/lang/String" "value" "[B" .null := D22 (Or.inr (hw _ (List.mem_of_getElem? (i := 33) rfl))) (ty := (.array .byte)) (by decide)
      refine Gen.on (b := T22.setTop (mkF m 38 #[.val (.int p1), .val (.int p2), .val (.int p3)] [(.ref b22)])) ?_ (fun t k => st22 t k)
      have sf_b22 : Safe Z consts_1 s.vm h22 b22 := Safe.ext E22 CH0.1 (Safe.new (Nat.le_of_eq g22.symm))
      refine Gen.on (b := T22.setTop (mkF m 39 #[.val (.int p1), .val (.int p2), .val (.int p3)] [(.ref b22), (.ref b22)])) ?_ (fun t k => XS.dup X22.here hx rfl (hb hby d1_38) rfl rfl k)
      refine Gen.on (b := T22.setTop (mkF m 40 #[.val (.int p1), .val (.int p2), .val (.int p3)] [(.int (2 : Int32)), (.ref b22), (.ref b22)])) ?_ (fun t k => XS.iconst X22.here hx rfl (hb hby d1_39) k)
      obtain ⟨b24, g24⟩ : ∃ z, z = h22.size := ⟨_, rfl⟩
      have ne_b22_b24 : b22 ≠ b24 := Nat.ne_of_lt (Nat.lt_of_lt_of_le A22.lt (Nat.le_of_eq g24.symm))
      have g_b24 : n0 ≤ b24 := Nat.le_trans Z22 (Nat.le_of_eq g24.symm)
      have sz_b24 : h0.size ≤ b24 := Nat.le_trans K22.1 (Nat.le_of_eq g24.symm)
      obtain ⟨T24, h24, k24, X24, e24, E24, A24, st24⟩ := newP X22 hx hZ (hw _ (List.mem_of_getElem? (i := 7) rfl)) e22 (g := (mkF m 40 #[.val (.int p1), .val (.int p2), .val (.int p3)] [(.int (2 : Int32)), (.ref b22), (.ref b22)])) rfl (hb hby d1_40) rfl (by decide) (cap := 2) (by decide) (by decide) (by decide) (by decide)
      rw [← g24] at A24 st24
      have sf25_b22 := Safe.ext E24 CH23.1 sf_b22
      have CH25 := CHr.trans CH23 (CHr.ext E24 CH23.1)
      have hk25 := Nat.le_trans hk23 E24.1
      have Z24 : n0 ≤ h24.size := Nat.le_trans Z22 E24.1
      have K24 : Keep h0 h24 [] := K22.ext E24
      have V24 : Afn Z h24 b24 .char (2 : Int32) (fun _ => 0) := Afn.new A24 (by decide) rfl
      refine Gen.on (b := T24.setTop (mkF m 42 #[.val (.int p1), .val (.int p2), .val (.int p3)] [(.ref b24), (.ref b22), (.ref b22)])) ?_ (fun t k => st24 t k)
      refine Gen.on (b := T24.setTop (mkF m 43 #[.val (.int p1), .val (.int p2), .val (.int p3)] [(.ref b24), (.ref b24), (.ref b22), (.ref b22)])) ?_ (fun t k => XS.dup X24.here hx rfl (hb hby d1_42) rfl rfl k)
      refine Gen.on (b := T24.setTop (mkF m 44 #[.val (.int p1), .val (.int p2), .val (.int p3)] [(.int (0 : Int32)), (.ref b24), (.ref b24), (.ref b22), (.ref b22)])) ?_ (fun t k => XS.iconst X24.here hx rfl (hb hby d1_43) k)
      refine Gen.on (b := T24.setTop (mkF m 45 #[.val (.int p1), .val (.int p2), .val (.int p3)] [(.int p2), (.int (0 : Int32)), (.ref b24), (.ref b24), (.ref b22), (.ref b22)])) ?_ (fun t k => XS.iloadN X24.here hx rfl (hb hby d1_44) rfl k)
      obtain ⟨cl26, Ar26, SA26, NA26, HA26⟩ := id V24
      have hin26 : ¬ ((0 : Int32) < 0 ∨ cl26.slots.size ≤ ((0 : Int32)).toNatClampNeg) := inb_of SA26 ⟨(by decide), (by decide)⟩
      obtain ⟨T26, h26, X26, e26, W26, st26⟩ := stC X24 hx hZ e24 Ar26 (j := (0 : Int32)) hin26 (g := (mkF m 45 #[.val (.int p1), .val (.int p2), .val (.int p3)] [(.int p2), (.int (0 : Int32)), (.ref b24), (.ref b24), (.ref b22), (.ref b22)])) rfl rfl (hb hby d1_45)
      have Y26 := Afn.put Ar26 SA26 NA26 HA26 W26 (by decide)
      have sf27_b22 := Safe.wr W26 (own_safe_afn hZ.alike V24 (by decide)) CH25.1 sf25_b22
      have CH27 := CHr.trans CH25 (CHr.wr W26 (own_safe_afn hZ.alike V24 (by decide)) CH25.1)
      have hk27 := Nat.le_trans hk25 (Keep.of_wr W26).1
      have Z26 : n0 ≤ h26.size := Nat.le_trans Z24 (Keep.of_wr W26).1
      have K26 : Keep h0 h26 [] := K24.wr W26 (Or.inr sz_b24)
      have N26 := Fr.snoc X26 N0 g_b24
      refine Gen.on (b := T26.setTop (mkF m 46 #[.val (.int p1), .val (.int p2), .val (.int p3)] [(.ref b24), (.ref b22), (.ref b22)])) ?_ (fun t k => st26 t k)
      refine Gen.on (b := T26.setTop (mkF m 47 #[.val (.int p1), .val (.int p2), .val (.int p3)] [(.ref b24), (.ref b24), (.ref b22), (.ref b22)])) ?_ (fun t k => XS.dup X26.here hx rfl (hb hby d1_46) rfl rfl k)
      refine Gen.on (b := T26.setTop (mkF m 48 #[.val (.int p1), .val (.int p2), .val (.int p3)] [(.int (1 : Int32)), (.ref b24), (.ref b24), (.ref b22), (.ref b22)])) ?_ (fun t k => XS.iconst X26.here hx rfl (hb hby d1_47) k)
      refine Gen.on (b := T26.setTop (mkF m 49 #[.val (.int p1), .val (.int p2), .val (.int p3)] [(.int p3), (.int (1 : Int32)), (.ref b24), (.ref b24), (.ref b22), (.ref b22)])) ?_ (fun t k => XS.iloadN X26.here hx rfl (hb hby d1_48) rfl k)
      obtain ⟨cl28, Ar28, SA28, NA28, HA28⟩ := id Y26
      have hin28 : ¬ ((1 : Int32) < 0 ∨ cl28.slots.size ≤ ((1 : Int32)).toNatClampNeg) := inb_of SA28 ⟨(by decide), (by decide)⟩
      obtain ⟨T28, h28, X28, e28, W28, st28⟩ := stC X26 hx hZ e26 Ar28 (j := (1 : Int32)) hin28 (g := (mkF m 49 #[.val (.int p1), .val (.int p2), .val (.int p3)] [(.int p3), (.int (1 : Int32)), (.ref b24), (.ref b24), (.ref b22), (.ref b22)])) rfl rfl (hb hby d1_49)
      have Y28 := Afn.put Ar28 SA28 NA28 HA28 W28 (by decide)
      have sf29_b22 := Safe.wr W28 (own_safe_afn hZ.alike Y26 (by decide)) CH27.1 sf27_b22
      have CH29 := CHr.trans CH27 (CHr.wr W28 (own_safe_afn hZ.alike Y26 (by decide)) CH27.1)
      have hk29 := Nat.le_trans hk27 (Keep.of_wr W28).1
      have Z28 : n0 ≤ h28.size := Nat.le_trans Z26 (Keep.of_wr W28).1
      have K28 : Keep h0 h28 [] := K26.wr W28 (Or.inr sz_b24)
      have N28 := Fr.snoc X28 N26 g_b24
      refine Gen.on (b := T28.setTop (mkF m 50 #[.val (.int p1), .val (.int p2), .val (.int p3)] [(.ref b24), (.ref b22), (.ref b22)])) ?_ (fun t k => st28 t k)
      have Yc30 := Afn.congr Y28 (own_y2 hn2 hn3)
      have fa32 := (((A22.ext E24).wr W26).wr W28)
      have fa33 := (((F22_value.ext E24).other W26 (Or.inl ne_b22_b24)).other W28 (Or.inl ne_b22_b24))
      have fa34 := (((F22_coder.ext E24).other W26 (Or.inl ne_b22_b24)).other W28 (Or.inl ne_b22_b24))
      have fa35 := ((((P0.ext E22).ext E24).wr W26 g_b24).wr W28 g_b24)
      obtain ⟨_, _, ⟨T31, L31, k31, n31⟩, -, X31, ⟨Lc31, hQ31, l31, y31, z31⟩, st31⟩ := X28.specialBack hx (y := (⟨"java/lang/String", "<init>", "([C)V"⟩ : MethodName)) rfl hown (mvT hZ (hw _ (List.mem_of_getElem? (i := 8) rfl))) (mvT hZ (hw _ (List.mem_of_getElem? (i := 9) rfl))) (mvT hZ (hw _ (List.mem_of_getElem? (i := 10) rfl))) (by decide) (backOf (W := 1) (rm2 l Z a0 hw [] b22 b24 .null (.int (0 : Int32)) (2 : Int32) (own_y p2 p3) w0 h28 n0 Z28 fa32 fa33 fa34 Yc30 fa35 g_b22 (sts) (by decide) (own_y255 hb2 hb3) (by decide)) hZ (hw _ (List.mem_of_getElem? (i := 10) rfl)) (hw _ (List.mem_of_getElem? (i := 6) rfl)) (by decide) (by decide)) (g := (mkF m 50 #[.val (.int p1), .val (.int p2), .val (.int p3)] [(.ref b24), (.ref b22), (.ref b22)])) rfl (by rw [hml]; rfl) (Steps.refl _) (a := b22) (argsL := [(.ref b24)]) (rest := [(.ref b22)]) (lenOf pd_1_0 rfl) rfl (by show 2 * 0 + _ ≤ _; exact Nat.le_of_eq rfl) (hb hby d1_50) (fun _ _ => ⟨rfl, e28, (by decide : 2 + 1 ≤ _), (by decide : 6 + 2 ≤ _)⟩)
      dsimp only [Pt.U, Pt.locs, Pt.cells, Pt.slots] at X31 l31 y31 z31 st31 hQ31
      subst l31 y31 z31
      obtain ⟨rfl, N31q, Kc31, hf31_0, hf31_1⟩ := hQ31
      have N31 := Fr.app N28 N31q
      have sf36_b22 := Safe.keep Kc31 (sfS sf29_b22 sf0) CH29.1 sf29_b22
      have CH36 := CHr.trans CH29 (CHr.keep Kc31 (sfS sf29_b22 sf0) CH29.1)
      have hk36 := Nat.le_trans hk29 Kc31.1
      have Z31 : n0 ≤ T31.heap.size := Nat.le_trans Z28 Kc31.1
      have K31 : Keep h0 T31.heap [] := K28.trans Kc31 (allS (Or.inr sz_b22) all0)
      refine Gen.on (b := T31.setTop (mkF m 53 #[.val (.int p1), .val (.int p2), .val (.int p3)] [(.ref b22)])) ?_ (fun t k => st31.trans k)
      refine ownS_retA X31 hh hS0 rfl hk36 hZ hEL CH36 hx Bd.returns rfl rfl (hb hby d1_53) (by decide) (by decide) ?_
      show Q1 Z p1 p2 p3 w0 h0 n0 _ T31.heap _
      exact ⟨_, rfl, N31, K31, hf31_0, (by rw [own_is2 hl c1_1 c17_2]; exact hf31_1), sz_b22⟩

/-- do the two byte arrays say the same? -/
def own_eqb (z1 : Int32) (y1 : Int32 → Int32) (z2 : Int32) (y2 : Int32 → Int32) : Bool := decide (z1 = z2) && (List.range z1.toNatClampNeg).all fun i => decide (y1 (Int32.ofNat i) = y2 (Int32.ofNat i))
def own_eqf (z1 : Int32) (y1 : Int32 → Int32) (z2 : Int32) (y2 : Int32 → Int32) : Int32 := if own_eqb z1 y1 z2 y2 = true then 1 else 0
theorem own_eqb_iff {z1 z2 : Int32} {y1 y2 : Int32 → Int32} : own_eqb z1 y1 z2 y2 = true ↔ (z1 = z2 ∧ ∀ j : Int32, ¬ j < 0 → j < z1 → y1 j = y2 j) := by
  have hz := z1.toInt_lt
  rw [own_eqb, Bool.and_eq_true, decide_eq_true_iff, List.all_eq_true]
  refine and_congr_right fun _ => ⟨fun h j h0 h1 => ?_, fun h i hi => ?_⟩
  · rw [Int32.lt_iff_toInt_lt] at h0 h1
    rw [own_e0] at h0
    have q := h j.toNatClampNeg (List.mem_range.mpr (by unfold Int32.toNatClampNeg; omega))
    have e : Int32.ofNat j.toNatClampNeg = j := by
      apply Int32.toInt_inj.mp
      rw [Int32.toInt_ofNat_of_lt (by unfold Int32.toNatClampNeg; omega)]
      unfold Int32.toNatClampNeg; omega
    rw [e] at q
    exact of_decide_eq_true q
  · have hi := List.mem_range.mp hi
    unfold Int32.toNatClampNeg at hi
    have e : (Int32.ofNat i).toInt = i := Int32.toInt_ofNat_of_lt (by omega)
    exact decide_eq_true (h _ (by rw [Int32.lt_iff_toInt_lt, e, own_e0]; omega) (by rw [Int32.lt_iff_toInt_lt, e]; omega))
theorem own_eqf1 {z1 z2 : Int32} {y1 y2 : Int32 → Int32} (h : z1 = z2 ∧ ∀ j : Int32, ¬ j < 0 → j < z1 → y1 j = y2 j) : own_eqf z1 y1 z2 y2 = 1 := if_pos (own_eqb_iff.mpr h)
theorem own_eqf0 {z1 z2 : Int32} {y1 y2 : Int32 → Int32} (h : ¬ (z1 = z2 ∧ ∀ j : Int32, ¬ j < 0 → j < z1 → y1 j = y2 j)) : own_eqf z1 y1 z2 y2 = 0 := if_neg fun q => h (own_eqb_iff.mp q)
theorem own_eqf01 {z1 z2 : Int32} {y1 y2 : Int32 → Int32} (h : ¬ own_eqf z1 y1 z2 y2 = (0 : Int32)) : own_eqf z1 y1 z2 y2 = 1 := by
  unfold own_eqf at *; split at h <;> simp_all


theorem d13_0 : decode jdk_43_method_13_code 0 = .ok (.aload_n 0, 1) := by decide +kernel
theorem d13_1 : decode jdk_43_method_13_code 1 = .ok (.arraylength, 1) := by decide +kernel
theorem d13_2 : decode jdk_43_method_13_code 2 = .ok (.aload_n 1, 1) := by decide +kernel
theorem d13_3 : decode jdk_43_method_13_code 3 = .ok (.arraylength, 1) := by decide +kernel
theorem d13_4 : decode jdk_43_method_13_code 4 = .ok (.if_icmp .ne 30, 3) := by decide +kernel
theorem d13_7 : decode jdk_43_method_13_code 7 = .ok (.iconst 0, 1) := by decide +kernel
theorem d13_8 : decode jdk_43_method_13_code 8 = .ok (.istore_n 2, 1) := by decide +kernel
theorem d13_9 : decode jdk_43_method_13_code 9 = .ok (.iload_n 2, 1) := by decide +kernel
theorem d13_10 : decode jdk_43_method_13_code 10 = .ok (.aload_n 0, 1) := by decide +kernel
theorem d13_11 : decode jdk_43_method_13_code 11 = .ok (.arraylength, 1) := by decide +kernel
theorem d13_12 : decode jdk_43_method_13_code 12 = .ok (.if_icmp .ge 20, 3) := by decide +kernel
theorem d13_15 : decode jdk_43_method_13_code 15 = .ok (.aload_n 0, 1) := by decide +kernel
theorem d13_16 : decode jdk_43_method_13_code 16 = .ok (.iload_n 2, 1) := by decide +kernel
theorem d13_17 : decode jdk_43_method_13_code 17 = .ok (.baload, 1) := by decide +kernel
theorem d13_18 : decode jdk_43_method_13_code 18 = .ok (.aload_n 1, 1) := by decide +kernel
theorem d13_19 : decode jdk_43_method_13_code 19 = .ok (.iload_n 2, 1) := by decide +kernel
theorem d13_20 : decode jdk_43_method_13_code 20 = .ok (.baload, 1) := by decide +kernel
theorem d13_21 : decode jdk_43_method_13_code 21 = .ok (.if_icmp .eq 5, 3) := by decide +kernel
theorem d13_24 : decode jdk_43_method_13_code 24 = .ok (.iconst 0, 1) := by decide +kernel
theorem d13_25 : decode jdk_43_method_13_code 25 = .ok (.ireturn, 1) := by decide +kernel
theorem d13_26 : decode jdk_43_method_13_code 26 = .ok (.iinc 2 1, 3) := by decide +kernel
theorem d13_29 : decode jdk_43_method_13_code 29 = .ok (.goto (-20), 3) := by decide +kernel
theorem d13_32 : decode jdk_43_method_13_code 32 = .ok (.iconst 1, 1) := by decide +kernel
theorem d13_33 : decode jdk_43_method_13_code 33 = .ok (.ireturn, 1) := by decide +kernel
theorem d13_34 : decode jdk_43_method_13_code 34 = .ok (.iconst 0, 1) := by decide +kernel
theorem d13_35 : decode jdk_43_method_13_code 35 = .ok (.ireturn, 1) := by decide +kernel
theorem pn_13 : plainName "java/lang/StringLatin1" = true := by first | (simp [plainName, overriddenIn]; done) | decide +kernel
theorem ef_13 (m : MethodId) (x0 : Addr) (x1 : Addr) : entryFrame m #[(.ref x0), (.ref x1)] 3 = mkF m 0 #[.val (.ref x0), .val (.ref x1), .unset] [] := by first | (simp [entryFrame, mkF, argsToLocals, Value.category]; done) | rfl
def Q13 (z1 : Int32) (y1 : Int32 → Int32) (z2 : Int32) (y2 : Int32 → Int32) (h0 : Heap) (n0 : Nat) (v : Option Value) (h : Heap) (L : List Loc) : Prop := v = some (.int (own_eqf z1 y1 z2 y2)) ∧ Fr n0 L ∧ h = h0
set_option maxRecDepth 65536 in
set_option maxHeartbeats 40000000 in
theorem rm13 (l : Launch) (Z : State) (a0 : Array Value) (hw : ∀ d ∈ tables_1, d.before a0 Z = true) (wds : List Jvm.Cond) (a1 : Addr) (a2 : Addr) (z1 : Int32) (y1 : Int32 → Int32) (z2 : Int32) (y2 : Int32 → Int32) (h0 : Heap) (n0 : Nat) (Z0 : n0 ≤ h0.size) (P0 : Afn Z h0 a1 .byte z1 y1) (P1 : Afn Z h0 a2 .byte z2 y2) :
    MetFree l (⟨"java/lang/StringLatin1", "equals", "([B[B)Z"⟩ : MethodName) (head1 (Jvm.Cond.code (⟨"java/lang/StringLatin1", "equals", "([B[B)Z"⟩ : MethodName) jdk_43_method_13_code 3 (some .boolean) :: wds) ({ frames := 0, cells := 0, slots := 0, locals := 0 } : Room)) (fun a U => a = #[(.ref a1), (.ref a2)] ∧ Z.Warmed39 U.vm ∧ U.heap = h0) (fun _ _ _ _ _ => True) (fun _ U o U' => ∃ v L, o = .returned v ∧ Q13 z1 y1 z2 y2 h0 n0 v U'.heap L ∧ FrameEnd U o U' L ({ frames := 0, cells := 0, slots := 0, locals := 0 } : Room).cells ({ frames := 0, cells := 0, slots := 0, locals := 0 } : Room).slots) := by
  refine MetFree.of_bodySF (plainFor_of_name pn_13) hisR ?_
  intro p e s m args below meth c s₁ Bd hml0 hP hK
  obtain ⟨rfl, hZ, hh⟩ := hP
  have hx := Bd.exec
  have hby := Bd.bytes
  have hml : c.maxLocals = 3 := hml0
  have hown : s.vm.findClass "java/lang/StringLatin1" = some m.cls := findClass_of_methodNamed Bd.named
  have hnm := (name_of_methodNamed Bd.named Bd.method).1
  have X0 : Stand p l e ({ frames := 0, cells := 0, slots := 0, locals := 0 } : Room) s m #[(.ref a1), (.ref a2)] below meth c s₁ [] 0 0 := Stand.of_body Bd
  have e0 : s₁.heap = h0 := by rw [← hh, Bd.state]; rfl
  have N0 := Fr.nil n0
  refine own_start (Q := Q13 z1 y1 z2 y2 h0 n0) (C := ({ frames := 0, cells := 0, slots := 0, locals := 0 } : Room).cells) (S := ({ frames := 0, cells := 0, slots := 0, locals := 0 } : Room).slots) ?_
  rw [ef_13 m a1 a2]
  refine Gen.on (b := s₁.setTop (mkF m 1 #[.val (.ref a1), .val (.ref a2), .unset] [(.ref a1)])) ?_ (fun t k => XS.aloadN X0.here hx rfl (hb hby d13_0) rfl rfl k)
  obtain ⟨cl1, Ar1, SA1, NA1, HA1⟩ := id P0
  refine Gen.on (b := s₁.setTop (mkF m 2 #[.val (.ref a1), .val (.ref a2), .unset] [(.int z1)])) ?_ (fun t k => X0.arraylength hx (by rw [e0]; exact Ar1.1) (State.isArrayOf_alike hZ.alike Ar1.2.1) (g := (mkF m 1 #[.val (.ref a1), .val (.ref a2), .unset] [(.ref a1)])) rfl rfl (hb hby d13_1) t (by rw [len_of SA1 NA1]; exact k))
  refine Gen.on (b := s₁.setTop (mkF m 3 #[.val (.ref a1), .val (.ref a2), .unset] [(.ref a2), (.int z1)])) ?_ (fun t k => XS.aloadN X0.here hx rfl (hb hby d13_2) rfl rfl k)
  obtain ⟨cl2, Ar2, SA2, NA2, HA2⟩ := id P1
  refine Gen.on (b := s₁.setTop (mkF m 4 #[.val (.ref a1), .val (.ref a2), .unset] [(.int z2), (.int z1)])) ?_ (fun t k => X0.arraylength hx (by rw [e0]; exact Ar2.1) (State.isArrayOf_alike hZ.alike Ar2.2.1) (g := (mkF m 3 #[.val (.ref a1), .val (.ref a2), .unset] [(.ref a2), (.int z1)])) rfl rfl (hb hby d13_3) t (by rw [len_of SA2 NA2]; exact k))
  by_cases c4_1 : z1 = z2
  · refine Gen.on (b := s₁.setTop (mkF m 7 #[.val (.ref a1), .val (.ref a2), .unset] [])) ?_ (fun t k => XS.icmpNo X0.here hx rfl (hb hby d13_4) rfl (teq c4_1).2 k)
    refine Gen.on (b := s₁.setTop (mkF m 8 #[.val (.ref a1), .val (.ref a2), .unset] [(.int (0 : Int32))])) ?_ (fun t k => XS.iconst X0.here hx rfl (hb hby d13_7) k)
    refine Gen.on (b := s₁.setTop (mkF m 9 #[.val (.ref a1), .val (.ref a2), .val (.int (0 : Int32))] [])) ?_ (fun t k => XS.istoreN X0.here hx rfl (hb hby d13_8) rfl (l' := #[.val (.ref a1), .val (.ref a2), .val (.int (0 : Int32))]) rfl k)
    have hz : z1 = z2 := c4_1
    have loop : ∀ (kk : Nat) (i : Int32) (TL : State) (lL : List Loc), ¬ i < 0 → ¬ z1 < i → z1.toInt - i.toInt ≤ (kk : Int) → Stand p l e ({ frames := 0, cells := 0, slots := 0, locals := 0 } : Room) s m #[(.ref a1), (.ref a2)] below meth c TL lL 0 0 → TL.heap = h0 → Fr n0 lL → (∀ j : Int32, ¬ j < 0 → j < i → y1 j = y2 j) → Own p e below s (Q13 z1 y1 z2 y2 h0 n0) ({ frames := 0, cells := 0, slots := 0, locals := 0 } : Room).cells ({ frames := 0, cells := 0, slots := 0, locals := 0 } : Room).slots (TL.setTop (mkF m 9 #[.val (.ref a1), .val (.ref a2), .val (.int i)] [])) := by
      intro kk
      induction kk with
      | zero =>
        intro i TL lL hi0 hip hm XL eL NL hinv
        refine Gen.on (b := TL.setTop (mkF m 10 #[.val (.ref a1), .val (.ref a2), .val (.int i)] [(.int i)])) ?_ (fun t k => XS.iloadN XL.here hx rfl (hb hby d13_9) rfl k)
        refine Gen.on (b := TL.setTop (mkF m 11 #[.val (.ref a1), .val (.ref a2), .val (.int i)] [(.ref a1), (.int i)])) ?_ (fun t k => XS.aloadN XL.here hx rfl (hb hby d13_10) rfl rfl k)
        obtain ⟨cl3, Ar3, SA3, NA3, HA3⟩ := id P0
        refine Gen.on (b := TL.setTop (mkF m 12 #[.val (.ref a1), .val (.ref a2), .val (.int i)] [(.int z1), (.int i)])) ?_ (fun t k => XL.arraylength hx (by rw [eL]; exact Ar3.1) (State.isArrayOf_alike hZ.alike Ar3.2.1) (g := (mkF m 11 #[.val (.ref a1), .val (.ref a2), .val (.int i)] [(.ref a1), (.int i)])) rfl rfl (hb hby d13_11) t (by rw [len_of SA3 NA3]; exact k))
        refine Gen.on (b := TL.setTop (mkF m 32 #[.val (.ref a1), .val (.ref a2), .val (.int i)] [])) ?_ (fun t k => XS.icmpYes XL.here hx rfl (pc0 := 12) (pc' := 32) rfl (hb hby d13_12) rfl (flt (own_z0 hm)).2.1 (by decide) (by decide) k)
        refine Gen.on (b := TL.setTop (mkF m 33 #[.val (.ref a1), .val (.ref a2), .val (.int i)] [(.int (1 : Int32))])) ?_ (fun t k => XS.iconst XL.here hx rfl (hb hby d13_32) k)
        refine own_retN (t := .boolean) XL hx Bd.returns (by simp) (by decide) (hb hby d13_33) (by decide) (by decide) ?_
        show Q13 z1 y1 z2 y2 h0 n0 _ TL.heap _
        rw [eL]
        have hip' := own_top (own_z0 hm) hip
        subst hip'
        exact ⟨by rw [own_eqf1 ⟨hz, hinv⟩], NL, rfl⟩
      | succ kk ih =>
        intro i TL lL hi0 hip hm XL eL NL hinv
        refine Gen.on (b := TL.setTop (mkF m 10 #[.val (.ref a1), .val (.ref a2), .val (.int i)] [(.int i)])) ?_ (fun t k => XS.iloadN XL.here hx rfl (hb hby d13_9) rfl k)
        refine Gen.on (b := TL.setTop (mkF m 11 #[.val (.ref a1), .val (.ref a2), .val (.int i)] [(.ref a1), (.int i)])) ?_ (fun t k => XS.aloadN XL.here hx rfl (hb hby d13_10) rfl rfl k)
        obtain ⟨cl4, Ar4, SA4, NA4, HA4⟩ := id P0
        refine Gen.on (b := TL.setTop (mkF m 12 #[.val (.ref a1), .val (.ref a2), .val (.int i)] [(.int z1), (.int i)])) ?_ (fun t k => XL.arraylength hx (by rw [eL]; exact Ar4.1) (State.isArrayOf_alike hZ.alike Ar4.2.1) (g := (mkF m 11 #[.val (.ref a1), .val (.ref a2), .val (.int i)] [(.ref a1), (.int i)])) rfl rfl (hb hby d13_11) t (by rw [len_of SA4 NA4]; exact k))
        by_cases c12_2 : i < z1
        · refine Gen.on (b := TL.setTop (mkF m 15 #[.val (.ref a1), .val (.ref a2), .val (.int i)] [])) ?_ (fun t k => XS.icmpNo XL.here hx rfl (hb hby d13_12) rfl (tlt c12_2).2.1 k)
          refine Gen.on (b := TL.setTop (mkF m 16 #[.val (.ref a1), .val (.ref a2), .val (.int i)] [(.ref a1)])) ?_ (fun t k => XS.aloadN XL.here hx rfl (hb hby d13_15) rfl rfl k)
          refine Gen.on (b := TL.setTop (mkF m 17 #[.val (.ref a1), .val (.ref a2), .val (.int i)] [(.int i), (.ref a1)])) ?_ (fun t k => XS.iloadN XL.here hx rfl (hb hby d13_16) rfl k)
          obtain ⟨cl5, Ar5, SA5, NA5, HA5⟩ := id P0
          have hin5 : ¬ (i < 0 ∨ cl5.slots.size ≤ (i).toNatClampNeg) := inb_of SA5 ⟨hi0, c12_2⟩
          refine Gen.on (b := TL.setTop (mkF m 18 #[.val (.ref a1), .val (.ref a2), .val (.int i)] [(.int (y1 i))])) ?_ (fun t k => XL.baloadBytes hx (j := i) (v := (.int (y1 i))) (by rw [eL]; exact Ar5.1) (State.isArrayOf_alike hZ.alike Ar5.2.1) Ar5.2.2 hin5 (HA5 _ hin5) (g := (mkF m 17 #[.val (.ref a1), .val (.ref a2), .val (.int i)] [(.int i), (.ref a1)])) rfl rfl (hb hby d13_17) t k)
          refine Gen.on (b := TL.setTop (mkF m 19 #[.val (.ref a1), .val (.ref a2), .val (.int i)] [(.ref a2), (.int (y1 i))])) ?_ (fun t k => XS.aloadN XL.here hx rfl (hb hby d13_18) rfl rfl k)
          refine Gen.on (b := TL.setTop (mkF m 20 #[.val (.ref a1), .val (.ref a2), .val (.int i)] [(.int i), (.ref a2), (.int (y1 i))])) ?_ (fun t k => XS.iloadN XL.here hx rfl (hb hby d13_19) rfl k)
          obtain ⟨cl6, Ar6, SA6, NA6, HA6⟩ := id P1
          have hin6 : ¬ (i < 0 ∨ cl6.slots.size ≤ (i).toNatClampNeg) := inb_of SA6 ⟨hi0, (hz ▸ c12_2)⟩
          refine Gen.on (b := TL.setTop (mkF m 21 #[.val (.ref a1), .val (.ref a2), .val (.int i)] [(.int (y2 i)), (.int (y1 i))])) ?_ (fun t k => XL.baloadBytes hx (j := i) (v := (.int (y2 i))) (by rw [eL]; exact Ar6.1) (State.isArrayOf_alike hZ.alike Ar6.2.1) Ar6.2.2 hin6 (HA6 _ hin6) (g := (mkF m 20 #[.val (.ref a1), .val (.ref a2), .val (.int i)] [(.int i), (.ref a2), (.int (y1 i))])) rfl rfl (hb hby d13_20) t k)
          by_cases c21_3 : (y1 i) = (y2 i)
          · refine Gen.on (b := TL.setTop (mkF m 26 #[.val (.ref a1), .val (.ref a2), .val (.int i)] [])) ?_ (fun t k => XS.icmpYes XL.here hx rfl (pc0 := 21) (pc' := 26) rfl (hb hby d13_21) rfl (teq c21_3).1 (by decide) (by decide) k)
            refine Gen.on (b := TL.setTop (mkF m 29 #[.val (.ref a1), .val (.ref a2), .val (.int (i + (1 : Int32)))] [])) ?_ (fun t k => XS.iinc XL.here hx rfl (hb hby d13_26) rfl (l' := #[.val (.ref a1), .val (.ref a2), .val (.int (i + (1 : Int32)))]) rfl k)
            refine Gen.on (b := TL.setTop (mkF m 9 #[.val (.ref a1), .val (.ref a2), .val (.int (i + (1 : Int32)))] [])) ?_ (fun t k => XS.goto XL.here hx rfl (pc0 := 29) (pc' := 9) rfl (hb hby d13_29) (by decide) (by decide) k)
            have hstp := own_step hi0 c12_2 hm
            exact ih (i + (1 : Int32)) _ _ hstp.1 hstp.2.1 hstp.2.2 XL eL NL (fun j hj0 hj => by
              rcases own_ltS hi0 c12_2 hj with rfl | hj'
              · exact c21_3
              · exact hinv j hj0 hj')
          · refine Gen.on (b := TL.setTop (mkF m 24 #[.val (.ref a1), .val (.ref a2), .val (.int i)] [])) ?_ (fun t k => XS.icmpNo XL.here hx rfl (hb hby d13_21) rfl (feq c21_3).1 k)
            refine Gen.on (b := TL.setTop (mkF m 25 #[.val (.ref a1), .val (.ref a2), .val (.int i)] [(.int (0 : Int32))])) ?_ (fun t k => XS.iconst XL.here hx rfl (hb hby d13_24) k)
            refine own_retN (t := .boolean) XL hx Bd.returns (by simp) (by decide) (hb hby d13_25) (by decide) (by decide) ?_
            show Q13 z1 y1 z2 y2 h0 n0 _ TL.heap _
            rw [eL]
            exact ⟨by rw [own_eqf0 (fun q => c21_3 (q.2 i hi0 c12_2))], NL, rfl⟩
        · refine Gen.on (b := TL.setTop (mkF m 32 #[.val (.ref a1), .val (.ref a2), .val (.int i)] [])) ?_ (fun t k => XS.icmpYes XL.here hx rfl (pc0 := 12) (pc' := 32) rfl (hb hby d13_12) rfl (flt c12_2).2.1 (by decide) (by decide) k)
          refine Gen.on (b := TL.setTop (mkF m 33 #[.val (.ref a1), .val (.ref a2), .val (.int i)] [(.int (1 : Int32))])) ?_ (fun t k => XS.iconst XL.here hx rfl (hb hby d13_32) k)
          refine own_retN (t := .boolean) XL hx Bd.returns (by simp) (by decide) (hb hby d13_33) (by decide) (by decide) ?_
          show Q13 z1 y1 z2 y2 h0 n0 _ TL.heap _
          rw [eL]
          have hip' := own_top c12_2 hip
          subst hip'
          exact ⟨by rw [own_eqf1 ⟨hz, hinv⟩], NL, rfl⟩
    exact loop _ (0 : Int32) _ _ (by decide) P0.nn (Int.le_of_eq (Int.toNat_of_nonneg (own_nnz P0.nn)).symm) X0 e0 N0 (fun j h1 h2 => absurd h2 h1)
  · refine Gen.on (b := s₁.setTop (mkF m 34 #[.val (.ref a1), .val (.ref a2), .unset] [])) ?_ (fun t k => XS.icmpYes X0.here hx rfl (pc0 := 4) (pc' := 34) rfl (hb hby d13_4) rfl (feq c4_1).2 (by decide) (by decide) k)
    refine Gen.on (b := s₁.setTop (mkF m 35 #[.val (.ref a1), .val (.ref a2), .unset] [(.int (0 : Int32))])) ?_ (fun t k => XS.iconst X0.here hx rfl (hb hby d13_34) k)
    refine own_retN (t := .boolean) X0 hx Bd.returns (by simp) (by decide) (hb hby d13_35) (by decide) (by decide) ?_
    show Q13 z1 y1 z2 y2 h0 n0 _ s₁.heap _
    rw [e0]
    exact ⟨by rw [own_eqf0 (fun q => c4_1 q.1)], N0, rfl⟩

theorem d12_0 : decode jdk_42_method_66_code 0 = .ok (.aload_n 0, 1) := by decide +kernel
theorem d12_1 : decode jdk_42_method_66_code 1 = .ok (.aload_n 1, 1) := by decide +kernel
theorem d12_2 : decode jdk_42_method_66_code 2 = .ok (.if_acmp .ne 5, 3) := by decide +kernel
theorem d12_7 : decode jdk_42_method_66_code 7 = .ok (.aload_n 1, 1) := by decide +kernel
theorem d12_8 : decode jdk_42_method_66_code 8 = .ok (.instanceof 10, 3) := by decide +kernel
theorem d12_11 : decode jdk_42_method_66_code 11 = .ok (.ifCond .eq 43, 3) := by decide +kernel
theorem d12_14 : decode jdk_42_method_66_code 14 = .ok (.aload_n 1, 1) := by decide +kernel
theorem d12_15 : decode jdk_42_method_66_code 15 = .ok (.checkcast 10, 3) := by decide +kernel
theorem d12_18 : decode jdk_42_method_66_code 18 = .ok (.astore_n 2, 1) := by decide +kernel
theorem d12_19 : decode jdk_42_method_66_code 19 = .ok (.getstatic 38, 3) := by decide +kernel
theorem d12_22 : decode jdk_42_method_66_code 22 = .ok (.ifCond .eq 14, 3) := by decide +kernel
theorem d12_25 : decode jdk_42_method_66_code 25 = .ok (.aload_n 0, 1) := by decide +kernel
theorem d12_26 : decode jdk_42_method_66_code 26 = .ok (.getfield 15, 3) := by decide +kernel
theorem d12_29 : decode jdk_42_method_66_code 29 = .ok (.aload_n 2, 1) := by decide +kernel
theorem d12_30 : decode jdk_42_method_66_code 30 = .ok (.getfield 15, 3) := by decide +kernel
theorem d12_33 : decode jdk_42_method_66_code 33 = .ok (.if_icmp .ne 21, 3) := by decide +kernel
theorem d12_36 : decode jdk_42_method_66_code 36 = .ok (.aload_n 0, 1) := by decide +kernel
theorem d12_37 : decode jdk_42_method_66_code 37 = .ok (.getfield 9, 3) := by decide +kernel
theorem d12_40 : decode jdk_42_method_66_code 40 = .ok (.aload_n 2, 1) := by decide +kernel
theorem d12_41 : decode jdk_42_method_66_code 41 = .ok (.getfield 9, 3) := by decide +kernel
theorem d12_44 : decode jdk_42_method_66_code 44 = .ok (.invokestatic 541, 3) := by decide +kernel
theorem d12_47 : decode jdk_42_method_66_code 47 = .ok (.ifCond .eq 7, 3) := by decide +kernel
theorem d12_50 : decode jdk_42_method_66_code 50 = .ok (.iconst 1, 1) := by decide +kernel
theorem d12_51 : decode jdk_42_method_66_code 51 = .ok (.goto 4, 3) := by decide +kernel
theorem d12_54 : decode jdk_42_method_66_code 54 = .ok (.iconst 0, 1) := by decide +kernel
theorem d12_55 : decode jdk_42_method_66_code 55 = .ok (.ireturn, 1) := by decide +kernel
theorem pn_12 : plainName "java/lang/String" = true := by first | (simp [plainName, overriddenIn]; done) | decide +kernel
theorem pd_12_0 : parseMethodDescriptor "([B[B)Z" = some ⟨[(.array .byte), (.array .byte)], some .boolean⟩ := by decide +kernel
theorem ef_12 (m : MethodId) (x0 : Addr) (x1 : Addr) : entryFrame m #[(.ref x0), (.ref x1)] 3 = mkF m 0 #[.val (.ref x0), .val (.ref x1), .unset] [] := by first | (simp [entryFrame, mkF, argsToLocals, Value.category]; done) | rfl
def Q12 (Z : State) (a1 : Addr) (a2 : Addr) (b1 : Addr) (b2 : Addr) (z1 : Int32) (y1 : Int32 → Int32) (z2 : Int32) (y2 : Int32 → Int32) (w0 : Int32) (h0 : Heap) (n0 : Nat) (v : Option Value) (h : Heap) (L : List Loc) : Prop := v = some (.int (own_eqf z1 y1 z2 y2)) ∧ Fr n0 L ∧ h = h0
set_option maxRecDepth 65536 in
set_option maxHeartbeats 40000000 in
theorem rm12 (l : Launch) (Z : State) (a0 : Array Value) (hw : ∀ d ∈ tables_1, d.before a0 Z = true) (wds : List Jvm.Cond) (a1 : Addr) (a2 : Addr) (b1 : Addr) (b2 : Addr) (z1 : Int32) (y1 : Int32 → Int32) (z2 : Int32) (y2 : Int32 → Int32) (w0 : Int32) (h0 : Heap) (n0 : Nat) (Z0 : n0 ≤ h0.size) (P0 : Exa Z h0 a1 "java/lang/String") (P1 : Fld Z h0 a1 "java/lang/String" "value" "[B" (.ref b1)) (P2 : Fld Z h0 a1 "java/lang/String" "coder" "B" (.int (0 : Int32))) (P3 : Afn Z h0 b1 .byte z1 y1) (P4 : Exa Z h0 a2 "java/lang/String") (P5 : Fld Z h0 a2 "java/lang/String" "value" "[B" (.ref b2)) (P6 : Fld Z h0 a2 "java/lang/String" "coder" "B" (.int (0 : Int32))) (P7 : Afn Z h0 b2 .byte z2 y2) (P8 : Old Z n0 h0) (ne_a1_a2 : a1 ≠ a2) (sts : Sts Z w0) :
    MetFree l (⟨"java/lang/String", "equals", "(Ljava/lang/Object;)Z"⟩ : MethodName) (head1 (Jvm.Cond.code (⟨"java/lang/String", "equals", "(Ljava/lang/Object;)Z"⟩ : MethodName) jdk_42_method_66_code 3 (some .boolean) :: wds) ({ frames := 1, cells := 0, slots := 0, locals := 14 } : Room)) (fun a U => a = #[(.ref a1), (.ref a2)] ∧ Z.Warmed39 U.vm ∧ U.heap = h0) (fun _ _ _ _ _ => True) (fun _ U o U' => ∃ v L, o = .returned v ∧ Q12 Z a1 a2 b1 b2 z1 y1 z2 y2 w0 h0 n0 v U'.heap L ∧ FrameEnd U o U' L ({ frames := 1, cells := 0, slots := 0, locals := 14 } : Room).cells ({ frames := 1, cells := 0, slots := 0, locals := 14 } : Room).slots) := by
  refine MetFree.of_bodySF (plainFor_of_name pn_12) hisR ?_
  intro p e s m args below meth c s₁ Bd hml0 hP hK
  obtain ⟨rfl, hZ, hh⟩ := hP
  have hx := Bd.exec
  have hby := Bd.bytes
  have hml : c.maxLocals = 3 := hml0
  have hown : s.vm.findClass "java/lang/String" = some m.cls := findClass_of_methodNamed Bd.named
  have hnm := (name_of_methodNamed Bd.named Bd.method).1
  have X0 : Stand p l e ({ frames := 1, cells := 0, slots := 0, locals := 14 } : Room) s m #[(.ref a1), (.ref a2)] below meth c s₁ [] 0 0 := Stand.of_body Bd
  have e0 : s₁.heap = h0 := by rw [← hh, Bd.state]; rfl
  have N0 := Fr.nil n0
  refine own_start (Q := Q12 Z a1 a2 b1 b2 z1 y1 z2 y2 w0 h0 n0) (C := ({ frames := 1, cells := 0, slots := 0, locals := 14 } : Room).cells) (S := ({ frames := 1, cells := 0, slots := 0, locals := 14 } : Room).slots) ?_
  rw [ef_12 m a1 a2]
  obtain ⟨SC, hw0⟩ := id sts
  refine Gen.on (b := s₁.setTop (mkF m 1 #[.val (.ref a1), .val (.ref a2), .unset] [(.ref a1)])) ?_ (fun t k => XS.aloadN X0.here hx rfl (hb hby d12_0) rfl rfl k)
  refine Gen.on (b := s₁.setTop (mkF m 2 #[.val (.ref a1), .val (.ref a2), .unset] [(.ref a2), (.ref a1)])) ?_ (fun t k => XS.aloadN X0.here hx rfl (hb hby d12_1) rfl rfl k)
  refine Gen.on (b := s₁.setTop (mkF m 7 #[.val (.ref a1), .val (.ref a2), .unset] [])) ?_ (fun t k => Jvm.RoadKit.acmp (g := (mkF m 2 #[.val (.ref a1), .val (.ref a2), .unset] [(.ref a2), (.ref a1)])) X0 hx rfl rfl rfl (pc0 := 2) (pc' := 7) (same := false) rfl (hb hby d12_2) rfl (decide_eq_false fun q => ne_a1_a2 (Value.ref.inj q)) (by decide) (by decide) k)
  refine Gen.on (b := s₁.setTop (mkF m 8 #[.val (.ref a1), .val (.ref a2), .unset] [(.ref a2)])) ?_ (fun t k => XS.aloadN X0.here hx rfl (hb hby d12_7) rfl rfl k)
  obtain ⟨T1, X1, e1, st1⟩ := instY X0 hx hZ hown (hw _ (List.mem_of_getElem? (i := 70) rfl)) e0 (Ins.self P4) (g := (mkF m 8 #[.val (.ref a1), .val (.ref a2), .unset] [(.ref a2)])) rfl rfl (hb hby d12_8)
  refine Gen.on (b := T1.setTop (mkF m 11 #[.val (.ref a1), .val (.ref a2), .unset] [(.int (1 : Int32))])) ?_ (fun t k => st1 t k)
  refine Gen.on (b := T1.setTop (mkF m 14 #[.val (.ref a1), .val (.ref a2), .unset] [])) ?_ (fun t k => XS.ifNo X1.here hx rfl (hb hby d12_11) rfl ((if0 _ _).trans (feq (by decide : ¬ ((1 : Int32) = (0 : Int32)))).1) k)
  refine Gen.on (b := T1.setTop (mkF m 15 #[.val (.ref a1), .val (.ref a2), .unset] [(.ref a2)])) ?_ (fun t k => XS.aloadN X1.here hx rfl (hb hby d12_14) rfl rfl k)
  obtain ⟨T2, X2, e2, st2⟩ := castY X1 hx hZ hown (hw _ (List.mem_of_getElem? (i := 70) rfl)) e1 (Ins.self P4) (g := (mkF m 15 #[.val (.ref a1), .val (.ref a2), .unset] [(.ref a2)])) rfl rfl (hb hby d12_15)
  refine Gen.on (b := T2.setTop (mkF m 18 #[.val (.ref a1), .val (.ref a2), .unset] [(.ref a2)])) ?_ (fun t k => st2 t k)
  refine Gen.on (b := T2.setTop (mkF m 19 #[.val (.ref a1), .val (.ref a2), .val (.ref a2)] [])) ?_ (fun t k => XS.astoreN X2.here hx rfl (hb hby d12_18) rfl rfl (l' := #[.val (.ref a1), .val (.ref a2), .val (.ref a2)]) rfl k)
  have fa4 := Sta.ext P8.2 SC
  obtain ⟨T3, X3, e3, st3⟩ := getS2 X2 hx hZ hown (host := "") (Or.inl (hw _ (List.mem_of_getElem? (i := 18) rfl))) Via.refl e2 fa4 (g := (mkF m 19 #[.val (.ref a1), .val (.ref a2), .val (.ref a2)] [])) rfl (hb hby d12_19)
  refine Gen.on (b := T3.setTop (mkF m 22 #[.val (.ref a1), .val (.ref a2), .val (.ref a2)] [(.int w0)])) ?_ (fun t k => st3 t k)
  refine Gen.on (b := T3.setTop (mkF m 25 #[.val (.ref a1), .val (.ref a2), .val (.ref a2)] [])) ?_ (fun t k => XS.ifNo X3.here hx rfl (hb hby d12_22) rfl ((if0 _ _).trans (feq hw0).1) k)
  refine Gen.on (b := T3.setTop (mkF m 26 #[.val (.ref a1), .val (.ref a2), .val (.ref a2)] [(.ref a1)])) ?_ (fun t k => XS.aloadN X3.here hx rfl (hb hby d12_25) rfl rfl k)
  obtain ⟨T5, X5, e5, st5⟩ := getF X3 hx hZ hown (host := "") (Or.inl (hw _ (List.mem_of_getElem? (i := 30) rfl))) Via.refl e3 P2 (g := (mkF m 26 #[.val (.ref a1), .val (.ref a2), .val (.ref a2)] [(.ref a1)])) rfl rfl (hb hby d12_26)
  refine Gen.on (b := T5.setTop (mkF m 29 #[.val (.ref a1), .val (.ref a2), .val (.ref a2)] [(.int (0 : Int32))])) ?_ (fun t k => st5 t k)
  refine Gen.on (b := T5.setTop (mkF m 30 #[.val (.ref a1), .val (.ref a2), .val (.ref a2)] [(.ref a2), (.int (0 : Int32))])) ?_ (fun t k => XS.aloadN X5.here hx rfl (hb hby d12_29) rfl rfl k)
  obtain ⟨T6, X6, e6, st6⟩ := getF X5 hx hZ hown (host := "") (Or.inl (hw _ (List.mem_of_getElem? (i := 30) rfl))) Via.refl e5 P6 (g := (mkF m 30 #[.val (.ref a1), .val (.ref a2), .val (.ref a2)] [(.ref a2), (.int (0 : Int32))])) rfl rfl (hb hby d12_30)
  refine Gen.on (b := T6.setTop (mkF m 33 #[.val (.ref a1), .val (.ref a2), .val (.ref a2)] [(.int (0 : Int32)), (.int (0 : Int32))])) ?_ (fun t k => st6 t k)
  refine Gen.on (b := T6.setTop (mkF m 36 #[.val (.ref a1), .val (.ref a2), .val (.ref a2)] [])) ?_ (fun t k => XS.icmpNo X6.here hx rfl (hb hby d12_33) rfl (teq (by decide : (0 : Int32) = (0 : Int32))).2 k)
  refine Gen.on (b := T6.setTop (mkF m 37 #[.val (.ref a1), .val (.ref a2), .val (.ref a2)] [(.ref a1)])) ?_ (fun t k => XS.aloadN X6.here hx rfl (hb hby d12_36) rfl rfl k)
  obtain ⟨T7, X7, e7, st7⟩ := getF X6 hx hZ hown (host := "") (Or.inl (hw _ (List.mem_of_getElem? (i := 32) rfl))) Via.refl e6 P1 (g := (mkF m 37 #[.val (.ref a1), .val (.ref a2), .val (.ref a2)] [(.ref a1)])) rfl rfl (hb hby d12_37)
  refine Gen.on (b := T7.setTop (mkF m 40 #[.val (.ref a1), .val (.ref a2), .val (.ref a2)] [(.ref b1)])) ?_ (fun t k => st7 t k)
  refine Gen.on (b := T7.setTop (mkF m 41 #[.val (.ref a1), .val (.ref a2), .val (.ref a2)] [(.ref a2), (.ref b1)])) ?_ (fun t k => XS.aloadN X7.here hx rfl (hb hby d12_40) rfl rfl k)
  obtain ⟨T8, X8, e8, st8⟩ := getF X7 hx hZ hown (host := "") (Or.inl (hw _ (List.mem_of_getElem? (i := 32) rfl))) Via.refl e7 P5 (g := (mkF m 41 #[.val (.ref a1), .val (.ref a2), .val (.ref a2)] [(.ref a2), (.ref b1)])) rfl rfl (hb hby d12_41)
  refine Gen.on (b := T8.setTop (mkF m 44 #[.val (.ref a1), .val (.ref a2), .val (.ref a2)] [(.ref b2), (.ref b1)])) ?_ (fun t k => st8 t k)
  obtain ⟨_, _, ⟨T9, L9, k9, n9⟩, -, X9, ⟨Lc9, hQ9, l9, y9, z9⟩, st9⟩ := Jvm.LawKit.callS X8 hx (y := (⟨"java/lang/StringLatin1", "equals", "([B[B)Z"⟩ : MethodName)) hown (mvT hZ (hw _ (List.mem_of_getElem? (i := 71) rfl))) (mvT hZ (hw _ (List.mem_of_getElem? (i := 72) rfl))) (mvT hZ (hw _ (List.mem_of_getElem? (i := 73) rfl))) (mvT hZ (hw _ (List.mem_of_getElem? (i := 74) rfl))) (by decide) (backOf (W := 0) (rm13 l Z a0 hw [] b1 b2 z1 y1 z2 y2 h0 n0 Z0 P3 P7) hZ (hw _ (List.mem_of_getElem? (i := 74) rfl)) (hw _ (List.mem_of_getElem? (i := 73) rfl)) (by decide) (by decide)) (g := (mkF m 44 #[.val (.ref a1), .val (.ref a2), .val (.ref a2)] [(.ref b2), (.ref b1)])) rfl (by rw [hml]; rfl) (argsL := [(.ref b1), (.ref b2)]) (rest := []) (lenOf pd_12_0 rfl) rfl (by show 2 * 0 + _ ≤ _; exact Nat.le_of_eq rfl) (hb hby d12_44) (fun _ _ => ⟨rfl, e8, (by decide : 0 + 0 ≤ _), (by decide : 0 + 0 ≤ _)⟩)
  dsimp only [Pt.U, Pt.locs, Pt.cells, Pt.slots] at X9 l9 y9 z9 st9 hQ9
  subst l9 y9 z9
  obtain ⟨rfl, N9q, e9⟩ := hQ9
  have N9 := Fr.app N0 N9q
  refine Gen.on (b := T9.setTop (mkF m 47 #[.val (.ref a1), .val (.ref a2), .val (.ref a2)] [(.int (own_eqf z1 y1 z2 y2))])) ?_ (fun t k => st9 t k)
  by_cases c47_1 : (own_eqf z1 y1 z2 y2) = (0 : Int32)
  · refine Gen.on (b := T9.setTop (mkF m 54 #[.val (.ref a1), .val (.ref a2), .val (.ref a2)] [])) ?_ (fun t k => XS.ifYes X9.here hx rfl (pc0 := 47) (pc' := 54) rfl (hb hby d12_47) rfl ((if0 _ _).trans (teq c47_1).1) (by decide) (by decide) k)
    refine Gen.on (b := T9.setTop (mkF m 55 #[.val (.ref a1), .val (.ref a2), .val (.ref a2)] [(.int (0 : Int32))])) ?_ (fun t k => XS.iconst X9.here hx rfl (hb hby d12_54) k)
    refine own_retN (t := .boolean) X9 hx Bd.returns (by simp) (by decide) (hb hby d12_55) (by decide) (by decide) ?_
    exact ⟨(by rw [c47_1]), N9, e9⟩
  · refine Gen.on (b := T9.setTop (mkF m 50 #[.val (.ref a1), .val (.ref a2), .val (.ref a2)] [])) ?_ (fun t k => XS.ifNo X9.here hx rfl (hb hby d12_47) rfl ((if0 _ _).trans (feq c47_1).1) k)
    refine Gen.on (b := T9.setTop (mkF m 51 #[.val (.ref a1), .val (.ref a2), .val (.ref a2)] [(.int (1 : Int32))])) ?_ (fun t k => XS.iconst X9.here hx rfl (hb hby d12_50) k)
    refine Gen.on (b := T9.setTop (mkF m 55 #[.val (.ref a1), .val (.ref a2), .val (.ref a2)] [(.int (1 : Int32))])) ?_ (fun t k => XS.goto X9.here hx rfl (pc0 := 51) (pc' := 55) rfl (hb hby d12_51) (by decide) (by decide) k)
    refine own_retN (t := .boolean) X9 hx Bd.returns (by simp) (by decide) (hb hby d12_55) (by decide) (by decide) ?_
    exact ⟨(by rw [own_eqf01 c47_1]), N9, e9⟩

def own_ideq (d1 d2 r : Int32) : Int32 := if d1 = d2 then (if r = (0 : Int32) then (0 : Int32) else (1 : Int32)) else (0 : Int32)


theorem d11_0 : decode prog_83_method_2_code 0 = .ok (.aload_n 1, 1) := by decide +kernel
theorem d11_1 : decode prog_83_method_2_code 1 = .ok (.instanceof 16, 3) := by decide +kernel
theorem d11_4 : decode prog_83_method_2_code 4 = .ok (.ifCond .eq 37, 3) := by decide +kernel
theorem d11_7 : decode prog_83_method_2_code 7 = .ok (.aload_n 1, 1) := by decide +kernel
theorem d11_8 : decode prog_83_method_2_code 8 = .ok (.checkcast 16, 3) := by decide +kernel
theorem d11_11 : decode prog_83_method_2_code 11 = .ok (.astore_n 2, 1) := by decide +kernel
theorem d11_12 : decode prog_83_method_2_code 12 = .ok (.aload_n 0, 1) := by decide +kernel
theorem d11_13 : decode prog_83_method_2_code 13 = .ok (.getfield 20, 3) := by decide +kernel
theorem d11_16 : decode prog_83_method_2_code 16 = .ok (.aload_n 2, 1) := by decide +kernel
theorem d11_17 : decode prog_83_method_2_code 17 = .ok (.getfield 20, 3) := by decide +kernel
theorem d11_20 : decode prog_83_method_2_code 20 = .ok (.if_icmp .ne 21, 3) := by decide +kernel
theorem d11_23 : decode prog_83_method_2_code 23 = .ok (.aload_n 0, 1) := by decide +kernel
theorem d11_24 : decode prog_83_method_2_code 24 = .ok (.getfield 15, 3) := by decide +kernel
theorem d11_27 : decode prog_83_method_2_code 27 = .ok (.aload_n 2, 1) := by decide +kernel
theorem d11_28 : decode prog_83_method_2_code 28 = .ok (.getfield 15, 3) := by decide +kernel
theorem d11_31 : decode prog_83_method_2_code 31 = .ok (.invokevirtual 24, 3) := by decide +kernel
theorem d11_34 : decode prog_83_method_2_code 34 = .ok (.ifCond .eq 7, 3) := by decide +kernel
theorem d11_37 : decode prog_83_method_2_code 37 = .ok (.iconst 1, 1) := by decide +kernel
theorem d11_38 : decode prog_83_method_2_code 38 = .ok (.goto 4, 3) := by decide +kernel
theorem d11_41 : decode prog_83_method_2_code 41 = .ok (.iconst 0, 1) := by decide +kernel
theorem d11_42 : decode prog_83_method_2_code 42 = .ok (.ireturn, 1) := by decide +kernel
theorem pn_11 : plainName "com/example/mapwright/mapwright/sql/Identifier" = true := by first | (simp [plainName, overriddenIn]; done) | decide +kernel
theorem pd_11_0 : parseMethodDescriptor "(Ljava/lang/Object;)Z" = some ⟨[(.object "java/lang/Object")], some .boolean⟩ := by decide +kernel
theorem ef_11 (m : MethodId) (x0 : Addr) (x1 : Addr) : entryFrame m #[(.ref x0), (.ref x1)] 3 = mkF m 0 #[.val (.ref x0), .val (.ref x1), .unset] [] := by first | (simp [entryFrame, mkF, argsToLocals, Value.category]; done) | rfl
def Q11 (Z : State) (a1 : Addr) (a2 : Addr) (m1 : Addr) (d1 : Int32) (m2 : Addr) (d2 : Int32) (b1 : Addr) (b2 : Addr) (z1 : Int32) (y1 : Int32 → Int32) (z2 : Int32) (y2 : Int32 → Int32) (w0 : Int32) (h0 : Heap) (n0 : Nat) (v : Option Value) (h : Heap) (L : List Loc) : Prop := v = some (.int (own_ideq d1 d2 (own_eqf z1 y1 z2 y2))) ∧ Fr n0 L ∧ h = h0
set_option maxRecDepth 65536 in
set_option maxHeartbeats 40000000 in
theorem rm11 (l : Launch) (Z : State) (a0 : Array Value) (hw : ∀ d ∈ tables_1, d.before a0 Z = true) (wds : List Jvm.Cond) (a1 : Addr) (a2 : Addr) (m1 : Addr) (d1 : Int32) (m2 : Addr) (d2 : Int32) (b1 : Addr) (b2 : Addr) (z1 : Int32) (y1 : Int32 → Int32) (z2 : Int32) (y2 : Int32 → Int32) (w0 : Int32) (h0 : Heap) (n0 : Nat) (Z0 : n0 ≤ h0.size) (P0 : Exa Z h0 a1 "com/example/mapwright/mapwright/sql/Identifier") (P1 : Exa Z h0 a2 "com/example/mapwright/mapwright/sql/Identifier") (P2 : Fld Z h0 a1 "com/example/mapwright/mapwright/sql/Identifier" "name" "Ljava/lang/String;" (.ref m1)) (P3 : Fld Z h0 a1 "com/example/mapwright/mapwright/sql/Identifier" "delimited" "Z" (.int d1)) (P4 : Fld Z h0 a2 "com/example/mapwright/mapwright/sql/Identifier" "name" "Ljava/lang/String;" (.ref m2)) (P5 : Fld Z h0 a2 "com/example/mapwright/mapwright/sql/Identifier" "delimited" "Z" (.int d2)) (P6 : Exa Z h0 m1 "java/lang/String") (P7 : Fld Z h0 m1 "java/lang/String" "value" "[B" (.ref b1)) (P8 : Fld Z h0 m1 "java/lang/String" "coder" "B" (.int (0 : Int32))) (P9 : Afn Z h0 b1 .byte z1 y1) (P10 : Exa Z h0 m2 "java/lang/String") (P11 : Fld Z h0 m2 "java/lang/String" "value" "[B" (.ref b2)) (P12 : Fld Z h0 m2 "java/lang/String" "coder" "B" (.int (0 : Int32))) (P13 : Afn Z h0 b2 .byte z2 y2) (P14 : Old Z n0 h0) (ne_m1_m2 : m1 ≠ m2) (sts : Sts Z w0) :
    MetFree l (⟨"com/example/mapwright/mapwright/sql/Identifier", "equals", "(Ljava/lang/Object;)Z"⟩ : MethodName) (head1 (Jvm.Cond.code (⟨"com/example/mapwright/mapwright/sql/Identifier", "equals", "(Ljava/lang/Object;)Z"⟩ : MethodName) prog_83_method_2_code 3 (some .boolean) :: wds) ({ frames := 2, cells := 0, slots := 0, locals := 28 } : Room)) (fun a U => a = #[(.ref a1), (.ref a2)] ∧ Z.Warmed39 U.vm ∧ U.heap = h0) (fun _ _ _ _ _ => True) (fun _ U o U' => ∃ v L, o = .returned v ∧ Q11 Z a1 a2 m1 d1 m2 d2 b1 b2 z1 y1 z2 y2 w0 h0 n0 v U'.heap L ∧ FrameEnd U o U' L ({ frames := 2, cells := 0, slots := 0, locals := 28 } : Room).cells ({ frames := 2, cells := 0, slots := 0, locals := 28 } : Room).slots) := by
  refine MetFree.of_bodySF (plainFor_of_name pn_11) hisR ?_
  intro p e s m args below meth c s₁ Bd hml0 hP hK
  obtain ⟨rfl, hZ, hh⟩ := hP
  have hx := Bd.exec
  have hby := Bd.bytes
  have hml : c.maxLocals = 3 := hml0
  have hown : s.vm.findClass "com/example/mapwright/mapwright/sql/Identifier" = some m.cls := findClass_of_methodNamed Bd.named
  have hnm := (name_of_methodNamed Bd.named Bd.method).1
  have X0 : Stand p l e ({ frames := 2, cells := 0, slots := 0, locals := 28 } : Room) s m #[(.ref a1), (.ref a2)] below meth c s₁ [] 0 0 := Stand.of_body Bd
  have e0 : s₁.heap = h0 := by rw [← hh, Bd.state]; rfl
  have N0 := Fr.nil n0
  refine own_start (Q := Q11 Z a1 a2 m1 d1 m2 d2 b1 b2 z1 y1 z2 y2 w0 h0 n0) (C := ({ frames := 2, cells := 0, slots := 0, locals := 28 } : Room).cells) (S := ({ frames := 2, cells := 0, slots := 0, locals := 28 } : Room).slots) ?_
  rw [ef_11 m a1 a2]
  obtain ⟨SC, hw0⟩ := id sts
  refine Gen.on (b := s₁.setTop (mkF m 1 #[.val (.ref a1), .val (.ref a2), .unset] [(.ref a2)])) ?_ (fun t k => XS.aloadN X0.here hx rfl (hb hby d11_0) rfl rfl k)
  obtain ⟨T1, X1, e1, st1⟩ := instY X0 hx hZ hown (hw _ (List.mem_of_getElem? (i := 63) rfl)) e0 (Ins.self P1) (g := (mkF m 1 #[.val (.ref a1), .val (.ref a2), .unset] [(.ref a2)])) rfl rfl (hb hby d11_1)
  refine Gen.on (b := T1.setTop (mkF m 4 #[.val (.ref a1), .val (.ref a2), .unset] [(.int (1 : Int32))])) ?_ (fun t k => st1 t k)
  refine Gen.on (b := T1.setTop (mkF m 7 #[.val (.ref a1), .val (.ref a2), .unset] [])) ?_ (fun t k => XS.ifNo X1.here hx rfl (hb hby d11_4) rfl ((if0 _ _).trans (feq (by decide : ¬ ((1 : Int32) = (0 : Int32)))).1) k)
  refine Gen.on (b := T1.setTop (mkF m 8 #[.val (.ref a1), .val (.ref a2), .unset] [(.ref a2)])) ?_ (fun t k => XS.aloadN X1.here hx rfl (hb hby d11_7) rfl rfl k)
  obtain ⟨T2, X2, e2, st2⟩ := castY X1 hx hZ hown (hw _ (List.mem_of_getElem? (i := 63) rfl)) e1 (Ins.self P1) (g := (mkF m 8 #[.val (.ref a1), .val (.ref a2), .unset] [(.ref a2)])) rfl rfl (hb hby d11_8)
  refine Gen.on (b := T2.setTop (mkF m 11 #[.val (.ref a1), .val (.ref a2), .unset] [(.ref a2)])) ?_ (fun t k => st2 t k)
  refine Gen.on (b := T2.setTop (mkF m 12 #[.val (.ref a1), .val (.ref a2), .val (.ref a2)] [])) ?_ (fun t k => XS.astoreN X2.here hx rfl (hb hby d11_11) rfl rfl (l' := #[.val (.ref a1), .val (.ref a2), .val (.ref a2)]) rfl k)
  refine Gen.on (b := T2.setTop (mkF m 13 #[.val (.ref a1), .val (.ref a2), .val (.ref a2)] [(.ref a1)])) ?_ (fun t k => XS.aloadN X2.here hx rfl (hb hby d11_12) rfl rfl k)
  obtain ⟨T3, X3, e3, st3⟩ := getF X2 hx hZ hown (host := "") (Or.inl (hw _ (List.mem_of_getElem? (i := 56) rfl))) Via.refl e2 P3 (g := (mkF m 13 #[.val (.ref a1), .val (.ref a2), .val (.ref a2)] [(.ref a1)])) rfl rfl (hb hby d11_13)
  refine Gen.on (b := T3.setTop (mkF m 16 #[.val (.ref a1), .val (.ref a2), .val (.ref a2)] [(.int d1)])) ?_ (fun t k => st3 t k)
  refine Gen.on (b := T3.setTop (mkF m 17 #[.val (.ref a1), .val (.ref a2), .val (.ref a2)] [(.ref a2), (.int d1)])) ?_ (fun t k => XS.aloadN X3.here hx rfl (hb hby d11_16) rfl rfl k)
  obtain ⟨T4, X4, e4, st4⟩ := getF X3 hx hZ hown (host := "") (Or.inl (hw _ (List.mem_of_getElem? (i := 56) rfl))) Via.refl e3 P5 (g := (mkF m 17 #[.val (.ref a1), .val (.ref a2), .val (.ref a2)] [(.ref a2), (.int d1)])) rfl rfl (hb hby d11_17)
  refine Gen.on (b := T4.setTop (mkF m 20 #[.val (.ref a1), .val (.ref a2), .val (.ref a2)] [(.int d2), (.int d1)])) ?_ (fun t k => st4 t k)
  by_cases c20_1 : d1 = d2
  · refine Gen.on (b := T4.setTop (mkF m 23 #[.val (.ref a1), .val (.ref a2), .val (.ref a2)] [])) ?_ (fun t k => XS.icmpNo X4.here hx rfl (hb hby d11_20) rfl (teq c20_1).2 k)
    refine Gen.on (b := T4.setTop (mkF m 24 #[.val (.ref a1), .val (.ref a2), .val (.ref a2)] [(.ref a1)])) ?_ (fun t k => XS.aloadN X4.here hx rfl (hb hby d11_23) rfl rfl k)
    obtain ⟨T5, X5, e5, st5⟩ := getF X4 hx hZ hown (host := "") (Or.inl (hw _ (List.mem_of_getElem? (i := 54) rfl))) Via.refl e4 P2 (g := (mkF m 24 #[.val (.ref a1), .val (.ref a2), .val (.ref a2)] [(.ref a1)])) rfl rfl (hb hby d11_24)
    refine Gen.on (b := T5.setTop (mkF m 27 #[.val (.ref a1), .val (.ref a2), .val (.ref a2)] [(.ref m1)])) ?_ (fun t k => st5 t k)
    refine Gen.on (b := T5.setTop (mkF m 28 #[.val (.ref a1), .val (.ref a2), .val (.ref a2)] [(.ref a2), (.ref m1)])) ?_ (fun t k => XS.aloadN X5.here hx rfl (hb hby d11_27) rfl rfl k)
    obtain ⟨T6, X6, e6, st6⟩ := getF X5 hx hZ hown (host := "") (Or.inl (hw _ (List.mem_of_getElem? (i := 54) rfl))) Via.refl e5 P4 (g := (mkF m 28 #[.val (.ref a1), .val (.ref a2), .val (.ref a2)] [(.ref a2), (.ref m1)])) rfl rfl (hb hby d11_28)
    refine Gen.on (b := T6.setTop (mkF m 31 #[.val (.ref a1), .val (.ref a2), .val (.ref a2)] [(.ref m2), (.ref m1)])) ?_ (fun t k => st6 t k)
    obtain ⟨cq7, kq7, q7a, q7b, q7c⟩ := isOf hZ e6 P6
    obtain ⟨_, _, ⟨T7, L7, k7, n7⟩, -, X7, ⟨Lc7, hQ7, l7, y7, z7⟩, st7⟩ := X6.virtualBack hx (y := (⟨"java/lang/String", "equals", "(Ljava/lang/Object;)Z"⟩ : MethodName)) (z := (⟨"java/lang/String", "equals", "(Ljava/lang/Object;)Z"⟩ : MethodName)) hown (mvT hZ (hw _ (List.mem_of_getElem? (i := 65) rfl))) (mvT hZ (hw _ (List.mem_of_getElem? (i := 66) rfl))) (notFace_of_selects (args := #[]) (mvT hZ (hw _ (List.mem_of_getElem? (i := 68) rfl)))) (mvT hZ (hw _ (List.mem_of_getElem? (i := 68) rfl))) (mvT hZ (hw _ (List.mem_of_getElem? (i := 67) rfl))) (by decide) (backOf (W := 0) (rm12 l Z a0 hw [] m1 m2 b1 b2 z1 y1 z2 y2 w0 h0 n0 Z0 P6 P7 P8 P9 P10 P11 P12 P13 P14 ne_m1_m2 (sts)) hZ (hw _ (List.mem_of_getElem? (i := 69) rfl)) (hw _ (List.mem_of_getElem? (i := 6) rfl)) (by decide) (by decide)) q7a q7c (g := (mkF m 31 #[.val (.ref a1), .val (.ref a2), .val (.ref a2)] [(.ref m2), (.ref m1)])) rfl (by rw [hml]; rfl) (Steps.refl _) (argsL := [(.ref m2)]) (rest := []) (lenOf pd_11_0 rfl) rfl (by show 2 * 0 + _ ≤ _; exact Nat.le_of_eq rfl) (hb hby d11_31) (fun _ _ => ⟨rfl, e6, (by decide : 0 + 0 ≤ _), (by decide : 0 + 0 ≤ _)⟩)
    dsimp only [Pt.U, Pt.locs, Pt.cells, Pt.slots] at X7 l7 y7 z7 st7 hQ7
    subst l7 y7 z7
    obtain ⟨rfl, N7q, e7⟩ := hQ7
    have N7 := Fr.app N0 N7q
    refine Gen.on (b := T7.setTop (mkF m 34 #[.val (.ref a1), .val (.ref a2), .val (.ref a2)] [(.int (own_eqf z1 y1 z2 y2))])) ?_ (fun t k => st7.trans k)
    by_cases c34_2 : (own_eqf z1 y1 z2 y2) = (0 : Int32)
    · refine Gen.on (b := T7.setTop (mkF m 41 #[.val (.ref a1), .val (.ref a2), .val (.ref a2)] [])) ?_ (fun t k => XS.ifYes X7.here hx rfl (pc0 := 34) (pc' := 41) rfl (hb hby d11_34) rfl ((if0 _ _).trans (teq c34_2).1) (by decide) (by decide) k)
      refine Gen.on (b := T7.setTop (mkF m 42 #[.val (.ref a1), .val (.ref a2), .val (.ref a2)] [(.int (0 : Int32))])) ?_ (fun t k => XS.iconst X7.here hx rfl (hb hby d11_41) k)
      refine own_retN (t := .boolean) X7 hx Bd.returns (by simp) (by decide) (hb hby d11_42) (by decide) (by decide) ?_
      exact ⟨(by simp only [own_ideq, if_pos c20_1, if_pos c34_2]), N7, e7⟩
    · refine Gen.on (b := T7.setTop (mkF m 37 #[.val (.ref a1), .val (.ref a2), .val (.ref a2)] [])) ?_ (fun t k => XS.ifNo X7.here hx rfl (hb hby d11_34) rfl ((if0 _ _).trans (feq c34_2).1) k)
      refine Gen.on (b := T7.setTop (mkF m 38 #[.val (.ref a1), .val (.ref a2), .val (.ref a2)] [(.int (1 : Int32))])) ?_ (fun t k => XS.iconst X7.here hx rfl (hb hby d11_37) k)
      refine Gen.on (b := T7.setTop (mkF m 42 #[.val (.ref a1), .val (.ref a2), .val (.ref a2)] [(.int (1 : Int32))])) ?_ (fun t k => XS.goto X7.here hx rfl (pc0 := 38) (pc' := 42) rfl (hb hby d11_38) (by decide) (by decide) k)
      refine own_retN (t := .boolean) X7 hx Bd.returns (by simp) (by decide) (hb hby d11_42) (by decide) (by decide) ?_
      exact ⟨(by simp only [own_ideq, if_pos c20_1, if_neg c34_2]), N7, e7⟩
  · refine Gen.on (b := T4.setTop (mkF m 41 #[.val (.ref a1), .val (.ref a2), .val (.ref a2)] [])) ?_ (fun t k => XS.icmpYes X4.here hx rfl (pc0 := 20) (pc' := 41) rfl (hb hby d11_20) rfl (feq c20_1).2 (by decide) (by decide) k)
    refine Gen.on (b := T4.setTop (mkF m 42 #[.val (.ref a1), .val (.ref a2), .val (.ref a2)] [(.int (0 : Int32))])) ?_ (fun t k => XS.iconst X4.here hx rfl (hb hby d11_41) k)
    refine own_retN (t := .boolean) X4 hx Bd.returns (by simp) (by decide) (hb hby d11_42) (by decide) (by decide) ?_
    exact ⟨(by simp only [own_ideq, if_neg c20_1]), N0, e4⟩

theorem d11n_0 : decode prog_83_method_2_code 0 = .ok (.aload_n 1, 1) := by decide +kernel
theorem d11n_1 : decode prog_83_method_2_code 1 = .ok (.instanceof 16, 3) := by decide +kernel
theorem d11n_4 : decode prog_83_method_2_code 4 = .ok (.ifCond .eq 37, 3) := by decide +kernel
theorem d11n_41 : decode prog_83_method_2_code 41 = .ok (.iconst 0, 1) := by decide +kernel
theorem d11n_42 : decode prog_83_method_2_code 42 = .ok (.ireturn, 1) := by decide +kernel
theorem pn_11n : plainName "com/example/mapwright/mapwright/sql/Identifier" = true := by first | (simp [plainName, overriddenIn]; done) | decide +kernel
theorem ef_11n (m : MethodId) (x0 : Addr) : entryFrame m #[(.ref x0), .null] 3 = mkF m 0 #[.val (.ref x0), .val .null, .unset] [] := by first | (simp [entryFrame, mkF, argsToLocals, Value.category]; done) | rfl
def Q11n (Z : State) (a1 : Addr) (h0 : Heap) (n0 : Nat) (v : Option Value) (h : Heap) (L : List Loc) : Prop := v = some (.int (0 : Int32)) ∧ Fr n0 L ∧ h = h0
set_option maxRecDepth 65536 in
set_option maxHeartbeats 40000000 in
theorem rm11n (l : Launch) (Z : State) (a0 : Array Value) (hw : ∀ d ∈ tables_1, d.before a0 Z = true) (wds : List Jvm.Cond) (a1 : Addr) (h0 : Heap) (n0 : Nat) (Z0 : n0 ≤ h0.size) (P0 : Exa Z h0 a1 "com/example/mapwright/mapwright/sql/Identifier") :
    MetFree l (⟨"com/example/mapwright/mapwright/sql/Identifier", "equals", "(Ljava/lang/Object;)Z"⟩ : MethodName) (head1 (Jvm.Cond.code (⟨"com/example/mapwright/mapwright/sql/Identifier", "equals", "(Ljava/lang/Object;)Z"⟩ : MethodName) prog_83_method_2_code 3 (some .boolean) :: wds) ({ frames := 0, cells := 0, slots := 0, locals := 0 } : Room)) (fun a U => a = #[(.ref a1), .null] ∧ Z.Warmed39 U.vm ∧ U.heap = h0) (fun _ _ _ _ _ => True) (fun _ U o U' => ∃ v L, o = .returned v ∧ Q11n Z a1 h0 n0 v U'.heap L ∧ FrameEnd U o U' L ({ frames := 0, cells := 0, slots := 0, locals := 0 } : Room).cells ({ frames := 0, cells := 0, slots := 0, locals := 0 } : Room).slots) := by
  refine MetFree.of_bodySF (plainFor_of_name pn_11n) hisR ?_
  intro p e s m args below meth c s₁ Bd hml0 hP hK
  obtain ⟨rfl, hZ, hh⟩ := hP
  have hx := Bd.exec
  have hby := Bd.bytes
  have hml : c.maxLocals = 3 := hml0
  have hown : s.vm.findClass "com/example/mapwright/mapwright/sql/Identifier" = some m.cls := findClass_of_methodNamed Bd.named
  have hnm := (name_of_methodNamed Bd.named Bd.method).1
  have X0 : Stand p l e ({ frames := 0, cells := 0, slots := 0, locals := 0 } : Room) s m #[(.ref a1), .null] below meth c s₁ [] 0 0 := Stand.of_body Bd
  have e0 : s₁.heap = h0 := by rw [← hh, Bd.state]; rfl
  have N0 := Fr.nil n0
  refine own_start (Q := Q11n Z a1 h0 n0) (C := ({ frames := 0, cells := 0, slots := 0, locals := 0 } : Room).cells) (S := ({ frames := 0, cells := 0, slots := 0, locals := 0 } : Room).slots) ?_
  rw [ef_11n m a1]
  refine Gen.on (b := s₁.setTop (mkF m 1 #[.val (.ref a1), .val .null, .unset] [.null])) ?_ (fun t k => XS.aloadN X0.here hx rfl (hb hby d11n_0) rfl rfl k)
  refine Gen.on (b := s₁.setTop (mkF m 4 #[.val (.ref a1), .val .null, .unset] [(.int (0 : Int32))])) ?_ (fun t k => X0.instanceofNull hx (g := (mkF m 1 #[.val (.ref a1), .val .null, .unset] [.null])) rfl rfl (hb hby d11n_1) t k)
  refine Gen.on (b := s₁.setTop (mkF m 41 #[.val (.ref a1), .val .null, .unset] [])) ?_ (fun t k => XS.ifYes X0.here hx rfl (pc0 := 4) (pc' := 41) rfl (hb hby d11n_4) rfl ((if0 _ _).trans (teq (by decide : (0 : Int32) = (0 : Int32))).1) (by decide) (by decide) k)
  refine Gen.on (b := s₁.setTop (mkF m 42 #[.val (.ref a1), .val .null, .unset] [(.int (0 : Int32))])) ?_ (fun t k => XS.iconst X0.here hx rfl (hb hby d11n_41) k)
  refine own_retN (t := .boolean) X0 hx Bd.returns (by simp) (by decide) (hb hby d11n_42) (by decide) (by decide) ?_
  exact ⟨rfl, N0, e0⟩

theorem d11s_0 : decode prog_83_method_2_code 0 = .ok (.aload_n 1, 1) := by decide +kernel
theorem d11s_1 : decode prog_83_method_2_code 1 = .ok (.instanceof 16, 3) := by decide +kernel
theorem d11s_4 : decode prog_83_method_2_code 4 = .ok (.ifCond .eq 37, 3) := by decide +kernel
theorem d11s_41 : decode prog_83_method_2_code 41 = .ok (.iconst 0, 1) := by decide +kernel
theorem d11s_42 : decode prog_83_method_2_code 42 = .ok (.ireturn, 1) := by decide +kernel
theorem pn_11s : plainName "com/example/mapwright/mapwright/sql/Identifier" = true := by first | (simp [plainName, overriddenIn]; done) | decide +kernel
theorem ef_11s (m : MethodId) (x0 : Addr) (x1 : Addr) : entryFrame m #[(.ref x0), (.ref x1)] 3 = mkF m 0 #[.val (.ref x0), .val (.ref x1), .unset] [] := by first | (simp [entryFrame, mkF, argsToLocals, Value.category]; done) | rfl
def Q11s (Z : State) (a1 : Addr) (a2 : Addr) (h0 : Heap) (n0 : Nat) (v : Option Value) (h : Heap) (L : List Loc) : Prop := v = some (.int (0 : Int32)) ∧ Fr n0 L ∧ h = h0
set_option maxRecDepth 65536 in
set_option maxHeartbeats 40000000 in
theorem rm11s (l : Launch) (Z : State) (a0 : Array Value) (hw : ∀ d ∈ tables_1, d.before a0 Z = true) (wds : List Jvm.Cond) (a1 : Addr) (a2 : Addr) (h0 : Heap) (n0 : Nat) (Z0 : n0 ≤ h0.size) (P0 : Exa Z h0 a1 "com/example/mapwright/mapwright/sql/Identifier") (P1 : Exa Z h0 a2 "java/lang/String") :
    MetFree l (⟨"com/example/mapwright/mapwright/sql/Identifier", "equals", "(Ljava/lang/Object;)Z"⟩ : MethodName) (head1 (Jvm.Cond.code (⟨"com/example/mapwright/mapwright/sql/Identifier", "equals", "(Ljava/lang/Object;)Z"⟩ : MethodName) prog_83_method_2_code 3 (some .boolean) :: wds) ({ frames := 0, cells := 0, slots := 0, locals := 0 } : Room)) (fun a U => a = #[(.ref a1), (.ref a2)] ∧ Z.Warmed39 U.vm ∧ U.heap = h0) (fun _ _ _ _ _ => True) (fun _ U o U' => ∃ v L, o = .returned v ∧ Q11s Z a1 a2 h0 n0 v U'.heap L ∧ FrameEnd U o U' L ({ frames := 0, cells := 0, slots := 0, locals := 0 } : Room).cells ({ frames := 0, cells := 0, slots := 0, locals := 0 } : Room).slots) := by
  refine MetFree.of_bodySF (plainFor_of_name pn_11s) hisR ?_
  intro p e s m args below meth c s₁ Bd hml0 hP hK
  obtain ⟨rfl, hZ, hh⟩ := hP
  have hx := Bd.exec
  have hby := Bd.bytes
  have hml : c.maxLocals = 3 := hml0
  have hown : s.vm.findClass "com/example/mapwright/mapwright/sql/Identifier" = some m.cls := findClass_of_methodNamed Bd.named
  have hnm := (name_of_methodNamed Bd.named Bd.method).1
  have X0 : Stand p l e ({ frames := 0, cells := 0, slots := 0, locals := 0 } : Room) s m #[(.ref a1), (.ref a2)] below meth c s₁ [] 0 0 := Stand.of_body Bd
  have e0 : s₁.heap = h0 := by rw [← hh, Bd.state]; rfl
  have N0 := Fr.nil n0
  refine own_start (Q := Q11s Z a1 a2 h0 n0) (C := ({ frames := 0, cells := 0, slots := 0, locals := 0 } : Room).cells) (S := ({ frames := 0, cells := 0, slots := 0, locals := 0 } : Room).slots) ?_
  rw [ef_11s m a1 a2]
  refine Gen.on (b := s₁.setTop (mkF m 1 #[.val (.ref a1), .val (.ref a2), .unset] [(.ref a2)])) ?_ (fun t k => XS.aloadN X0.here hx rfl (hb hby d11s_0) rfl rfl k)
  obtain ⟨T1, X1, e1, st1⟩ := instNo X0 hx hZ hown (hw _ (List.mem_of_getElem? (i := 63) rfl)) e0 P1 (own_noinst (hw _ (List.mem_of_getElem? (i := 75) rfl)) (hw _ (List.mem_of_getElem? (i := 76) rfl)) (hw _ (List.mem_of_getElem? (i := 38) rfl)) (by decide) (by decide)) (g := (mkF m 1 #[.val (.ref a1), .val (.ref a2), .unset] [(.ref a2)])) rfl rfl (hb hby d11s_1)
  refine Gen.on (b := T1.setTop (mkF m 4 #[.val (.ref a1), .val (.ref a2), .unset] [(.int (0 : Int32))])) ?_ (fun t k => st1 t k)
  refine Gen.on (b := T1.setTop (mkF m 41 #[.val (.ref a1), .val (.ref a2), .unset] [])) ?_ (fun t k => XS.ifYes X1.here hx rfl (pc0 := 4) (pc' := 41) rfl (hb hby d11s_4) rfl ((if0 _ _).trans (teq (by decide : (0 : Int32) = (0 : Int32))).1) (by decide) (by decide) k)
  refine Gen.on (b := T1.setTop (mkF m 42 #[.val (.ref a1), .val (.ref a2), .unset] [(.int (0 : Int32))])) ?_ (fun t k => XS.iconst X1.here hx rfl (hb hby d11s_41) k)
  refine own_retN (t := .boolean) X1 hx Bd.returns (by simp) (by decide) (hb hby d11s_42) (by decide) (by decide) ?_
  exact ⟨rfl, N0, e1⟩

theorem own_i255 : (255 : Int32).toInt = 255 := by decide +kernel
theorem own_i2 : (2 : Int32).toInt = 2 := by decide +kernel
theorem own_i3 : (3 : Int32).toInt = 3 := by decide +kernel
theorem own_m255 (w : Int32) : ¬ (w &&& (255 : Int32)) < 0 ∧ ¬ (255 : Int32) < (w &&& (255 : Int32)) := by
  have e := Jvm.Kit.i32_mask w 255 (k := 8) (by decide) (by decide)
  rw [Int32.lt_iff_toInt_lt, Int32.lt_iff_toInt_lt, e, own_e0, own_i255]; omega
/-- a char of eight bits -/
def own_c8 (c : Int32) : Prop := nar .char c = c ∧ (¬ c < 0 ∧ ¬ (255 : Int32) < c)
theorem own_c8m {c : Int32} (w : Int32) (h : c = (w &&& (255 : Int32)).toUInt32.toUInt16.toUInt32.toInt32) : own_c8 c := by
  have e5 : (65535 : Int32).toInt = 65535 := by decide +kernel
  have q := own_m255 w
  have e : own_i2c (w &&& (255 : Int32)) = w &&& (255 : Int32) := own_i2c_id q.1 (by have := q.2; rw [Int32.lt_iff_toInt_lt] at this ⊢; rw [own_i255] at this; rw [e5]; omega)
  have h' : c = own_i2c (w &&& (255 : Int32)) := h
  refine ⟨by rw [h']; exact own_nar_i2c _, ?_⟩
  rw [h', e]; exact q
theorem own_c8i {c a b : Int32} {P : Prop} [Decidable P] (h : c = if P then a else b) (ha : own_c8 a) (hb : own_c8 b) : own_c8 c := by
  rw [h]; split <;> assumption
theorem own_len {z : Int32} (w : Int32) (h : z = (w &&& (3 : Int32)) % (3 : Int32)) : z = 0 ∨ z = 1 ∨ z = 2 := by
  have e := Jvm.Kit.i32_mask w 3 (k := 2) (by decide) (by decide)
  have e2 : z.toInt = (w.toInt % 4).tmod 3 := by rw [h, Int32.toInt_mod, e, own_i3]; rfl
  have e3 : (w.toInt % 4).tmod 3 = (w.toInt % 4) % 3 := Int.tmod_eq_emod_of_nonneg (by omega)
  rw [e3] at e2
  rcases (by omega : z.toInt = 0 ∨ z.toInt = 1 ∨ z.toInt = 2) with q | q | q
  · left; exact Int32.toInt_inj.mp (by rw [q, own_e0])
  · right; left; exact Int32.toInt_inj.mp (by rw [q, own_e1])
  · right; right; exact Int32.toInt_inj.mp (by rw [q, own_i2])
theorem own_dl {d : Int32} {P : Prop} [Decidable P] (h : d = if P then (0 : Int32) else (1 : Int32)) : nar .boolean d = d := by
  rw [h]; split <;> decide
theorem own_binj {a b : Int32} (ha : own_c8 a) (hb : own_c8 b) (h : own_b a = own_b b) : a = b := by
  rw [← own_lat ha.2.1 ha.2.2, ← own_lat hb.2.1 hb.2.2, h]
theorem own_same {z1 z2 c1 c2 d1 d2 : Int32} (h1 : z1 = 0 ∨ z1 = 1 ∨ z1 = 2) (hc1 : own_c8 c1) (hc2 : own_c8 c2) (hd1 : own_c8 d1) (hd2 : own_c8 d2) :
    (z1 = z2 ∧ ∀ j : Int32, ¬ j < 0 → j < z1 → own_b (own_y c1 c2 j) = own_b (own_y d1 d2 j)) ↔ (z1 = z2 ∧ (z1 < (1 : Int32) ∨ c1 = d1) ∧ (z1 < (2 : Int32) ∨ c2 = d2)) := by
  refine and_congr_right fun _ => ⟨fun h => ⟨?_, ?_⟩, fun h j h0 hj => ?_⟩
  · by_cases q : z1 < (1 : Int32)
    · exact Or.inl q
    · right
      have := h 0 (by decide) (by rw [Int32.lt_iff_toInt_lt] at q ⊢; rw [own_e1] at q; rw [own_e0]; omega)
      exact own_binj hc1 hd1 this
  · by_cases q : z1 < (2 : Int32)
    · exact Or.inl q
    · right
      have := h 1 (by decide) (by rw [Int32.lt_iff_toInt_lt] at q ⊢; rw [own_i2] at q; rw [own_e1]; omega)
      exact own_binj hc2 hd2 this
  · rw [Int32.lt_iff_toInt_lt, own_e0] at h0
    by_cases q : j = 0
    · subst q
      rcases h.1 with g | g
      · exfalso; rw [Int32.lt_iff_toInt_lt] at g hj; rw [own_e1] at g; rw [own_e0] at hj; omega
      · show own_b c1 = own_b d1; rw [g]
    · unfold own_y; rw [if_neg q, if_neg q]
      have q' : ¬ j.toInt = 0 := fun x => q (Int32.toInt_inj.mp (by rw [x, own_e0]))
      rcases h.2 with g | g
      · exfalso; rw [Int32.lt_iff_toInt_lt] at g hj; rw [own_i2] at g; omega
      · rw [g]
theorem own_nest {A B C D E : Prop} [Decidable A] [Decidable B] [Decidable C] [Decidable D] [Decidable E] : (if A then (if B then (if D then (1 : Int32) else (if E then (1 : Int32) else (0 : Int32))) else (if C then (if D then (1 : Int32) else (if E then (1 : Int32) else (0 : Int32))) else (0 : Int32))) else (0 : Int32)) = if A ∧ (B ∨ C) ∧ (D ∨ E) then (1 : Int32) else 0 := by
  by_cases a : A <;> by_cases b : B <;> by_cases c : C <;> by_cases d : D <;> by_cases e : E <;> simp [a, b, c, d, e]
theorem own_eqs {z1 z2 c1 c2 d1 d2 sm : Int32} (h1 : z1 = 0 ∨ z1 = 1 ∨ z1 = 2) (hc1 : own_c8 c1) (hc2 : own_c8 c2) (hd1 : own_c8 d1) (hd2 : own_c8 d2) (hsm : sm = (if z1 = z2 then (if z1 < (1 : Int32) then (if z1 < (2 : Int32) then (1 : Int32) else (if c2 = d2 then (1 : Int32) else (0 : Int32))) else (if c1 = d1 then (if z1 < (2 : Int32) then (1 : Int32) else (if c2 = d2 then (1 : Int32) else (0 : Int32))) else (0 : Int32))) else (0 : Int32))) : own_eqf z1 (fun j => own_b (own_y c1 c2 j)) z2 (fun j => own_b (own_y d1 d2 j)) = sm := by
  have q := own_same (z2 := z2) h1 hc1 hc2 hd1 hd2
  have n := own_nest (A := z1 = z2) (B := z1 < (1 : Int32)) (C := c1 = d1) (D := z1 < (2 : Int32)) (E := c2 = d2)
  rw [hsm, n]
  by_cases r : z1 = z2 ∧ (z1 < (1 : Int32) ∨ c1 = d1) ∧ (z1 < (2 : Int32) ∨ c2 = d2)
  · rw [own_eqf1 (q.mpr r), if_pos r]
  · rw [own_eqf0 (fun x => r (q.mp x)), if_neg r]
theorem own_kind0 {e1 e2 ex r : Int32} (h1 : nar .boolean e1 = e1) (h2 : nar .boolean e2 = e2) (hex : ex = (if e1 = e2 then (if r = (0 : Int32) then (0 : Int32) else (1 : Int32)) else (0 : Int32))) : own_ideq (nar .boolean e1) (nar .boolean e2) r = ex := by
  rw [h1, h2, hex]; unfold own_ideq
  by_cases x : e1 = e2 <;> by_cases y : r = 0 <;> simp [x, y]
theorem own_kind0' {e1 e2 ex r r' : Int32} (h1 : nar .boolean e1 = e1) (h2 : nar .boolean e2 = e2) (hr : r' = r) (hex : ex = (if e1 = e2 then (if r = (0 : Int32) then (0 : Int32) else (1 : Int32)) else (0 : Int32))) : own_ideq (nar .boolean e2) (nar .boolean e1) r' = ex := by
  rw [h1, h2, hex, hr]; unfold own_ideq
  by_cases x : e1 = e2
  · subst x; by_cases y : r = 0 <;> simp [y]
  · have x' : ¬ e2 = e1 := fun q => x q.symm
    simp [x, x']
theorem own_eqsym (z1 z2 : Int32) (y1 y2 : Int32 → Int32) : own_eqf z2 y2 z1 y1 = own_eqf z1 y1 z2 y2 := by
  by_cases h : z1 = z2 ∧ ∀ j : Int32, ¬ j < 0 → j < z1 → y1 j = y2 j
  · rw [own_eqf1 h, own_eqf1 ⟨h.1.symm, fun j h0 h1 => (h.2 j h0 (h.1 ▸ h1)).symm⟩]
  · rw [own_eqf0 h, own_eqf0 (fun q => h ⟨q.1.symm, fun j h0 h1 => (q.2 j h0 (q.1 ▸ h1)).symm⟩)]
theorem own_kind3 (d z : Int32) (y : Int32 → Int32) : ¬ own_ideq d d (own_eqf z y z y) = (0 : Int32) := by
  rw [own_eqf1 ⟨rfl, fun _ _ _ => rfl⟩, own_ideq, if_pos rfl]; decide


theorem pn_0 : plainName "com/example/mapwright/mapwright/sql/IdentifierEqualsPinLaw" = true := by first | (simp [plainName, overriddenIn]; done) | decide +kernel
theorem pd_0_0 : parseMethodDescriptor "(ICC)Ljava/lang/String;" = some ⟨[.int, .char, .char], some (.object "java/lang/String")⟩ := by decide +kernel
theorem pd_0_1 : parseMethodDescriptor "(Ljava/lang/String;Z)V" = some ⟨[(.object "java/lang/String"), .boolean], none⟩ := by decide +kernel
theorem pd_0_2 : parseMethodDescriptor "(Ljava/lang/Object;)Z" = some ⟨[(.object "java/lang/Object")], some .boolean⟩ := by decide +kernel
theorem ef_0 (m : MethodId) (x0 : Int32) (x1 : Int32) (x2 : Int32) : entryFrame m #[(.int x0), (.int x1), (.int x2)] maxLocals = mkF m 0 #[.val (.int x0), .val (.int x1), .val (.int x2), .unset, .unset, .unset, .unset, .unset, .unset, .unset, .unset, .unset, .unset, .unset, .unset, .unset, .unset, .unset, .unset, .unset] [] := by first | (simp [entryFrame, mkF, argsToLocals, Value.category, maxLocals]; done) | rfl
def Q0 (n0 : Nat) (v : Option Value) (h : Heap) (L : List Loc) : Prop := v = some (.int 1) ∧ Fr n0 L
set_option maxRecDepth 65536 in
set_option maxHeartbeats 40000000 in
theorem rm0 (l : Launch) (Z : State) (a0 : Array Value) (hw : ∀ d ∈ tables_1, d.before a0 Z = true) (wds : List Jvm.Cond) (p1 : Int32) (p2 : Int32) (p3 : Int32) (w0 : Int32) (h0 : Heap) (n0 : Nat) (Z0 : n0 ≤ h0.size) (OL : Old Z n0 h0) (sts : Sts Z w0) :
    MetFree l x (head1 (Jvm.Cond.code x code maxLocals ret :: wds) room_1) (fun a U => a = #[(.int p1), (.int p2), (.int p3)] ∧ Z.Warmed39 U.vm ∧ U.heap = h0 ∧ CHv Z consts_1 U.vm h0) (fun _ _ _ _ _ => True) (fun _ U o U' => ∃ v L, o = .returned v ∧ Q0 n0 v U'.heap L ∧ CHr Z consts_1 U.vm U.heap U'.vm U'.heap ∧ ReturnedEndW U o U' L room_1.cells room_1.slots) := by
  refine MetFree.of_bodySF (plainFor_of_name pn_0) hisR ?_
  intro p e s m args below meth c s₁ Bd hml0 hP hK
  obtain ⟨rfl, hZ, hh, CHs⟩ := hP
  have hx := Bd.exec
  have hby := Bd.bytes
  have hml : c.maxLocals = 20 := hml0
  have hown : s.vm.findClass "com/example/mapwright/mapwright/sql/IdentifierEqualsPinLaw" = some m.cls := findClass_of_methodNamed Bd.named
  have hnm := (name_of_methodNamed Bd.named Bd.method).1
  have hZ : Z.Warmed39 (s.setVm s.vm).vm := hZ
  have hown : (s.setVm s.vm).vm.findClass "com/example/mapwright/mapwright/sql/IdentifierEqualsPinLaw" = some m.cls := hown
  have X0 : Stand p l e room_1 (s.setVm s.vm) m #[(.int p1), (.int p2), (.int p3)] below meth c s₁ [] 0 0 := Stand.of_body Bd
  have e0 : s₁.heap = h0 := by rw [← hh, Bd.state]; rfl
  have N0 := Fr.nil n0
  have hEL : EW Z a0 consts_1 := own_hEL hw
  have wS := own_wS hw
  have hS0 : s.Since s.vm h0.size := (State.WarmedH.refl s).since _
  have hk0 : h0.size ≤ h0.size := Nat.le_refl _
  have CH0 : CHr Z consts_1 s.vm h0 s.vm h0 := CHr.refl CHs
  refine ownS_start (Z := Z) (EL := consts_1) (Q := Q0 n0) (C := room_1.cells) (S := room_1.slots) ?_
  rw [ef_0 m p1 p2 p3]
  obtain ⟨SC, hw0⟩ := id sts
  refine Gen.on (b := s₁.setTop (mkF m 1 #[.val (.int p1), .val (.int p2), .val (.int p3), .unset, .unset, .unset, .unset, .unset, .unset, .unset, .unset, .unset, .unset, .unset, .unset, .unset, .unset, .unset, .unset, .unset] [(.int p1)])) ?_ (fun t k => XS.iloadN X0.here hx rfl (hb hby at_0) rfl k)
  refine Gen.on (b := s₁.setTop (mkF m 4 #[.val (.int p1), .val (.int p2), .val (.int p3), .unset, .unset, .unset, .unset, .unset, .unset, .unset, .unset, .unset, .unset, .unset, .unset, .unset, .unset, .unset, .unset, .unset] [(.int (255 : Int32)), (.int p1)])) ?_ (fun t k => XS.sipush X0.here hx rfl (hb hby at_1) k)
  refine Gen.on (b := s₁.setTop (mkF m 5 #[.val (.int p1), .val (.int p2), .val (.int p3), .unset, .unset, .unset, .unset, .unset, .unset, .unset, .unset, .unset, .unset, .unset, .unset, .unset, .unset, .unset, .unset, .unset] [(.int (p1 &&& (255 : Int32)))])) ?_ (fun t k => XS.iand X0.here hx rfl (hb hby at_4) rfl k)
  refine Gen.on (b := s₁.setTop (mkF m 6 #[.val (.int p1), .val (.int p2), .val (.int p3), .unset, .unset, .unset, .unset, .unset, .unset, .unset, .unset, .unset, .unset, .unset, .unset, .unset, .unset, .unset, .unset, .unset] [(.int (p1 &&& (255 : Int32)).toUInt32.toUInt16.toUInt32.toInt32)])) ?_ (fun t k => XS.i2c X0.here hx rfl (hb hby at_5) rfl k)
  refine Gen.on (b := s₁.setTop (mkF m 7 #[.val (.int p1), .val (.int p2), .val (.int p3), .val (.int (p1 &&& (255 : Int32)).toUInt32.toUInt16.toUInt32.toInt32), .unset, .unset, .unset, .unset, .unset, .unset, .unset, .unset, .unset, .unset, .unset, .unset, .unset, .unset, .unset, .unset] [])) ?_ (fun t k => XS.istoreN X0.here hx rfl (hb hby at_6) rfl (l' := #[.val (.int p1), .val (.int p2), .val (.int p3), .val (.int (p1 &&& (255 : Int32)).toUInt32.toUInt16.toUInt32.toInt32), .unset, .unset, .unset, .unset, .unset, .unset, .unset, .unset, .unset, .unset, .unset, .unset, .unset, .unset, .unset, .unset]) rfl k)
  obtain ⟨c1, h_c1⟩ : ∃ z, z = (p1 &&& (255 : Int32)).toUInt32.toUInt16.toUInt32.toInt32 := ⟨_, rfl⟩
  rw [← h_c1]
  have k_c1 := own_c8m _ h_c1
  refine Gen.on (b := s₁.setTop (mkF m 8 #[.val (.int p1), .val (.int p2), .val (.int p3), .val (.int c1), .unset, .unset, .unset, .unset, .unset, .unset, .unset, .unset, .unset, .unset, .unset, .unset, .unset, .unset, .unset, .unset] [(.int p1)])) ?_ (fun t k => XS.iloadN X0.here hx rfl (hb hby at_7) rfl k)
  refine Gen.on (b := s₁.setTop (mkF m 10 #[.val (.int p1), .val (.int p2), .val (.int p3), .val (.int c1), .unset, .unset, .unset, .unset, .unset, .unset, .unset, .unset, .unset, .unset, .unset, .unset, .unset, .unset, .unset, .unset] [(.int (8 : Int32)), (.int p1)])) ?_ (fun t k => XS.bipush X0.here hx rfl (hb hby at_8) k)
  refine Gen.on (b := s₁.setTop (mkF m 11 #[.val (.int p1), .val (.int p2), .val (.int p3), .val (.int c1), .unset, .unset, .unset, .unset, .unset, .unset, .unset, .unset, .unset, .unset, .unset, .unset, .unset, .unset, .unset, .unset] [(.int ((p1.toUInt32 >>> ((8 : Int32) &&& 31).toUInt32).toInt32))])) ?_ (fun t k => XS.iushr X0.here hx rfl (hb hby at_10) rfl k)
  refine Gen.on (b := s₁.setTop (mkF m 14 #[.val (.int p1), .val (.int p2), .val (.int p3), .val (.int c1), .unset, .unset, .unset, .unset, .unset, .unset, .unset, .unset, .unset, .unset, .unset, .unset, .unset, .unset, .unset, .unset] [(.int (255 : Int32)), (.int ((p1.toUInt32 >>> ((8 : Int32) &&& 31).toUInt32).toInt32))])) ?_ (fun t k => XS.sipush X0.here hx rfl (hb hby at_11) k)
  refine Gen.on (b := s₁.setTop (mkF m 15 #[.val (.int p1), .val (.int p2), .val (.int p3), .val (.int c1), .unset, .unset, .unset, .unset, .unset, .unset, .unset, .unset, .unset, .unset, .unset, .unset, .unset, .unset, .unset, .unset] [(.int (((p1.toUInt32 >>> ((8 : Int32) &&& 31).toUInt32).toInt32) &&& (255 : Int32)))])) ?_ (fun t k => XS.iand X0.here hx rfl (hb hby at_14) rfl k)
  refine Gen.on (b := s₁.setTop (mkF m 16 #[.val (.int p1), .val (.int p2), .val (.int p3), .val (.int c1), .unset, .unset, .unset, .unset, .unset, .unset, .unset, .unset, .unset, .unset, .unset, .unset, .unset, .unset, .unset, .unset] [(.int (((p1.toUInt32 >>> ((8 : Int32) &&& 31).toUInt32).toInt32) &&& (255 : Int32)).toUInt32.toUInt16.toUInt32.toInt32)])) ?_ (fun t k => XS.i2c X0.here hx rfl (hb hby at_15) rfl k)
  refine Gen.on (b := s₁.setTop (mkF m 18 #[.val (.int p1), .val (.int p2), .val (.int p3), .val (.int c1), .val (.int (((p1.toUInt32 >>> ((8 : Int32) &&& 31).toUInt32).toInt32) &&& (255 : Int32)).toUInt32.toUInt16.toUInt32.toInt32), .unset, .unset, .unset, .unset, .unset, .unset, .unset, .unset, .unset, .unset, .unset, .unset, .unset, .unset, .unset] [])) ?_ (fun t k => XS.istore X0.here hx rfl (hb hby at_16) rfl (l' := #[.val (.int p1), .val (.int p2), .val (.int p3), .val (.int c1), .val (.int (((p1.toUInt32 >>> ((8 : Int32) &&& 31).toUInt32).toInt32) &&& (255 : Int32)).toUInt32.toUInt16.toUInt32.toInt32), .unset, .unset, .unset, .unset, .unset, .unset, .unset, .unset, .unset, .unset, .unset, .unset, .unset, .unset, .unset]) rfl k)
  obtain ⟨c2, h_c2⟩ : ∃ z, z = (((p1.toUInt32 >>> ((8 : Int32) &&& 31).toUInt32).toInt32) &&& (255 : Int32)).toUInt32.toUInt16.toUInt32.toInt32 := ⟨_, rfl⟩
  rw [← h_c2]
  have k_c2 := own_c8m _ h_c2
  obtain ⟨_, st1, T1, X1, e1, rfl⟩ : Gen p e below (own_at X0 h0 (mkF m 37 #[.val (.int p1), .val (.int p2), .val (.int p3), .val (.int c1), .val (.int c2), .unset, .unset, .unset, .unset, .unset, .unset, .unset, .unset, .unset, .unset, .unset, .unset, .unset, .unset, .unset] [(.int (if (p2 &&& (1 : Int32)) = (0 : Int32) then (((p2.toUInt32 >>> ((8 : Int32) &&& 31).toUInt32).toInt32) &&& (255 : Int32)).toUInt32.toUInt16.toUInt32.toInt32 else c1))])) (s₁.setTop (mkF m 18 #[.val (.int p1), .val (.int p2), .val (.int p3), .val (.int c1), .val (.int c2), .unset, .unset, .unset, .unset, .unset, .unset, .unset, .unset, .unset, .unset, .unset, .unset, .unset, .unset, .unset] [])) := by
    refine Gen.on (b := s₁.setTop (mkF m 19 #[.val (.int p1), .val (.int p2), .val (.int p3), .val (.int c1), .val (.int c2), .unset, .unset, .unset, .unset, .unset, .unset, .unset, .unset, .unset, .unset, .unset, .unset, .unset, .unset, .unset] [(.int p2)])) ?_ (fun t k => XS.iloadN X0.here hx rfl (hb hby at_18) rfl k)
    refine Gen.on (b := s₁.setTop (mkF m 20 #[.val (.int p1), .val (.int p2), .val (.int p3), .val (.int c1), .val (.int c2), .unset, .unset, .unset, .unset, .unset, .unset, .unset, .unset, .unset, .unset, .unset, .unset, .unset, .unset, .unset] [(.int (1 : Int32)), (.int p2)])) ?_ (fun t k => XS.iconst X0.here hx rfl (hb hby at_19) k)
    refine Gen.on (b := s₁.setTop (mkF m 21 #[.val (.int p1), .val (.int p2), .val (.int p3), .val (.int c1), .val (.int c2), .unset, .unset, .unset, .unset, .unset, .unset, .unset, .unset, .unset, .unset, .unset, .unset, .unset, .unset, .unset] [(.int (p2 &&& (1 : Int32)))])) ?_ (fun t k => XS.iand X0.here hx rfl (hb hby at_20) rfl k)
    by_cases c21_1 : (p2 &&& (1 : Int32)) = (0 : Int32)
    · refine Gen.on (b := s₁.setTop (mkF m 28 #[.val (.int p1), .val (.int p2), .val (.int p3), .val (.int c1), .val (.int c2), .unset, .unset, .unset, .unset, .unset, .unset, .unset, .unset, .unset, .unset, .unset, .unset, .unset, .unset, .unset] [])) ?_ (fun t k => XS.ifYes X0.here hx rfl (pc0 := 21) (pc' := 28) rfl (hb hby at_21) rfl ((if0 _ _).trans (teq c21_1).1) (by decide) (by decide) k)
      refine Gen.on (b := s₁.setTop (mkF m 29 #[.val (.int p1), .val (.int p2), .val (.int p3), .val (.int c1), .val (.int c2), .unset, .unset, .unset, .unset, .unset, .unset, .unset, .unset, .unset, .unset, .unset, .unset, .unset, .unset, .unset] [(.int p2)])) ?_ (fun t k => XS.iloadN X0.here hx rfl (hb hby at_28) rfl k)
      refine Gen.on (b := s₁.setTop (mkF m 31 #[.val (.int p1), .val (.int p2), .val (.int p3), .val (.int c1), .val (.int c2), .unset, .unset, .unset, .unset, .unset, .unset, .unset, .unset, .unset, .unset, .unset, .unset, .unset, .unset, .unset] [(.int (8 : Int32)), (.int p2)])) ?_ (fun t k => XS.bipush X0.here hx rfl (hb hby at_29) k)
      refine Gen.on (b := s₁.setTop (mkF m 32 #[.val (.int p1), .val (.int p2), .val (.int p3), .val (.int c1), .val (.int c2), .unset, .unset, .unset, .unset, .unset, .unset, .unset, .unset, .unset, .unset, .unset, .unset, .unset, .unset, .unset] [(.int ((p2.toUInt32 >>> ((8 : Int32) &&& 31).toUInt32).toInt32))])) ?_ (fun t k => XS.iushr X0.here hx rfl (hb hby at_31) rfl k)
      refine Gen.on (b := s₁.setTop (mkF m 35 #[.val (.int p1), .val (.int p2), .val (.int p3), .val (.int c1), .val (.int c2), .unset, .unset, .unset, .unset, .unset, .unset, .unset, .unset, .unset, .unset, .unset, .unset, .unset, .unset, .unset] [(.int (255 : Int32)), (.int ((p2.toUInt32 >>> ((8 : Int32) &&& 31).toUInt32).toInt32))])) ?_ (fun t k => XS.sipush X0.here hx rfl (hb hby at_32) k)
      refine Gen.on (b := s₁.setTop (mkF m 36 #[.val (.int p1), .val (.int p2), .val (.int p3), .val (.int c1), .val (.int c2), .unset, .unset, .unset, .unset, .unset, .unset, .unset, .unset, .unset, .unset, .unset, .unset, .unset, .unset, .unset] [(.int (((p2.toUInt32 >>> ((8 : Int32) &&& 31).toUInt32).toInt32) &&& (255 : Int32)))])) ?_ (fun t k => XS.iand X0.here hx rfl (hb hby at_35) rfl k)
      refine Gen.on (b := s₁.setTop (mkF m 37 #[.val (.int p1), .val (.int p2), .val (.int p3), .val (.int c1), .val (.int c2), .unset, .unset, .unset, .unset, .unset, .unset, .unset, .unset, .unset, .unset, .unset, .unset, .unset, .unset, .unset] [(.int (((p2.toUInt32 >>> ((8 : Int32) &&& 31).toUInt32).toInt32) &&& (255 : Int32)).toUInt32.toUInt16.toUInt32.toInt32)])) ?_ (fun t k => XS.i2c X0.here hx rfl (hb hby at_36) rfl k)
      exact ⟨_, Steps.refl _, s₁, X0, e0, by simp only [if_pos c21_1]⟩
    · refine Gen.on (b := s₁.setTop (mkF m 24 #[.val (.int p1), .val (.int p2), .val (.int p3), .val (.int c1), .val (.int c2), .unset, .unset, .unset, .unset, .unset, .unset, .unset, .unset, .unset, .unset, .unset, .unset, .unset, .unset, .unset] [])) ?_ (fun t k => XS.ifNo X0.here hx rfl (hb hby at_21) rfl ((if0 _ _).trans (feq c21_1).1) k)
      refine Gen.on (b := s₁.setTop (mkF m 25 #[.val (.int p1), .val (.int p2), .val (.int p3), .val (.int c1), .val (.int c2), .unset, .unset, .unset, .unset, .unset, .unset, .unset, .unset, .unset, .unset, .unset, .unset, .unset, .unset, .unset] [(.int c1)])) ?_ (fun t k => XS.iloadN X0.here hx rfl (hb hby at_24) rfl k)
      refine Gen.on (b := s₁.setTop (mkF m 37 #[.val (.int p1), .val (.int p2), .val (.int p3), .val (.int c1), .val (.int c2), .unset, .unset, .unset, .unset, .unset, .unset, .unset, .unset, .unset, .unset, .unset, .unset, .unset, .unset, .unset] [(.int c1)])) ?_ (fun t k => XS.goto X0.here hx rfl (pc0 := 25) (pc' := 37) rfl (hb hby at_25) (by decide) (by decide) k)
      exact ⟨_, Steps.refl _, s₁, X0, e0, by simp only [if_neg c21_1]⟩
  refine Gen.on (b := T1.setTop (mkF m 37 #[.val (.int p1), .val (.int p2), .val (.int p3), .val (.int c1), .val (.int c2), .unset, .unset, .unset, .unset, .unset, .unset, .unset, .unset, .unset, .unset, .unset, .unset, .unset, .unset, .unset] [(.int (if (p2 &&& (1 : Int32)) = (0 : Int32) then (((p2.toUInt32 >>> ((8 : Int32) &&& 31).toUInt32).toInt32) &&& (255 : Int32)).toUInt32.toUInt16.toUInt32.toInt32 else c1))])) ?_ (fun t k => st1.trans k)
  refine Gen.on (b := T1.setTop (mkF m 39 #[.val (.int p1), .val (.int p2), .val (.int p3), .val (.int c1), .val (.int c2), .val (.int (if (p2 &&& (1 : Int32)) = (0 : Int32) then (((p2.toUInt32 >>> ((8 : Int32) &&& 31).toUInt32).toInt32) &&& (255 : Int32)).toUInt32.toUInt16.toUInt32.toInt32 else c1)), .unset, .unset, .unset, .unset, .unset, .unset, .unset, .unset, .unset, .unset, .unset, .unset, .unset, .unset] [])) ?_ (fun t k => XS.istore X1.here hx rfl (hb hby at_37) rfl (l' := #[.val (.int p1), .val (.int p2), .val (.int p3), .val (.int c1), .val (.int c2), .val (.int (if (p2 &&& (1 : Int32)) = (0 : Int32) then (((p2.toUInt32 >>> ((8 : Int32) &&& 31).toUInt32).toInt32) &&& (255 : Int32)).toUInt32.toUInt16.toUInt32.toInt32 else c1)), .unset, .unset, .unset, .unset, .unset, .unset, .unset, .unset, .unset, .unset, .unset, .unset, .unset, .unset]) rfl k)
  obtain ⟨d1, h_d1⟩ : ∃ z, z = (if (p2 &&& (1 : Int32)) = (0 : Int32) then (((p2.toUInt32 >>> ((8 : Int32) &&& 31).toUInt32).toInt32) &&& (255 : Int32)).toUInt32.toUInt16.toUInt32.toInt32 else c1) := ⟨_, rfl⟩
  rw [← h_d1]
  have k_d1 := own_c8i h_d1 (own_c8m _ rfl) k_c1
  obtain ⟨_, st2, T2, X2, e2, rfl⟩ : Gen p e below (own_at X1 h0 (mkF m 59 #[.val (.int p1), .val (.int p2), .val (.int p3), .val (.int c1), .val (.int c2), .val (.int d1), .unset, .unset, .unset, .unset, .unset, .unset, .unset, .unset, .unset, .unset, .unset, .unset, .unset, .unset] [(.int (if (p2 &&& (2 : Int32)) = (0 : Int32) then (((p2.toUInt32 >>> ((16 : Int32) &&& 31).toUInt32).toInt32) &&& (255 : Int32)).toUInt32.toUInt16.toUInt32.toInt32 else c2))])) (T1.setTop (mkF m 39 #[.val (.int p1), .val (.int p2), .val (.int p3), .val (.int c1), .val (.int c2), .val (.int d1), .unset, .unset, .unset, .unset, .unset, .unset, .unset, .unset, .unset, .unset, .unset, .unset, .unset, .unset] [])) := by
    refine Gen.on (b := T1.setTop (mkF m 40 #[.val (.int p1), .val (.int p2), .val (.int p3), .val (.int c1), .val (.int c2), .val (.int d1), .unset, .unset, .unset, .unset, .unset, .unset, .unset, .unset, .unset, .unset, .unset, .unset, .unset, .unset] [(.int p2)])) ?_ (fun t k => XS.iloadN X1.here hx rfl (hb hby at_39) rfl k)
    refine Gen.on (b := T1.setTop (mkF m 41 #[.val (.int p1), .val (.int p2), .val (.int p3), .val (.int c1), .val (.int c2), .val (.int d1), .unset, .unset, .unset, .unset, .unset, .unset, .unset, .unset, .unset, .unset, .unset, .unset, .unset, .unset] [(.int (2 : Int32)), (.int p2)])) ?_ (fun t k => XS.iconst X1.here hx rfl (hb hby at_40) k)
    refine Gen.on (b := T1.setTop (mkF m 42 #[.val (.int p1), .val (.int p2), .val (.int p3), .val (.int c1), .val (.int c2), .val (.int d1), .unset, .unset, .unset, .unset, .unset, .unset, .unset, .unset, .unset, .unset, .unset, .unset, .unset, .unset] [(.int (p2 &&& (2 : Int32)))])) ?_ (fun t k => XS.iand X1.here hx rfl (hb hby at_41) rfl k)
    by_cases c42_2 : (p2 &&& (2 : Int32)) = (0 : Int32)
    · refine Gen.on (b := T1.setTop (mkF m 50 #[.val (.int p1), .val (.int p2), .val (.int p3), .val (.int c1), .val (.int c2), .val (.int d1), .unset, .unset, .unset, .unset, .unset, .unset, .unset, .unset, .unset, .unset, .unset, .unset, .unset, .unset] [])) ?_ (fun t k => XS.ifYes X1.here hx rfl (pc0 := 42) (pc' := 50) rfl (hb hby at_42) rfl ((if0 _ _).trans (teq c42_2).1) (by decide) (by decide) k)
      refine Gen.on (b := T1.setTop (mkF m 51 #[.val (.int p1), .val (.int p2), .val (.int p3), .val (.int c1), .val (.int c2), .val (.int d1), .unset, .unset, .unset, .unset, .unset, .unset, .unset, .unset, .unset, .unset, .unset, .unset, .unset, .unset] [(.int p2)])) ?_ (fun t k => XS.iloadN X1.here hx rfl (hb hby at_50) rfl k)
      refine Gen.on (b := T1.setTop (mkF m 53 #[.val (.int p1), .val (.int p2), .val (.int p3), .val (.int c1), .val (.int c2), .val (.int d1), .unset, .unset, .unset, .unset, .unset, .unset, .unset, .unset, .unset, .unset, .unset, .unset, .unset, .unset] [(.int (16 : Int32)), (.int p2)])) ?_ (fun t k => XS.bipush X1.here hx rfl (hb hby at_51) k)
      refine Gen.on (b := T1.setTop (mkF m 54 #[.val (.int p1), .val (.int p2), .val (.int p3), .val (.int c1), .val (.int c2), .val (.int d1), .unset, .unset, .unset, .unset, .unset, .unset, .unset, .unset, .unset, .unset, .unset, .unset, .unset, .unset] [(.int ((p2.toUInt32 >>> ((16 : Int32) &&& 31).toUInt32).toInt32))])) ?_ (fun t k => XS.iushr X1.here hx rfl (hb hby at_53) rfl k)
      refine Gen.on (b := T1.setTop (mkF m 57 #[.val (.int p1), .val (.int p2), .val (.int p3), .val (.int c1), .val (.int c2), .val (.int d1), .unset, .unset, .unset, .unset, .unset, .unset, .unset, .unset, .unset, .unset, .unset, .unset, .unset, .unset] [(.int (255 : Int32)), (.int ((p2.toUInt32 >>> ((16 : Int32) &&& 31).toUInt32).toInt32))])) ?_ (fun t k => XS.sipush X1.here hx rfl (hb hby at_54) k)
      refine Gen.on (b := T1.setTop (mkF m 58 #[.val (.int p1), .val (.int p2), .val (.int p3), .val (.int c1), .val (.int c2), .val (.int d1), .unset, .unset, .unset, .unset, .unset, .unset, .unset, .unset, .unset, .unset, .unset, .unset, .unset, .unset] [(.int (((p2.toUInt32 >>> ((16 : Int32) &&& 31).toUInt32).toInt32) &&& (255 : Int32)))])) ?_ (fun t k => XS.iand X1.here hx rfl (hb hby at_57) rfl k)
      refine Gen.on (b := T1.setTop (mkF m 59 #[.val (.int p1), .val (.int p2), .val (.int p3), .val (.int c1), .val (.int c2), .val (.int d1), .unset, .unset, .unset, .unset, .unset, .unset, .unset, .unset, .unset, .unset, .unset, .unset, .unset, .unset] [(.int (((p2.toUInt32 >>> ((16 : Int32) &&& 31).toUInt32).toInt32) &&& (255 : Int32)).toUInt32.toUInt16.toUInt32.toInt32)])) ?_ (fun t k => XS.i2c X1.here hx rfl (hb hby at_58) rfl k)
      exact ⟨_, Steps.refl _, T1, X1, e1, by simp only [if_pos c42_2]⟩
    · refine Gen.on (b := T1.setTop (mkF m 45 #[.val (.int p1), .val (.int p2), .val (.int p3), .val (.int c1), .val (.int c2), .val (.int d1), .unset, .unset, .unset, .unset, .unset, .unset, .unset, .unset, .unset, .unset, .unset, .unset, .unset, .unset] [])) ?_ (fun t k => XS.ifNo X1.here hx rfl (hb hby at_42) rfl ((if0 _ _).trans (feq c42_2).1) k)
      refine Gen.on (b := T1.setTop (mkF m 47 #[.val (.int p1), .val (.int p2), .val (.int p3), .val (.int c1), .val (.int c2), .val (.int d1), .unset, .unset, .unset, .unset, .unset, .unset, .unset, .unset, .unset, .unset, .unset, .unset, .unset, .unset] [(.int c2)])) ?_ (fun t k => XS.iload X1.here hx rfl (hb hby at_45) rfl k)
      refine Gen.on (b := T1.setTop (mkF m 59 #[.val (.int p1), .val (.int p2), .val (.int p3), .val (.int c1), .val (.int c2), .val (.int d1), .unset, .unset, .unset, .unset, .unset, .unset, .unset, .unset, .unset, .unset, .unset, .unset, .unset, .unset] [(.int c2)])) ?_ (fun t k => XS.goto X1.here hx rfl (pc0 := 47) (pc' := 59) rfl (hb hby at_47) (by decide) (by decide) k)
      exact ⟨_, Steps.refl _, T1, X1, e1, by simp only [if_neg c42_2]⟩
  refine Gen.on (b := T2.setTop (mkF m 59 #[.val (.int p1), .val (.int p2), .val (.int p3), .val (.int c1), .val (.int c2), .val (.int d1), .unset, .unset, .unset, .unset, .unset, .unset, .unset, .unset, .unset, .unset, .unset, .unset, .unset, .unset] [(.int (if (p2 &&& (2 : Int32)) = (0 : Int32) then (((p2.toUInt32 >>> ((16 : Int32) &&& 31).toUInt32).toInt32) &&& (255 : Int32)).toUInt32.toUInt16.toUInt32.toInt32 else c2))])) ?_ (fun t k => st2.trans k)
  refine Gen.on (b := T2.setTop (mkF m 61 #[.val (.int p1), .val (.int p2), .val (.int p3), .val (.int c1), .val (.int c2), .val (.int d1), .val (.int (if (p2 &&& (2 : Int32)) = (0 : Int32) then (((p2.toUInt32 >>> ((16 : Int32) &&& 31).toUInt32).toInt32) &&& (255 : Int32)).toUInt32.toUInt16.toUInt32.toInt32 else c2)), .unset, .unset, .unset, .unset, .unset, .unset, .unset, .unset, .unset, .unset, .unset, .unset, .unset] [])) ?_ (fun t k => XS.istore X2.here hx rfl (hb hby at_59) rfl (l' := #[.val (.int p1), .val (.int p2), .val (.int p3), .val (.int c1), .val (.int c2), .val (.int d1), .val (.int (if (p2 &&& (2 : Int32)) = (0 : Int32) then (((p2.toUInt32 >>> ((16 : Int32) &&& 31).toUInt32).toInt32) &&& (255 : Int32)).toUInt32.toUInt16.toUInt32.toInt32 else c2)), .unset, .unset, .unset, .unset, .unset, .unset, .unset, .unset, .unset, .unset, .unset, .unset, .unset]) rfl k)
  obtain ⟨d2, h_d2⟩ : ∃ z, z = (if (p2 &&& (2 : Int32)) = (0 : Int32) then (((p2.toUInt32 >>> ((16 : Int32) &&& 31).toUInt32).toInt32) &&& (255 : Int32)).toUInt32.toUInt16.toUInt32.toInt32 else c2) := ⟨_, rfl⟩
  rw [← h_d2]
  have k_d2 := own_c8i h_d2 (own_c8m _ rfl) k_c2
  refine Gen.on (b := T2.setTop (mkF m 62 #[.val (.int p1), .val (.int p2), .val (.int p3), .val (.int c1), .val (.int c2), .val (.int d1), .val (.int d2), .unset, .unset, .unset, .unset, .unset, .unset, .unset, .unset, .unset, .unset, .unset, .unset, .unset] [(.int p3)])) ?_ (fun t k => XS.iloadN X2.here hx rfl (hb hby at_61) rfl k)
  refine Gen.on (b := T2.setTop (mkF m 63 #[.val (.int p1), .val (.int p2), .val (.int p3), .val (.int c1), .val (.int c2), .val (.int d1), .val (.int d2), .unset, .unset, .unset, .unset, .unset, .unset, .unset, .unset, .unset, .unset, .unset, .unset, .unset] [(.int (3 : Int32)), (.int p3)])) ?_ (fun t k => XS.iconst X2.here hx rfl (hb hby at_62) k)
  refine Gen.on (b := T2.setTop (mkF m 64 #[.val (.int p1), .val (.int p2), .val (.int p3), .val (.int c1), .val (.int c2), .val (.int d1), .val (.int d2), .unset, .unset, .unset, .unset, .unset, .unset, .unset, .unset, .unset, .unset, .unset, .unset, .unset] [(.int (p3 &&& (3 : Int32)))])) ?_ (fun t k => XS.iand X2.here hx rfl (hb hby at_63) rfl k)
  refine Gen.on (b := T2.setTop (mkF m 65 #[.val (.int p1), .val (.int p2), .val (.int p3), .val (.int c1), .val (.int c2), .val (.int d1), .val (.int d2), .unset, .unset, .unset, .unset, .unset, .unset, .unset, .unset, .unset, .unset, .unset, .unset, .unset] [(.int (3 : Int32)), (.int (p3 &&& (3 : Int32)))])) ?_ (fun t k => XS.iconst X2.here hx rfl (hb hby at_64) k)
  refine Gen.on (b := T2.setTop (mkF m 66 #[.val (.int p1), .val (.int p2), .val (.int p3), .val (.int c1), .val (.int c2), .val (.int d1), .val (.int d2), .unset, .unset, .unset, .unset, .unset, .unset, .unset, .unset, .unset, .unset, .unset, .unset, .unset] [(.int ((p3 &&& (3 : Int32)) % (3 : Int32)))])) ?_ (fun t k => iremM X2 hx rfl (hb hby at_65) rfl (by decide) k)
  refine Gen.on (b := T2.setTop (mkF m 68 #[.val (.int p1), .val (.int p2), .val (.int p3), .val (.int c1), .val (.int c2), .val (.int d1), .val (.int d2), .val (.int ((p3 &&& (3 : Int32)) % (3 : Int32))), .unset, .unset, .unset, .unset, .unset, .unset, .unset, .unset, .unset, .unset, .unset, .unset] [])) ?_ (fun t k => XS.istore X2.here hx rfl (hb hby at_66) rfl (l' := #[.val (.int p1), .val (.int p2), .val (.int p3), .val (.int c1), .val (.int c2), .val (.int d1), .val (.int d2), .val (.int ((p3 &&& (3 : Int32)) % (3 : Int32))), .unset, .unset, .unset, .unset, .unset, .unset, .unset, .unset, .unset, .unset, .unset, .unset]) rfl k)
  obtain ⟨l1, h_l1⟩ : ∃ z, z = ((p3 &&& (3 : Int32)) % (3 : Int32)) := ⟨_, rfl⟩
  rw [← h_l1]
  have k_l1 := own_len _ h_l1
  refine Gen.on (b := T2.setTop (mkF m 69 #[.val (.int p1), .val (.int p2), .val (.int p3), .val (.int c1), .val (.int c2), .val (.int d1), .val (.int d2), .val (.int l1), .unset, .unset, .unset, .unset, .unset, .unset, .unset, .unset, .unset, .unset, .unset, .unset] [(.int p3)])) ?_ (fun t k => XS.iloadN X2.here hx rfl (hb hby at_68) rfl k)
  refine Gen.on (b := T2.setTop (mkF m 70 #[.val (.int p1), .val (.int p2), .val (.int p3), .val (.int c1), .val (.int c2), .val (.int d1), .val (.int d2), .val (.int l1), .unset, .unset, .unset, .unset, .unset, .unset, .unset, .unset, .unset, .unset, .unset, .unset] [(.int (2 : Int32)), (.int p3)])) ?_ (fun t k => XS.iconst X2.here hx rfl (hb hby at_69) k)
  refine Gen.on (b := T2.setTop (mkF m 71 #[.val (.int p1), .val (.int p2), .val (.int p3), .val (.int c1), .val (.int c2), .val (.int d1), .val (.int d2), .val (.int l1), .unset, .unset, .unset, .unset, .unset, .unset, .unset, .unset, .unset, .unset, .unset, .unset] [(.int ((p3.toUInt32 >>> ((2 : Int32) &&& 31).toUInt32).toInt32))])) ?_ (fun t k => XS.iushr X2.here hx rfl (hb hby at_70) rfl k)
  refine Gen.on (b := T2.setTop (mkF m 72 #[.val (.int p1), .val (.int p2), .val (.int p3), .val (.int c1), .val (.int c2), .val (.int d1), .val (.int d2), .val (.int l1), .unset, .unset, .unset, .unset, .unset, .unset, .unset, .unset, .unset, .unset, .unset, .unset] [(.int (3 : Int32)), (.int ((p3.toUInt32 >>> ((2 : Int32) &&& 31).toUInt32).toInt32))])) ?_ (fun t k => XS.iconst X2.here hx rfl (hb hby at_71) k)
  refine Gen.on (b := T2.setTop (mkF m 73 #[.val (.int p1), .val (.int p2), .val (.int p3), .val (.int c1), .val (.int c2), .val (.int d1), .val (.int d2), .val (.int l1), .unset, .unset, .unset, .unset, .unset, .unset, .unset, .unset, .unset, .unset, .unset, .unset] [(.int (((p3.toUInt32 >>> ((2 : Int32) &&& 31).toUInt32).toInt32) &&& (3 : Int32)))])) ?_ (fun t k => XS.iand X2.here hx rfl (hb hby at_72) rfl k)
  refine Gen.on (b := T2.setTop (mkF m 74 #[.val (.int p1), .val (.int p2), .val (.int p3), .val (.int c1), .val (.int c2), .val (.int d1), .val (.int d2), .val (.int l1), .unset, .unset, .unset, .unset, .unset, .unset, .unset, .unset, .unset, .unset, .unset, .unset] [(.int (3 : Int32)), (.int (((p3.toUInt32 >>> ((2 : Int32) &&& 31).toUInt32).toInt32) &&& (3 : Int32)))])) ?_ (fun t k => XS.iconst X2.here hx rfl (hb hby at_73) k)
  refine Gen.on (b := T2.setTop (mkF m 75 #[.val (.int p1), .val (.int p2), .val (.int p3), .val (.int c1), .val (.int c2), .val (.int d1), .val (.int d2), .val (.int l1), .unset, .unset, .unset, .unset, .unset, .unset, .unset, .unset, .unset, .unset, .unset, .unset] [(.int ((((p3.toUInt32 >>> ((2 : Int32) &&& 31).toUInt32).toInt32) &&& (3 : Int32)) % (3 : Int32)))])) ?_ (fun t k => iremM X2 hx rfl (hb hby at_74) rfl (by decide) k)
  refine Gen.on (b := T2.setTop (mkF m 77 #[.val (.int p1), .val (.int p2), .val (.int p3), .val (.int c1), .val (.int c2), .val (.int d1), .val (.int d2), .val (.int l1), .val (.int ((((p3.toUInt32 >>> ((2 : Int32) &&& 31).toUInt32).toInt32) &&& (3 : Int32)) % (3 : Int32))), .unset, .unset, .unset, .unset, .unset, .unset, .unset, .unset, .unset, .unset, .unset] [])) ?_ (fun t k => XS.istore X2.here hx rfl (hb hby at_75) rfl (l' := #[.val (.int p1), .val (.int p2), .val (.int p3), .val (.int c1), .val (.int c2), .val (.int d1), .val (.int d2), .val (.int l1), .val (.int ((((p3.toUInt32 >>> ((2 : Int32) &&& 31).toUInt32).toInt32) &&& (3 : Int32)) % (3 : Int32))), .unset, .unset, .unset, .unset, .unset, .unset, .unset, .unset, .unset, .unset, .unset]) rfl k)
  obtain ⟨l2, h_l2⟩ : ∃ z, z = ((((p3.toUInt32 >>> ((2 : Int32) &&& 31).toUInt32).toInt32) &&& (3 : Int32)) % (3 : Int32)) := ⟨_, rfl⟩
  rw [← h_l2]
  have k_l2 := own_len _ h_l2
  obtain ⟨_, st3, T3, X3, e3, rfl⟩ : Gen p e below (own_at X2 h0 (mkF m 89 #[.val (.int p1), .val (.int p2), .val (.int p3), .val (.int c1), .val (.int c2), .val (.int d1), .val (.int d2), .val (.int l1), .val (.int l2), .unset, .unset, .unset, .unset, .unset, .unset, .unset, .unset, .unset, .unset, .unset] [(.int (if (p3 &&& (16 : Int32)) = (0 : Int32) then (0 : Int32) else (1 : Int32)))])) (T2.setTop (mkF m 77 #[.val (.int p1), .val (.int p2), .val (.int p3), .val (.int c1), .val (.int c2), .val (.int d1), .val (.int d2), .val (.int l1), .val (.int l2), .unset, .unset, .unset, .unset, .unset, .unset, .unset, .unset, .unset, .unset, .unset] [])) := by
    refine Gen.on (b := T2.setTop (mkF m 78 #[.val (.int p1), .val (.int p2), .val (.int p3), .val (.int c1), .val (.int c2), .val (.int d1), .val (.int d2), .val (.int l1), .val (.int l2), .unset, .unset, .unset, .unset, .unset, .unset, .unset, .unset, .unset, .unset, .unset] [(.int p3)])) ?_ (fun t k => XS.iloadN X2.here hx rfl (hb hby at_77) rfl k)
    refine Gen.on (b := T2.setTop (mkF m 80 #[.val (.int p1), .val (.int p2), .val (.int p3), .val (.int c1), .val (.int c2), .val (.int d1), .val (.int d2), .val (.int l1), .val (.int l2), .unset, .unset, .unset, .unset, .unset, .unset, .unset, .unset, .unset, .unset, .unset] [(.int (16 : Int32)), (.int p3)])) ?_ (fun t k => XS.bipush X2.here hx rfl (hb hby at_78) k)
    refine Gen.on (b := T2.setTop (mkF m 81 #[.val (.int p1), .val (.int p2), .val (.int p3), .val (.int c1), .val (.int c2), .val (.int d1), .val (.int d2), .val (.int l1), .val (.int l2), .unset, .unset, .unset, .unset, .unset, .unset, .unset, .unset, .unset, .unset, .unset] [(.int (p3 &&& (16 : Int32)))])) ?_ (fun t k => XS.iand X2.here hx rfl (hb hby at_80) rfl k)
    by_cases c81_3 : (p3 &&& (16 : Int32)) = (0 : Int32)
    · refine Gen.on (b := T2.setTop (mkF m 88 #[.val (.int p1), .val (.int p2), .val (.int p3), .val (.int c1), .val (.int c2), .val (.int d1), .val (.int d2), .val (.int l1), .val (.int l2), .unset, .unset, .unset, .unset, .unset, .unset, .unset, .unset, .unset, .unset, .unset] [])) ?_ (fun t k => XS.ifYes X2.here hx rfl (pc0 := 81) (pc' := 88) rfl (hb hby at_81) rfl ((if0 _ _).trans (teq c81_3).1) (by decide) (by decide) k)
      refine Gen.on (b := T2.setTop (mkF m 89 #[.val (.int p1), .val (.int p2), .val (.int p3), .val (.int c1), .val (.int c2), .val (.int d1), .val (.int d2), .val (.int l1), .val (.int l2), .unset, .unset, .unset, .unset, .unset, .unset, .unset, .unset, .unset, .unset, .unset] [(.int (0 : Int32))])) ?_ (fun t k => XS.iconst X2.here hx rfl (hb hby at_88) k)
      exact ⟨_, Steps.refl _, T2, X2, e2, by simp only [if_pos c81_3]⟩
    · refine Gen.on (b := T2.setTop (mkF m 84 #[.val (.int p1), .val (.int p2), .val (.int p3), .val (.int c1), .val (.int c2), .val (.int d1), .val (.int d2), .val (.int l1), .val (.int l2), .unset, .unset, .unset, .unset, .unset, .unset, .unset, .unset, .unset, .unset, .unset] [])) ?_ (fun t k => XS.ifNo X2.here hx rfl (hb hby at_81) rfl ((if0 _ _).trans (feq c81_3).1) k)
      refine Gen.on (b := T2.setTop (mkF m 85 #[.val (.int p1), .val (.int p2), .val (.int p3), .val (.int c1), .val (.int c2), .val (.int d1), .val (.int d2), .val (.int l1), .val (.int l2), .unset, .unset, .unset, .unset, .unset, .unset, .unset, .unset, .unset, .unset, .unset] [(.int (1 : Int32))])) ?_ (fun t k => XS.iconst X2.here hx rfl (hb hby at_84) k)
      refine Gen.on (b := T2.setTop (mkF m 89 #[.val (.int p1), .val (.int p2), .val (.int p3), .val (.int c1), .val (.int c2), .val (.int d1), .val (.int d2), .val (.int l1), .val (.int l2), .unset, .unset, .unset, .unset, .unset, .unset, .unset, .unset, .unset, .unset, .unset] [(.int (1 : Int32))])) ?_ (fun t k => XS.goto X2.here hx rfl (pc0 := 85) (pc' := 89) rfl (hb hby at_85) (by decide) (by decide) k)
      exact ⟨_, Steps.refl _, T2, X2, e2, by simp only [if_neg c81_3]⟩
  refine Gen.on (b := T3.setTop (mkF m 89 #[.val (.int p1), .val (.int p2), .val (.int p3), .val (.int c1), .val (.int c2), .val (.int d1), .val (.int d2), .val (.int l1), .val (.int l2), .unset, .unset, .unset, .unset, .unset, .unset, .unset, .unset, .unset, .unset, .unset] [(.int (if (p3 &&& (16 : Int32)) = (0 : Int32) then (0 : Int32) else (1 : Int32)))])) ?_ (fun t k => st3.trans k)
  refine Gen.on (b := T3.setTop (mkF m 91 #[.val (.int p1), .val (.int p2), .val (.int p3), .val (.int c1), .val (.int c2), .val (.int d1), .val (.int d2), .val (.int l1), .val (.int l2), .val (.int (if (p3 &&& (16 : Int32)) = (0 : Int32) then (0 : Int32) else (1 : Int32))), .unset, .unset, .unset, .unset, .unset, .unset, .unset, .unset, .unset, .unset] [])) ?_ (fun t k => XS.istore X3.here hx rfl (hb hby at_89) rfl (l' := #[.val (.int p1), .val (.int p2), .val (.int p3), .val (.int c1), .val (.int c2), .val (.int d1), .val (.int d2), .val (.int l1), .val (.int l2), .val (.int (if (p3 &&& (16 : Int32)) = (0 : Int32) then (0 : Int32) else (1 : Int32))), .unset, .unset, .unset, .unset, .unset, .unset, .unset, .unset, .unset, .unset]) rfl k)
  obtain ⟨e1, h_e1⟩ : ∃ z, z = (if (p3 &&& (16 : Int32)) = (0 : Int32) then (0 : Int32) else (1 : Int32)) := ⟨_, rfl⟩
  rw [← h_e1]
  have k_e1 := own_dl h_e1
  obtain ⟨_, st4, T4, X4, e4, rfl⟩ : Gen p e below (own_at X3 h0 (mkF m 103 #[.val (.int p1), .val (.int p2), .val (.int p3), .val (.int c1), .val (.int c2), .val (.int d1), .val (.int d2), .val (.int l1), .val (.int l2), .val (.int e1), .unset, .unset, .unset, .unset, .unset, .unset, .unset, .unset, .unset, .unset] [(.int (if (p3 &&& (32 : Int32)) = (0 : Int32) then (0 : Int32) else (1 : Int32)))])) (T3.setTop (mkF m 91 #[.val (.int p1), .val (.int p2), .val (.int p3), .val (.int c1), .val (.int c2), .val (.int d1), .val (.int d2), .val (.int l1), .val (.int l2), .val (.int e1), .unset, .unset, .unset, .unset, .unset, .unset, .unset, .unset, .unset, .unset] [])) := by
    refine Gen.on (b := T3.setTop (mkF m 92 #[.val (.int p1), .val (.int p2), .val (.int p3), .val (.int c1), .val (.int c2), .val (.int d1), .val (.int d2), .val (.int l1), .val (.int l2), .val (.int e1), .unset, .unset, .unset, .unset, .unset, .unset, .unset, .unset, .unset, .unset] [(.int p3)])) ?_ (fun t k => XS.iloadN X3.here hx rfl (hb hby at_91) rfl k)
    refine Gen.on (b := T3.setTop (mkF m 94 #[.val (.int p1), .val (.int p2), .val (.int p3), .val (.int c1), .val (.int c2), .val (.int d1), .val (.int d2), .val (.int l1), .val (.int l2), .val (.int e1), .unset, .unset, .unset, .unset, .unset, .unset, .unset, .unset, .unset, .unset] [(.int (32 : Int32)), (.int p3)])) ?_ (fun t k => XS.bipush X3.here hx rfl (hb hby at_92) k)
    refine Gen.on (b := T3.setTop (mkF m 95 #[.val (.int p1), .val (.int p2), .val (.int p3), .val (.int c1), .val (.int c2), .val (.int d1), .val (.int d2), .val (.int l1), .val (.int l2), .val (.int e1), .unset, .unset, .unset, .unset, .unset, .unset, .unset, .unset, .unset, .unset] [(.int (p3 &&& (32 : Int32)))])) ?_ (fun t k => XS.iand X3.here hx rfl (hb hby at_94) rfl k)
    by_cases c95_4 : (p3 &&& (32 : Int32)) = (0 : Int32)
    · refine Gen.on (b := T3.setTop (mkF m 102 #[.val (.int p1), .val (.int p2), .val (.int p3), .val (.int c1), .val (.int c2), .val (.int d1), .val (.int d2), .val (.int l1), .val (.int l2), .val (.int e1), .unset, .unset, .unset, .unset, .unset, .unset, .unset, .unset, .unset, .unset] [])) ?_ (fun t k => XS.ifYes X3.here hx rfl (pc0 := 95) (pc' := 102) rfl (hb hby at_95) rfl ((if0 _ _).trans (teq c95_4).1) (by decide) (by decide) k)
      refine Gen.on (b := T3.setTop (mkF m 103 #[.val (.int p1), .val (.int p2), .val (.int p3), .val (.int c1), .val (.int c2), .val (.int d1), .val (.int d2), .val (.int l1), .val (.int l2), .val (.int e1), .unset, .unset, .unset, .unset, .unset, .unset, .unset, .unset, .unset, .unset] [(.int (0 : Int32))])) ?_ (fun t k => XS.iconst X3.here hx rfl (hb hby at_102) k)
      exact ⟨_, Steps.refl _, T3, X3, e3, by simp only [if_pos c95_4]⟩
    · refine Gen.on (b := T3.setTop (mkF m 98 #[.val (.int p1), .val (.int p2), .val (.int p3), .val (.int c1), .val (.int c2), .val (.int d1), .val (.int d2), .val (.int l1), .val (.int l2), .val (.int e1), .unset, .unset, .unset, .unset, .unset, .unset, .unset, .unset, .unset, .unset] [])) ?_ (fun t k => XS.ifNo X3.here hx rfl (hb hby at_95) rfl ((if0 _ _).trans (feq c95_4).1) k)
      refine Gen.on (b := T3.setTop (mkF m 99 #[.val (.int p1), .val (.int p2), .val (.int p3), .val (.int c1), .val (.int c2), .val (.int d1), .val (.int d2), .val (.int l1), .val (.int l2), .val (.int e1), .unset, .unset, .unset, .unset, .unset, .unset, .unset, .unset, .unset, .unset] [(.int (1 : Int32))])) ?_ (fun t k => XS.iconst X3.here hx rfl (hb hby at_98) k)
      refine Gen.on (b := T3.setTop (mkF m 103 #[.val (.int p1), .val (.int p2), .val (.int p3), .val (.int c1), .val (.int c2), .val (.int d1), .val (.int d2), .val (.int l1), .val (.int l2), .val (.int e1), .unset, .unset, .unset, .unset, .unset, .unset, .unset, .unset, .unset, .unset] [(.int (1 : Int32))])) ?_ (fun t k => XS.goto X3.here hx rfl (pc0 := 99) (pc' := 103) rfl (hb hby at_99) (by decide) (by decide) k)
      exact ⟨_, Steps.refl _, T3, X3, e3, by simp only [if_neg c95_4]⟩
  refine Gen.on (b := T4.setTop (mkF m 103 #[.val (.int p1), .val (.int p2), .val (.int p3), .val (.int c1), .val (.int c2), .val (.int d1), .val (.int d2), .val (.int l1), .val (.int l2), .val (.int e1), .unset, .unset, .unset, .unset, .unset, .unset, .unset, .unset, .unset, .unset] [(.int (if (p3 &&& (32 : Int32)) = (0 : Int32) then (0 : Int32) else (1 : Int32)))])) ?_ (fun t k => st4.trans k)
  refine Gen.on (b := T4.setTop (mkF m 105 #[.val (.int p1), .val (.int p2), .val (.int p3), .val (.int c1), .val (.int c2), .val (.int d1), .val (.int d2), .val (.int l1), .val (.int l2), .val (.int e1), .val (.int (if (p3 &&& (32 : Int32)) = (0 : Int32) then (0 : Int32) else (1 : Int32))), .unset, .unset, .unset, .unset, .unset, .unset, .unset, .unset, .unset] [])) ?_ (fun t k => XS.istore X4.here hx rfl (hb hby at_103) rfl (l' := #[.val (.int p1), .val (.int p2), .val (.int p3), .val (.int c1), .val (.int c2), .val (.int d1), .val (.int d2), .val (.int l1), .val (.int l2), .val (.int e1), .val (.int (if (p3 &&& (32 : Int32)) = (0 : Int32) then (0 : Int32) else (1 : Int32))), .unset, .unset, .unset, .unset, .unset, .unset, .unset, .unset, .unset]) rfl k)
  obtain ⟨e2, h_e2⟩ : ∃ z, z = (if (p3 &&& (32 : Int32)) = (0 : Int32) then (0 : Int32) else (1 : Int32)) := ⟨_, rfl⟩
  rw [← h_e2]
  have k_e2 := own_dl h_e2
  refine Gen.on (b := T4.setTop (mkF m 106 #[.val (.int p1), .val (.int p2), .val (.int p3), .val (.int c1), .val (.int c2), .val (.int d1), .val (.int d2), .val (.int l1), .val (.int l2), .val (.int e1), .val (.int e2), .unset, .unset, .unset, .unset, .unset, .unset, .unset, .unset, .unset] [(.int p3)])) ?_ (fun t k => XS.iloadN X4.here hx rfl (hb hby at_105) rfl k)
  refine Gen.on (b := T4.setTop (mkF m 108 #[.val (.int p1), .val (.int p2), .val (.int p3), .val (.int c1), .val (.int c2), .val (.int d1), .val (.int d2), .val (.int l1), .val (.int l2), .val (.int e1), .val (.int e2), .unset, .unset, .unset, .unset, .unset, .unset, .unset, .unset, .unset] [(.int (6 : Int32)), (.int p3)])) ?_ (fun t k => XS.bipush X4.here hx rfl (hb hby at_106) k)
  refine Gen.on (b := T4.setTop (mkF m 109 #[.val (.int p1), .val (.int p2), .val (.int p3), .val (.int c1), .val (.int c2), .val (.int d1), .val (.int d2), .val (.int l1), .val (.int l2), .val (.int e1), .val (.int e2), .unset, .unset, .unset, .unset, .unset, .unset, .unset, .unset, .unset] [(.int ((p3.toUInt32 >>> ((6 : Int32) &&& 31).toUInt32).toInt32))])) ?_ (fun t k => XS.iushr X4.here hx rfl (hb hby at_108) rfl k)
  refine Gen.on (b := T4.setTop (mkF m 110 #[.val (.int p1), .val (.int p2), .val (.int p3), .val (.int c1), .val (.int c2), .val (.int d1), .val (.int d2), .val (.int l1), .val (.int l2), .val (.int e1), .val (.int e2), .unset, .unset, .unset, .unset, .unset, .unset, .unset, .unset, .unset] [(.int (3 : Int32)), (.int ((p3.toUInt32 >>> ((6 : Int32) &&& 31).toUInt32).toInt32))])) ?_ (fun t k => XS.iconst X4.here hx rfl (hb hby at_109) k)
  refine Gen.on (b := T4.setTop (mkF m 111 #[.val (.int p1), .val (.int p2), .val (.int p3), .val (.int c1), .val (.int c2), .val (.int d1), .val (.int d2), .val (.int l1), .val (.int l2), .val (.int e1), .val (.int e2), .unset, .unset, .unset, .unset, .unset, .unset, .unset, .unset, .unset] [(.int (((p3.toUInt32 >>> ((6 : Int32) &&& 31).toUInt32).toInt32) &&& (3 : Int32)))])) ?_ (fun t k => XS.iand X4.here hx rfl (hb hby at_110) rfl k)
  refine Gen.on (b := T4.setTop (mkF m 113 #[.val (.int p1), .val (.int p2), .val (.int p3), .val (.int c1), .val (.int c2), .val (.int d1), .val (.int d2), .val (.int l1), .val (.int l2), .val (.int e1), .val (.int e2), .val (.int (((p3.toUInt32 >>> ((6 : Int32) &&& 31).toUInt32).toInt32) &&& (3 : Int32))), .unset, .unset, .unset, .unset, .unset, .unset, .unset, .unset] [])) ?_ (fun t k => XS.istore X4.here hx rfl (hb hby at_111) rfl (l' := #[.val (.int p1), .val (.int p2), .val (.int p3), .val (.int c1), .val (.int c2), .val (.int d1), .val (.int d2), .val (.int l1), .val (.int l2), .val (.int e1), .val (.int e2), .val (.int (((p3.toUInt32 >>> ((6 : Int32) &&& 31).toUInt32).toInt32) &&& (3 : Int32))), .unset, .unset, .unset, .unset, .unset, .unset, .unset, .unset]) rfl k)
  obtain ⟨kd, h_kd⟩ : ∃ z, z = (((p3.toUInt32 >>> ((6 : Int32) &&& 31).toUInt32).toInt32) &&& (3 : Int32)) := ⟨_, rfl⟩
  rw [← h_kd]
  refine Gen.on (b := T4.setTop (mkF m 115 #[.val (.int p1), .val (.int p2), .val (.int p3), .val (.int c1), .val (.int c2), .val (.int d1), .val (.int d2), .val (.int l1), .val (.int l2), .val (.int e1), .val (.int e2), .val (.int kd), .unset, .unset, .unset, .unset, .unset, .unset, .unset, .unset] [(.int l1)])) ?_ (fun t k => XS.iload X4.here hx rfl (hb hby at_113) rfl k)
  refine Gen.on (b := T4.setTop (mkF m 116 #[.val (.int p1), .val (.int p2), .val (.int p3), .val (.int c1), .val (.int c2), .val (.int d1), .val (.int d2), .val (.int l1), .val (.int l2), .val (.int e1), .val (.int e2), .val (.int kd), .unset, .unset, .unset, .unset, .unset, .unset, .unset, .unset] [(.int c1), (.int l1)])) ?_ (fun t k => XS.iloadN X4.here hx rfl (hb hby at_115) rfl k)
  refine Gen.on (b := T4.setTop (mkF m 118 #[.val (.int p1), .val (.int p2), .val (.int p3), .val (.int c1), .val (.int c2), .val (.int d1), .val (.int d2), .val (.int l1), .val (.int l2), .val (.int e1), .val (.int e2), .val (.int kd), .unset, .unset, .unset, .unset, .unset, .unset, .unset, .unset] [(.int c2), (.int c1), (.int l1)])) ?_ (fun t k => XS.iload X4.here hx rfl (hb hby at_116) rfl k)
  obtain ⟨_, _, ⟨T5, L5, k5, n5⟩, -, X5, hSc5, gr5, ⟨Lc5, hQ5, l5, y5, z5, CHc5⟩, st5⟩ := Jvm.RoadKit.callSS X4 hx (y := (⟨"com/example/mapwright/mapwright/sql/IdentifierEqualsPinLaw", "mk", "(ICC)Ljava/lang/String;"⟩ : MethodName)) hown (mvT hZ (hw _ (List.mem_of_getElem? (i := 0) rfl))) (mvT hZ (hw _ (List.mem_of_getElem? (i := 1) rfl))) (mvT hZ (hw _ (List.mem_of_getElem? (i := 2) rfl))) (mvT hZ (hw _ (List.mem_of_getElem? (i := 3) rfl))) (by decide) (backOfSH (W := 0) (rm1 l Z a0 hw [] l1 c1 c2 w0 h0 n0 Z0 OL (sts) (k_c1.1) (k_c2.1) (k_c1.2) (k_c2.2) (k_l1)) hZ (hw _ (List.mem_of_getElem? (i := 3) rfl)) (hw _ (List.mem_of_getElem? (i := 2) rfl)) (by decide) (by decide) hEL CH0.1) (g := (mkF m 118 #[.val (.int p1), .val (.int p2), .val (.int p3), .val (.int c1), .val (.int c2), .val (.int d1), .val (.int d2), .val (.int l1), .val (.int l2), .val (.int e1), .val (.int e2), .val (.int kd), .unset, .unset, .unset, .unset, .unset, .unset, .unset, .unset] [(.int c2), (.int c1), (.int l1)])) rfl (by rw [hml]; rfl) (argsL := [(.int l1), (.int c1), (.int c2)]) (rest := []) (lenOf pd_0_0 rfl) rfl (by show 2 * 0 + _ ≤ _; exact Nat.le_of_eq rfl) (hb hby at_118) (fun _ _ => ⟨rfl, e4, (by decide : 0 + 6 ≤ _), (by decide : 0 + 12 ≤ _)⟩)
  dsimp only [Pt.U, Pt.locs, Pt.cells, Pt.slots] at X5 l5 y5 z5 st5 hQ5 hSc5 gr5 CHc5
  subst l5 y5 z5
  obtain ⟨X5, hS5, hZ, hown⟩ := rebS hS0 hk0 X5 hSc5 (Nat.le_trans (Nat.le_of_eq (congrArg Array.size e4).symm) gr5) hZ hown
  have CH5 := CHr.trans CH0 CHc5
  obtain ⟨xr5, rfl, N5q, Kc5, hf5_0, hf5_1, hf5_2⟩ := hQ5
  have N5 := Fr.app N0 N5q
  have Z5 : n0 ≤ T5.heap.size := Nat.le_trans Z0 Kc5.1
  obtain ⟨xb5, xv5, xk5, xy5⟩ := hf5_1
  refine Gen.on (b := T5.setTop (mkF m 121 #[.val (.int p1), .val (.int p2), .val (.int p3), .val (.int c1), .val (.int c2), .val (.int d1), .val (.int d2), .val (.int l1), .val (.int l2), .val (.int e1), .val (.int e2), .val (.int kd), .unset, .unset, .unset, .unset, .unset, .unset, .unset, .unset] [(.ref xr5)])) ?_ (fun t k => st5.trans k)
  refine Gen.on (b := T5.setTop (mkF m 123 #[.val (.int p1), .val (.int p2), .val (.int p3), .val (.int c1), .val (.int c2), .val (.int d1), .val (.int d2), .val (.int l1), .val (.int l2), .val (.int e1), .val (.int e2), .val (.int kd), .val (.ref xr5), .unset, .unset, .unset, .unset, .unset, .unset, .unset] [])) ?_ (fun t k => XS.astore X5.here hx rfl (hb hby at_121) rfl rfl (l' := #[.val (.int p1), .val (.int p2), .val (.int p3), .val (.int c1), .val (.int c2), .val (.int d1), .val (.int d2), .val (.int l1), .val (.int l2), .val (.int e1), .val (.int e2), .val (.int kd), .val (.ref xr5), .unset, .unset, .unset, .unset, .unset, .unset, .unset]) rfl k)
  refine Gen.on (b := T5.setTop (mkF m 125 #[.val (.int p1), .val (.int p2), .val (.int p3), .val (.int c1), .val (.int c2), .val (.int d1), .val (.int d2), .val (.int l1), .val (.int l2), .val (.int e1), .val (.int e2), .val (.int kd), .val (.ref xr5), .unset, .unset, .unset, .unset, .unset, .unset, .unset] [(.int l2)])) ?_ (fun t k => XS.iload X5.here hx rfl (hb hby at_123) rfl k)
  refine Gen.on (b := T5.setTop (mkF m 127 #[.val (.int p1), .val (.int p2), .val (.int p3), .val (.int c1), .val (.int c2), .val (.int d1), .val (.int d2), .val (.int l1), .val (.int l2), .val (.int e1), .val (.int e2), .val (.int kd), .val (.ref xr5), .unset, .unset, .unset, .unset, .unset, .unset, .unset] [(.int d1), (.int l2)])) ?_ (fun t k => XS.iload X5.here hx rfl (hb hby at_125) rfl k)
  refine Gen.on (b := T5.setTop (mkF m 129 #[.val (.int p1), .val (.int p2), .val (.int p3), .val (.int c1), .val (.int c2), .val (.int d1), .val (.int d2), .val (.int l1), .val (.int l2), .val (.int e1), .val (.int e2), .val (.int kd), .val (.ref xr5), .unset, .unset, .unset, .unset, .unset, .unset, .unset] [(.int d2), (.int d1), (.int l2)])) ?_ (fun t k => XS.iload X5.here hx rfl (hb hby at_127) rfl k)
  have fa7 := (OL.keep Kc5 all0)
  obtain ⟨_, _, ⟨T6, L6, k6, n6⟩, -, X6, hSc6, gr6, ⟨Lc6, hQ6, l6, y6, z6, CHc6⟩, st6⟩ := Jvm.RoadKit.callSS X5 hx (y := (⟨"com/example/mapwright/mapwright/sql/IdentifierEqualsPinLaw", "mk", "(ICC)Ljava/lang/String;"⟩ : MethodName)) hown (mvT hZ (hw _ (List.mem_of_getElem? (i := 0) rfl))) (mvT hZ (hw _ (List.mem_of_getElem? (i := 1) rfl))) (mvT hZ (hw _ (List.mem_of_getElem? (i := 2) rfl))) (mvT hZ (hw _ (List.mem_of_getElem? (i := 3) rfl))) (by decide) (backOfSH (W := 0) (rm1 l Z a0 hw [] l2 d1 d2 w0 T5.heap n0 Z5 fa7 (sts) (k_d1.1) (k_d2.1) (k_d1.2) (k_d2.2) (k_l2)) hZ (hw _ (List.mem_of_getElem? (i := 3) rfl)) (hw _ (List.mem_of_getElem? (i := 2) rfl)) (by decide) (by decide) hEL CH5.1) (g := (mkF m 129 #[.val (.int p1), .val (.int p2), .val (.int p3), .val (.int c1), .val (.int c2), .val (.int d1), .val (.int d2), .val (.int l1), .val (.int l2), .val (.int e1), .val (.int e2), .val (.int kd), .val (.ref xr5), .unset, .unset, .unset, .unset, .unset, .unset, .unset] [(.int d2), (.int d1), (.int l2)])) rfl (by rw [hml]; rfl) (argsL := [(.int l2), (.int d1), (.int d2)]) (rest := []) (lenOf pd_0_0 rfl) rfl (by show 2 * 0 + _ ≤ _; exact Nat.le_of_eq rfl) (hb hby at_129) (fun _ _ => ⟨rfl, rfl, (by decide : 6 + 6 ≤ _), (by decide : 12 + 12 ≤ _)⟩)
  dsimp only [Pt.U, Pt.locs, Pt.cells, Pt.slots] at X6 l6 y6 z6 st6 hQ6 hSc6 gr6 CHc6
  subst l6 y6 z6
  obtain ⟨X6, hS6, hZ, hown⟩ := rebS hS5 (Nat.le_refl T5.heap.size) X6 hSc6 gr6 hZ hown
  have CH6 := CHr.trans CH5 CHc6
  obtain ⟨xr6, rfl, N6q, Kc6, hf6_0, hf6_1, hf6_2⟩ := hQ6
  have N6 := Fr.app N5 N6q
  have Z6 : n0 ≤ T6.heap.size := Nat.le_trans Z5 Kc6.1
  have ne_xr5_xr6 : xr5 ≠ xr6 := Nat.ne_of_lt (Nat.lt_of_lt_of_le hf5_0.lt hf6_2)
  have ne_xb5_xr6 : xb5 ≠ xr6 := Nat.ne_of_lt (Nat.lt_of_lt_of_le xy5.lt hf6_2)
  obtain ⟨xb6, xv6, xk6, xy6⟩ := hf6_1
  refine Gen.on (b := T6.setTop (mkF m 132 #[.val (.int p1), .val (.int p2), .val (.int p3), .val (.int c1), .val (.int c2), .val (.int d1), .val (.int d2), .val (.int l1), .val (.int l2), .val (.int e1), .val (.int e2), .val (.int kd), .val (.ref xr5), .unset, .unset, .unset, .unset, .unset, .unset, .unset] [(.ref xr6)])) ?_ (fun t k => st6.trans k)
  refine Gen.on (b := T6.setTop (mkF m 134 #[.val (.int p1), .val (.int p2), .val (.int p3), .val (.int c1), .val (.int c2), .val (.int d1), .val (.int d2), .val (.int l1), .val (.int l2), .val (.int e1), .val (.int e2), .val (.int kd), .val (.ref xr5), .val (.ref xr6), .unset, .unset, .unset, .unset, .unset, .unset] [])) ?_ (fun t k => XS.astore X6.here hx rfl (hb hby at_132) rfl rfl (l' := #[.val (.int p1), .val (.int p2), .val (.int p3), .val (.int c1), .val (.int c2), .val (.int d1), .val (.int d2), .val (.int l1), .val (.int l2), .val (.int e1), .val (.int e2), .val (.int kd), .val (.ref xr5), .val (.ref xr6), .unset, .unset, .unset, .unset, .unset, .unset]) rfl k)
  refine Gen.on (b := T6.setTop (mkF m 136 #[.val (.int p1), .val (.int p2), .val (.int p3), .val (.int c1), .val (.int c2), .val (.int d1), .val (.int d2), .val (.int l1), .val (.int l2), .val (.int e1), .val (.int e2), .val (.int kd), .val (.ref xr5), .val (.ref xr6), .unset, .unset, .unset, .unset, .unset, .unset] [(.int l1)])) ?_ (fun t k => XS.iload X6.here hx rfl (hb hby at_134) rfl k)
  refine Gen.on (b := T6.setTop (mkF m 137 #[.val (.int p1), .val (.int p2), .val (.int p3), .val (.int c1), .val (.int c2), .val (.int d1), .val (.int d2), .val (.int l1), .val (.int l2), .val (.int e1), .val (.int e2), .val (.int kd), .val (.ref xr5), .val (.ref xr6), .unset, .unset, .unset, .unset, .unset, .unset] [(.int c1), (.int l1)])) ?_ (fun t k => XS.iloadN X6.here hx rfl (hb hby at_136) rfl k)
  refine Gen.on (b := T6.setTop (mkF m 139 #[.val (.int p1), .val (.int p2), .val (.int p3), .val (.int c1), .val (.int c2), .val (.int d1), .val (.int d2), .val (.int l1), .val (.int l2), .val (.int e1), .val (.int e2), .val (.int kd), .val (.ref xr5), .val (.ref xr6), .unset, .unset, .unset, .unset, .unset, .unset] [(.int c2), (.int c1), (.int l1)])) ?_ (fun t k => XS.iload X6.here hx rfl (hb hby at_137) rfl k)
  have fa9 := (hf5_0.keep Kc6)
  have fa10 := (xy5.keep Kc6 nin0)
  have fa11 := (fa7.keep Kc6 all0)
  obtain ⟨_, _, ⟨T8, L8, k8, n8⟩, -, X8, hSc8, gr8, ⟨Lc8, hQ8, l8, y8, z8, CHc8⟩, st8⟩ := Jvm.RoadKit.callSS X6 hx (y := (⟨"com/example/mapwright/mapwright/sql/IdentifierEqualsPinLaw", "mk", "(ICC)Ljava/lang/String;"⟩ : MethodName)) hown (mvT hZ (hw _ (List.mem_of_getElem? (i := 0) rfl))) (mvT hZ (hw _ (List.mem_of_getElem? (i := 1) rfl))) (mvT hZ (hw _ (List.mem_of_getElem? (i := 2) rfl))) (mvT hZ (hw _ (List.mem_of_getElem? (i := 3) rfl))) (by decide) (backOfSH (W := 0) (rm1 l Z a0 hw [] l1 c1 c2 w0 T6.heap n0 Z6 fa11 (sts) (k_c1.1) (k_c2.1) (k_c1.2) (k_c2.2) (k_l1)) hZ (hw _ (List.mem_of_getElem? (i := 3) rfl)) (hw _ (List.mem_of_getElem? (i := 2) rfl)) (by decide) (by decide) hEL CH6.1) (g := (mkF m 139 #[.val (.int p1), .val (.int p2), .val (.int p3), .val (.int c1), .val (.int c2), .val (.int d1), .val (.int d2), .val (.int l1), .val (.int l2), .val (.int e1), .val (.int e2), .val (.int kd), .val (.ref xr5), .val (.ref xr6), .unset, .unset, .unset, .unset, .unset, .unset] [(.int c2), (.int c1), (.int l1)])) rfl (by rw [hml]; rfl) (argsL := [(.int l1), (.int c1), (.int c2)]) (rest := []) (lenOf pd_0_0 rfl) rfl (by show 2 * 0 + _ ≤ _; exact Nat.le_of_eq rfl) (hb hby at_139) (fun _ _ => ⟨rfl, rfl, (by decide : 12 + 6 ≤ _), (by decide : 24 + 12 ≤ _)⟩)
  dsimp only [Pt.U, Pt.locs, Pt.cells, Pt.slots] at X8 l8 y8 z8 st8 hQ8 hSc8 gr8 CHc8
  subst l8 y8 z8
  obtain ⟨X8, hS8, hZ, hown⟩ := rebS hS6 (Nat.le_refl T6.heap.size) X8 hSc8 gr8 hZ hown
  have CH8 := CHr.trans CH6 CHc8
  obtain ⟨xr8, rfl, N8q, Kc8, hf8_0, hf8_1, hf8_2⟩ := hQ8
  have N8 := Fr.app N6 N8q
  have Z8 : n0 ≤ T8.heap.size := Nat.le_trans Z6 Kc8.1
  have ne_xr5_xr8 : xr5 ≠ xr8 := Nat.ne_of_lt (Nat.lt_of_lt_of_le fa9.lt hf8_2)
  have ne_xb5_xr8 : xb5 ≠ xr8 := Nat.ne_of_lt (Nat.lt_of_lt_of_le fa10.lt hf8_2)
  have ne_xr6_xr8 : xr6 ≠ xr8 := Nat.ne_of_lt (Nat.lt_of_lt_of_le hf6_0.lt hf8_2)
  have ne_xb6_xr8 : xb6 ≠ xr8 := Nat.ne_of_lt (Nat.lt_of_lt_of_le xy6.lt hf8_2)
  obtain ⟨xb8, xv8, xk8, xy8⟩ := hf8_1
  refine Gen.on (b := T8.setTop (mkF m 142 #[.val (.int p1), .val (.int p2), .val (.int p3), .val (.int c1), .val (.int c2), .val (.int d1), .val (.int d2), .val (.int l1), .val (.int l2), .val (.int e1), .val (.int e2), .val (.int kd), .val (.ref xr5), .val (.ref xr6), .unset, .unset, .unset, .unset, .unset, .unset] [(.ref xr8)])) ?_ (fun t k => st8.trans k)
  refine Gen.on (b := T8.setTop (mkF m 144 #[.val (.int p1), .val (.int p2), .val (.int p3), .val (.int c1), .val (.int c2), .val (.int d1), .val (.int d2), .val (.int l1), .val (.int l2), .val (.int e1), .val (.int e2), .val (.int kd), .val (.ref xr5), .val (.ref xr6), .val (.ref xr8), .unset, .unset, .unset, .unset, .unset] [])) ?_ (fun t k => XS.astore X8.here hx rfl (hb hby at_142) rfl rfl (l' := #[.val (.int p1), .val (.int p2), .val (.int p3), .val (.int c1), .val (.int c2), .val (.int d1), .val (.int d2), .val (.int l1), .val (.int l2), .val (.int e1), .val (.int e2), .val (.int kd), .val (.ref xr5), .val (.ref xr6), .val (.ref xr8), .unset, .unset, .unset, .unset, .unset]) rfl k)
  have fa13 := (fa9.keep Kc8)
  have fa14 := (fa10.keep Kc8 nin0)
  have fa15 := (hf6_0.keep Kc8)
  have fa16 := (xy6.keep Kc8 nin0)
  obtain ⟨b12, g12⟩ : ∃ z, z = T8.heap.size := ⟨_, rfl⟩
  have ne_xr5_b12 : xr5 ≠ b12 := Nat.ne_of_lt (Nat.lt_of_lt_of_le fa13.lt (Nat.le_of_eq g12.symm))
  have ne_xb5_b12 : xb5 ≠ b12 := Nat.ne_of_lt (Nat.lt_of_lt_of_le fa14.lt (Nat.le_of_eq g12.symm))
  have ne_xr6_b12 : xr6 ≠ b12 := Nat.ne_of_lt (Nat.lt_of_lt_of_le fa15.lt (Nat.le_of_eq g12.symm))
  have ne_xb6_b12 : xb6 ≠ b12 := Nat.ne_of_lt (Nat.lt_of_lt_of_le fa16.lt (Nat.le_of_eq g12.symm))
  have ne_xr8_b12 : xr8 ≠ b12 := Nat.ne_of_lt (Nat.lt_of_lt_of_le hf8_0.lt (Nat.le_of_eq g12.symm))
  have ne_xb8_b12 : xb8 ≠ b12 := Nat.ne_of_lt (Nat.lt_of_lt_of_le xy8.lt (Nat.le_of_eq g12.symm))
  have g_b12 : n0 ≤ b12 := Nat.le_trans Z8 (Nat.le_of_eq g12.symm)
  obtain ⟨T12, h12, X12, e12, E12, A12, D12, -, st12⟩ := newO X8 hx hZ hown (hw _ (List.mem_of_getElem? (i := 37) rfl)) (hw _ (List.mem_of_getElem? (i := 38) rfl)) (hw _ (List.mem_of_getElem? (i := 39) rfl)) rfl (g := (mkF m 144 #[.val (.int p1), .val (.int p2), .val (.int p3), .val (.int c1), .val (.int c2), .val (.int d1), .val (.int d2), .val (.int l1), .val (.int l2), .val (.int e1), .val (.int e2), .val (.int kd), .val (.ref xr5), .val (.ref xr6), .val (.ref xr8), .unset, .unset, .unset, .unset, .unset] [])) rfl (hb hby at_144) (by decide) (by decide)
  rw [← g12] at A12 D12 st12
  have CH17 := CHr.trans CH8 (CHr.ext E12 CH8.1)
  have hk17 := Nat.le_trans (Nat.le_refl T8.heap.size) E12.1
  have Z12 : n0 ≤ h12.size := Nat.le_trans Z8 E12.1
  have F12_name : Fld Z h12 b12 "com/example/mapwright/mapwright/sql/Identifier" "name" "Ljava/lang/String;" .null := D12 (Or.inr (hw _ (List.mem_of_getElem? (i := 55) rfl))) (ty := (.object "java/lang/String")) (by decide)
  have F12_delimited : Fld Z h12 b12 "com/example/mapwright/mapwright/sql/Identifier" "delimited" "Z" (.int (0 : Int32)) := D12 (Or.inr (hw _ (List.mem_of_getElem? (i := 57) rfl))) (ty := .boolean) (by decide)
  refine Gen.on (b := T12.setTop (mkF m 147 #[.val (.int p1), .val (.int p2), .val (.int p3), .val (.int c1), .val (.int c2), .val (.int d1), .val (.int d2), .val (.int l1), .val (.int l2), .val (.int e1), .val (.int e2), .val (.int kd), .val (.ref xr5), .val (.ref xr6), .val (.ref xr8), .unset, .unset, .unset, .unset, .unset] [(.ref b12)])) ?_ (fun t k => st12 t k)
  refine Gen.on (b := T12.setTop (mkF m 148 #[.val (.int p1), .val (.int p2), .val (.int p3), .val (.int c1), .val (.int c2), .val (.int d1), .val (.int d2), .val (.int l1), .val (.int l2), .val (.int e1), .val (.int e2), .val (.int kd), .val (.ref xr5), .val (.ref xr6), .val (.ref xr8), .unset, .unset, .unset, .unset, .unset] [(.ref b12), (.ref b12)])) ?_ (fun t k => XS.dup X12.here hx rfl (hb hby at_147) rfl rfl k)
  refine Gen.on (b := T12.setTop (mkF m 150 #[.val (.int p1), .val (.int p2), .val (.int p3), .val (.int c1), .val (.int c2), .val (.int d1), .val (.int d2), .val (.int l1), .val (.int l2), .val (.int e1), .val (.int e2), .val (.int kd), .val (.ref xr5), .val (.ref xr6), .val (.ref xr8), .unset, .unset, .unset, .unset, .unset] [(.ref xr5), (.ref b12), (.ref b12)])) ?_ (fun t k => XS.aload X12.here hx rfl (hb hby at_148) rfl rfl k)
  refine Gen.on (b := T12.setTop (mkF m 152 #[.val (.int p1), .val (.int p2), .val (.int p3), .val (.int c1), .val (.int c2), .val (.int d1), .val (.int d2), .val (.int l1), .val (.int l2), .val (.int e1), .val (.int e2), .val (.int kd), .val (.ref xr5), .val (.ref xr6), .val (.ref xr8), .unset, .unset, .unset, .unset, .unset] [(.int e1), (.ref xr5), (.ref b12), (.ref b12)])) ?_ (fun t k => XS.iload X12.here hx rfl (hb hby at_150) rfl k)
  obtain ⟨_, _, ⟨T18, L18, k18, n18⟩, -, X18, hSc18, gr18, ⟨Lc18, hQ18, l18, y18, z18, CHc18⟩, st18⟩ := X12.specialBackS hx (y := (⟨"com/example/mapwright/mapwright/sql/Identifier", "<init>", "(Ljava/lang/String;Z)V"⟩ : MethodName)) rfl hown (mvT hZ (hw _ (List.mem_of_getElem? (i := 40) rfl))) (mvT hZ (hw _ (List.mem_of_getElem? (i := 41) rfl))) (mvT hZ (hw _ (List.mem_of_getElem? (i := 42) rfl))) (by decide) (backOfSH (W := 1) (rm8 l Z a0 hw [] b12 xr5 e1 .null (.int (0 : Int32)) h12 n0 Z12 A12 F12_name F12_delimited g_b12) hZ (hw _ (List.mem_of_getElem? (i := 42) rfl)) (hw _ (List.mem_of_getElem? (i := 39) rfl)) (by decide) (by decide) hEL CH17.1) (g := (mkF m 152 #[.val (.int p1), .val (.int p2), .val (.int p3), .val (.int c1), .val (.int c2), .val (.int d1), .val (.int d2), .val (.int l1), .val (.int l2), .val (.int e1), .val (.int e2), .val (.int kd), .val (.ref xr5), .val (.ref xr6), .val (.ref xr8), .unset, .unset, .unset, .unset, .unset] [(.int e1), (.ref xr5), (.ref b12), (.ref b12)])) rfl (by rw [hml]; rfl) (Steps.refl _) (a := b12) (argsL := [(.ref xr5), (.int e1)]) (rest := [(.ref b12)]) (lenOf pd_0_1 rfl) rfl (by show 2 * 0 + _ ≤ _; exact Nat.le_of_eq rfl) (hb hby at_152) (fun _ _ => ⟨rfl, e12, (by decide : 19 + 2 ≤ _), (by decide : 38 + 20 ≤ _)⟩)
  dsimp only [Pt.U, Pt.locs, Pt.cells, Pt.slots] at X18 l18 y18 z18 st18 hQ18 hSc18 gr18 CHc18
  subst l18 y18 z18
  obtain ⟨X18, hS18, hZ, hown⟩ := rebS hS8 hk17 X18 hSc18 (Nat.le_trans (Nat.le_of_eq (congrArg Array.size e12).symm) gr18) hZ hown
  have CH18 := CHr.trans CH17 CHc18
  obtain ⟨rfl, N18q, Kc18, hf18_0, hf18_1, hf18_2⟩ := hQ18
  have N18 := Fr.app N8 N18q
  have Z18 : n0 ≤ T18.heap.size := Nat.le_trans Z12 Kc18.1
  refine Gen.on (b := T18.setTop (mkF m 155 #[.val (.int p1), .val (.int p2), .val (.int p3), .val (.int c1), .val (.int c2), .val (.int d1), .val (.int d2), .val (.int l1), .val (.int l2), .val (.int e1), .val (.int e2), .val (.int kd), .val (.ref xr5), .val (.ref xr6), .val (.ref xr8), .unset, .unset, .unset, .unset, .unset] [(.ref b12)])) ?_ (fun t k => st18.trans k)
  refine Gen.on (b := T18.setTop (mkF m 157 #[.val (.int p1), .val (.int p2), .val (.int p3), .val (.int c1), .val (.int c2), .val (.int d1), .val (.int d2), .val (.int l1), .val (.int l2), .val (.int e1), .val (.int e2), .val (.int kd), .val (.ref xr5), .val (.ref xr6), .val (.ref xr8), .val (.ref b12), .unset, .unset, .unset, .unset] [])) ?_ (fun t k => XS.astore X18.here hx rfl (hb hby at_155) rfl rfl (l' := #[.val (.int p1), .val (.int p2), .val (.int p3), .val (.int c1), .val (.int c2), .val (.int d1), .val (.int d2), .val (.int l1), .val (.int l2), .val (.int e1), .val (.int e2), .val (.int kd), .val (.ref xr5), .val (.ref xr6), .val (.ref xr8), .val (.ref b12), .unset, .unset, .unset, .unset]) rfl k)
  have fa20 := ((fa13.ext E12).keep Kc18)
  have fa21 := ((fa14.ext E12).keep Kc18 (ninS ne_xb5_b12 nin0))
  have fa22 := ((fa15.ext E12).keep Kc18)
  have fa23 := ((fa16.ext E12).keep Kc18 (ninS ne_xb6_b12 nin0))
  have fa24 := ((hf8_0.ext E12).keep Kc18)
  have fa25 := ((xy8.ext E12).keep Kc18 (ninS ne_xb8_b12 nin0))
  obtain ⟨b19, g19⟩ : ∃ z, z = T18.heap.size := ⟨_, rfl⟩
  have ne_xr5_b19 : xr5 ≠ b19 := Nat.ne_of_lt (Nat.lt_of_lt_of_le fa20.lt (Nat.le_of_eq g19.symm))
  have ne_xb5_b19 : xb5 ≠ b19 := Nat.ne_of_lt (Nat.lt_of_lt_of_le fa21.lt (Nat.le_of_eq g19.symm))
  have ne_xr6_b19 : xr6 ≠ b19 := Nat.ne_of_lt (Nat.lt_of_lt_of_le fa22.lt (Nat.le_of_eq g19.symm))
  have ne_xb6_b19 : xb6 ≠ b19 := Nat.ne_of_lt (Nat.lt_of_lt_of_le fa23.lt (Nat.le_of_eq g19.symm))
  have ne_xr8_b19 : xr8 ≠ b19 := Nat.ne_of_lt (Nat.lt_of_lt_of_le fa24.lt (Nat.le_of_eq g19.symm))
  have ne_xb8_b19 : xb8 ≠ b19 := Nat.ne_of_lt (Nat.lt_of_lt_of_le fa25.lt (Nat.le_of_eq g19.symm))
  have ne_b12_b19 : b12 ≠ b19 := Nat.ne_of_lt (Nat.lt_of_lt_of_le hf18_0.lt (Nat.le_of_eq g19.symm))
  have g_b19 : n0 ≤ b19 := Nat.le_trans Z18 (Nat.le_of_eq g19.symm)
  obtain ⟨T19, h19, X19, e19, E19, A19, D19, -, st19⟩ := newO X18 hx hZ hown (hw _ (List.mem_of_getElem? (i := 37) rfl)) (hw _ (List.mem_of_getElem? (i := 38) rfl)) (hw _ (List.mem_of_getElem? (i := 39) rfl)) rfl (g := (mkF m 157 #[.val (.int p1), .val (.int p2), .val (.int p3), .val (.int c1), .val (.int c2), .val (.int d1), .val (.int d2), .val (.int l1), .val (.int l2), .val (.int e1), .val (.int e2), .val (.int kd), .val (.ref xr5), .val (.ref xr6), .val (.ref xr8), .val (.ref b12), .unset, .unset, .unset, .unset] [])) rfl (hb hby at_157) (by decide) (by decide)
  rw [← g19] at A19 D19 st19
  have CH26 := CHr.trans CH18 (CHr.ext E19 CH18.1)
  have hk26 := Nat.le_trans (Nat.le_refl T18.heap.size) E19.1
  have Z19 : n0 ≤ h19.size := Nat.le_trans Z18 E19.1
  have F19_name : Fld Z h19 b19 "com/example/mapwright/mapwright/sql/Identifier" "name" "Ljava/lang/String;" .null := D19 (Or.inr (hw _ (List.mem_of_getElem? (i := 55) rfl))) (ty := (.object "java/lang/String")) (by decide)
  have F19_delimited : Fld Z h19 b19 "com/example/mapwright/mapwright/sql/Identifier" "delimited" "Z" (.int (0 : Int32)) := D19 (Or.inr (hw _ (List.mem_of_getElem? (i := 57) rfl))) (ty := .boolean) (by decide)
  refine Gen.on (b := T19.setTop (mkF m 160 #[.val (.int p1), .val (.int p2), .val (.int p3), .val (.int c1), .val (.int c2), .val (.int d1), .val (.int d2), .val (.int l1), .val (.int l2), .val (.int e1), .val (.int e2), .val (.int kd), .val (.ref xr5), .val (.ref xr6), .val (.ref xr8), .val (.ref b12), .unset, .unset, .unset, .unset] [(.ref b19)])) ?_ (fun t k => st19 t k)
  refine Gen.on (b := T19.setTop (mkF m 161 #[.val (.int p1), .val (.int p2), .val (.int p3), .val (.int c1), .val (.int c2), .val (.int d1), .val (.int d2), .val (.int l1), .val (.int l2), .val (.int e1), .val (.int e2), .val (.int kd), .val (.ref xr5), .val (.ref xr6), .val (.ref xr8), .val (.ref b12), .unset, .unset, .unset, .unset] [(.ref b19), (.ref b19)])) ?_ (fun t k => XS.dup X19.here hx rfl (hb hby at_160) rfl rfl k)
  refine Gen.on (b := T19.setTop (mkF m 163 #[.val (.int p1), .val (.int p2), .val (.int p3), .val (.int c1), .val (.int c2), .val (.int d1), .val (.int d2), .val (.int l1), .val (.int l2), .val (.int e1), .val (.int e2), .val (.int kd), .val (.ref xr5), .val (.ref xr6), .val (.ref xr8), .val (.ref b12), .unset, .unset, .unset, .unset] [(.ref xr6), (.ref b19), (.ref b19)])) ?_ (fun t k => XS.aload X19.here hx rfl (hb hby at_161) rfl rfl k)
  refine Gen.on (b := T19.setTop (mkF m 165 #[.val (.int p1), .val (.int p2), .val (.int p3), .val (.int c1), .val (.int c2), .val (.int d1), .val (.int d2), .val (.int l1), .val (.int l2), .val (.int e1), .val (.int e2), .val (.int kd), .val (.ref xr5), .val (.ref xr6), .val (.ref xr8), .val (.ref b12), .unset, .unset, .unset, .unset] [(.int e2), (.ref xr6), (.ref b19), (.ref b19)])) ?_ (fun t k => XS.iload X19.here hx rfl (hb hby at_163) rfl k)
  obtain ⟨_, _, ⟨T27, L27, k27, n27⟩, -, X27, hSc27, gr27, ⟨Lc27, hQ27, l27, y27, z27, CHc27⟩, st27⟩ := X19.specialBackS hx (y := (⟨"com/example/mapwright/mapwright/sql/Identifier", "<init>", "(Ljava/lang/String;Z)V"⟩ : MethodName)) rfl hown (mvT hZ (hw _ (List.mem_of_getElem? (i := 40) rfl))) (mvT hZ (hw _ (List.mem_of_getElem? (i := 41) rfl))) (mvT hZ (hw _ (List.mem_of_getElem? (i := 42) rfl))) (by decide) (backOfSH (W := 1) (rm8 l Z a0 hw [] b19 xr6 e2 .null (.int (0 : Int32)) h19 n0 Z19 A19 F19_name F19_delimited g_b19) hZ (hw _ (List.mem_of_getElem? (i := 42) rfl)) (hw _ (List.mem_of_getElem? (i := 39) rfl)) (by decide) (by decide) hEL CH26.1) (g := (mkF m 165 #[.val (.int p1), .val (.int p2), .val (.int p3), .val (.int c1), .val (.int c2), .val (.int d1), .val (.int d2), .val (.int l1), .val (.int l2), .val (.int e1), .val (.int e2), .val (.int kd), .val (.ref xr5), .val (.ref xr6), .val (.ref xr8), .val (.ref b12), .unset, .unset, .unset, .unset] [(.int e2), (.ref xr6), (.ref b19), (.ref b19)])) rfl (by rw [hml]; rfl) (Steps.refl _) (a := b19) (argsL := [(.ref xr6), (.int e2)]) (rest := [(.ref b19)]) (lenOf pd_0_1 rfl) rfl (by show 2 * 0 + _ ≤ _; exact Nat.le_of_eq rfl) (hb hby at_165) (fun _ _ => ⟨rfl, e19, (by decide : 22 + 2 ≤ _), (by decide : 60 + 20 ≤ _)⟩)
  dsimp only [Pt.U, Pt.locs, Pt.cells, Pt.slots] at X27 l27 y27 z27 st27 hQ27 hSc27 gr27 CHc27
  subst l27 y27 z27
  obtain ⟨X27, hS27, hZ, hown⟩ := rebS hS18 hk26 X27 hSc27 (Nat.le_trans (Nat.le_of_eq (congrArg Array.size e19).symm) gr27) hZ hown
  have CH27 := CHr.trans CH26 CHc27
  obtain ⟨rfl, N27q, Kc27, hf27_0, hf27_1, hf27_2⟩ := hQ27
  have N27 := Fr.app N18 N27q
  have Z27 : n0 ≤ T27.heap.size := Nat.le_trans Z19 Kc27.1
  refine Gen.on (b := T27.setTop (mkF m 168 #[.val (.int p1), .val (.int p2), .val (.int p3), .val (.int c1), .val (.int c2), .val (.int d1), .val (.int d2), .val (.int l1), .val (.int l2), .val (.int e1), .val (.int e2), .val (.int kd), .val (.ref xr5), .val (.ref xr6), .val (.ref xr8), .val (.ref b12), .unset, .unset, .unset, .unset] [(.ref b19)])) ?_ (fun t k => st27.trans k)
  refine Gen.on (b := T27.setTop (mkF m 170 #[.val (.int p1), .val (.int p2), .val (.int p3), .val (.int c1), .val (.int c2), .val (.int d1), .val (.int d2), .val (.int l1), .val (.int l2), .val (.int e1), .val (.int e2), .val (.int kd), .val (.ref xr5), .val (.ref xr6), .val (.ref xr8), .val (.ref b12), .val (.ref b19), .unset, .unset, .unset] [])) ?_ (fun t k => XS.astore X27.here hx rfl (hb hby at_168) rfl rfl (l' := #[.val (.int p1), .val (.int p2), .val (.int p3), .val (.int c1), .val (.int c2), .val (.int d1), .val (.int d2), .val (.int l1), .val (.int l2), .val (.int e1), .val (.int e2), .val (.int kd), .val (.ref xr5), .val (.ref xr6), .val (.ref xr8), .val (.ref b12), .val (.ref b19), .unset, .unset, .unset]) rfl k)
  have fa29 := ((fa20.ext E19).keep Kc27)
  have fa30 := ((fa21.ext E19).keep Kc27 (ninS ne_xb5_b19 nin0))
  have fa31 := ((fa22.ext E19).keep Kc27)
  have fa32 := ((fa23.ext E19).keep Kc27 (ninS ne_xb6_b19 nin0))
  have fa33 := ((fa24.ext E19).keep Kc27)
  have fa34 := ((fa25.ext E19).keep Kc27 (ninS ne_xb8_b19 nin0))
  have fa35 := ((hf18_0.ext E19).keep Kc27)
  obtain ⟨b28, g28⟩ : ∃ z, z = T27.heap.size := ⟨_, rfl⟩
  have ne_xr5_b28 : xr5 ≠ b28 := Nat.ne_of_lt (Nat.lt_of_lt_of_le fa29.lt (Nat.le_of_eq g28.symm))
  have ne_xb5_b28 : xb5 ≠ b28 := Nat.ne_of_lt (Nat.lt_of_lt_of_le fa30.lt (Nat.le_of_eq g28.symm))
  have ne_xr6_b28 : xr6 ≠ b28 := Nat.ne_of_lt (Nat.lt_of_lt_of_le fa31.lt (Nat.le_of_eq g28.symm))
  have ne_xb6_b28 : xb6 ≠ b28 := Nat.ne_of_lt (Nat.lt_of_lt_of_le fa32.lt (Nat.le_of_eq g28.symm))
  have ne_xr8_b28 : xr8 ≠ b28 := Nat.ne_of_lt (Nat.lt_of_lt_of_le fa33.lt (Nat.le_of_eq g28.symm))
  have ne_xb8_b28 : xb8 ≠ b28 := Nat.ne_of_lt (Nat.lt_of_lt_of_le fa34.lt (Nat.le_of_eq g28.symm))
  have ne_b12_b28 : b12 ≠ b28 := Nat.ne_of_lt (Nat.lt_of_lt_of_le fa35.lt (Nat.le_of_eq g28.symm))
  have ne_b19_b28 : b19 ≠ b28 := Nat.ne_of_lt (Nat.lt_of_lt_of_le hf27_0.lt (Nat.le_of_eq g28.symm))
  have g_b28 : n0 ≤ b28 := Nat.le_trans Z27 (Nat.le_of_eq g28.symm)
  obtain ⟨T28, h28, X28, e28, E28, A28, D28, -, st28⟩ := newO X27 hx hZ hown (hw _ (List.mem_of_getElem? (i := 37) rfl)) (hw _ (List.mem_of_getElem? (i := 38) rfl)) (hw _ (List.mem_of_getElem? (i := 39) rfl)) rfl (g := (mkF m 170 #[.val (.int p1), .val (.int p2), .val (.int p3), .val (.int c1), .val (.int c2), .val (.int d1), .val (.int d2), .val (.int l1), .val (.int l2), .val (.int e1), .val (.int e2), .val (.int kd), .val (.ref xr5), .val (.ref xr6), .val (.ref xr8), .val (.ref b12), .val (.ref b19), .unset, .unset, .unset] [])) rfl (hb hby at_170) (by decide) (by decide)
  rw [← g28] at A28 D28 st28
  have CH36 := CHr.trans CH27 (CHr.ext E28 CH27.1)
  have hk36 := Nat.le_trans (Nat.le_refl T27.heap.size) E28.1
  have Z28 : n0 ≤ h28.size := Nat.le_trans Z27 E28.1
  have F28_name : Fld Z h28 b28 "com/example/mapwright/mapwright/sql/Identifier" "name" "Ljava/lang/String;" .null := D28 (Or.inr (hw _ (List.mem_of_getElem? (i := 55) rfl))) (ty := (.object "java/lang/String")) (by decide)
  have F28_delimited : Fld Z h28 b28 "com/example/mapwright/mapwright/sql/Identifier" "delimited" "Z" (.int (0 : Int32)) := D28 (Or.inr (hw _ (List.mem_of_getElem? (i := 57) rfl))) (ty := .boolean) (by decide)
  refine Gen.on (b := T28.setTop (mkF m 173 #[.val (.int p1), .val (.int p2), .val (.int p3), .val (.int c1), .val (.int c2), .val (.int d1), .val (.int d2), .val (.int l1), .val (.int l2), .val (.int e1), .val (.int e2), .val (.int kd), .val (.ref xr5), .val (.ref xr6), .val (.ref xr8), .val (.ref b12), .val (.ref b19), .unset, .unset, .unset] [(.ref b28)])) ?_ (fun t k => st28 t k)
  refine Gen.on (b := T28.setTop (mkF m 174 #[.val (.int p1), .val (.int p2), .val (.int p3), .val (.int c1), .val (.int c2), .val (.int d1), .val (.int d2), .val (.int l1), .val (.int l2), .val (.int e1), .val (.int e2), .val (.int kd), .val (.ref xr5), .val (.ref xr6), .val (.ref xr8), .val (.ref b12), .val (.ref b19), .unset, .unset, .unset] [(.ref b28), (.ref b28)])) ?_ (fun t k => XS.dup X28.here hx rfl (hb hby at_173) rfl rfl k)
  refine Gen.on (b := T28.setTop (mkF m 176 #[.val (.int p1), .val (.int p2), .val (.int p3), .val (.int c1), .val (.int c2), .val (.int d1), .val (.int d2), .val (.int l1), .val (.int l2), .val (.int e1), .val (.int e2), .val (.int kd), .val (.ref xr5), .val (.ref xr6), .val (.ref xr8), .val (.ref b12), .val (.ref b19), .unset, .unset, .unset] [(.ref xr8), (.ref b28), (.ref b28)])) ?_ (fun t k => XS.aload X28.here hx rfl (hb hby at_174) rfl rfl k)
  refine Gen.on (b := T28.setTop (mkF m 178 #[.val (.int p1), .val (.int p2), .val (.int p3), .val (.int c1), .val (.int c2), .val (.int d1), .val (.int d2), .val (.int l1), .val (.int l2), .val (.int e1), .val (.int e2), .val (.int kd), .val (.ref xr5), .val (.ref xr6), .val (.ref xr8), .val (.ref b12), .val (.ref b19), .unset, .unset, .unset] [(.int e1), (.ref xr8), (.ref b28), (.ref b28)])) ?_ (fun t k => XS.iload X28.here hx rfl (hb hby at_176) rfl k)
  obtain ⟨_, _, ⟨T37, L37, k37, n37⟩, -, X37, hSc37, gr37, ⟨Lc37, hQ37, l37, y37, z37, CHc37⟩, st37⟩ := X28.specialBackS hx (y := (⟨"com/example/mapwright/mapwright/sql/Identifier", "<init>", "(Ljava/lang/String;Z)V"⟩ : MethodName)) rfl hown (mvT hZ (hw _ (List.mem_of_getElem? (i := 40) rfl))) (mvT hZ (hw _ (List.mem_of_getElem? (i := 41) rfl))) (mvT hZ (hw _ (List.mem_of_getElem? (i := 42) rfl))) (by decide) (backOfSH (W := 1) (rm8 l Z a0 hw [] b28 xr8 e1 .null (.int (0 : Int32)) h28 n0 Z28 A28 F28_name F28_delimited g_b28) hZ (hw _ (List.mem_of_getElem? (i := 42) rfl)) (hw _ (List.mem_of_getElem? (i := 39) rfl)) (by decide) (by decide) hEL CH36.1) (g := (mkF m 178 #[.val (.int p1), .val (.int p2), .val (.int p3), .val (.int c1), .val (.int c2), .val (.int d1), .val (.int d2), .val (.int l1), .val (.int l2), .val (.int e1), .val (.int e2), .val (.int kd), .val (.ref xr5), .val (.ref xr6), .val (.ref xr8), .val (.ref b12), .val (.ref b19), .unset, .unset, .unset] [(.int e1), (.ref xr8), (.ref b28), (.ref b28)])) rfl (by rw [hml]; rfl) (Steps.refl _) (a := b28) (argsL := [(.ref xr8), (.int e1)]) (rest := [(.ref b28)]) (lenOf pd_0_1 rfl) rfl (by show 2 * 0 + _ ≤ _; exact Nat.le_of_eq rfl) (hb hby at_178) (fun _ _ => ⟨rfl, e28, (by decide : 25 + 2 ≤ _), (by decide : 82 + 20 ≤ _)⟩)
  dsimp only [Pt.U, Pt.locs, Pt.cells, Pt.slots] at X37 l37 y37 z37 st37 hQ37 hSc37 gr37 CHc37
  subst l37 y37 z37
  obtain ⟨X37, hS37, hZ, hown⟩ := rebS hS27 hk36 X37 hSc37 (Nat.le_trans (Nat.le_of_eq (congrArg Array.size e28).symm) gr37) hZ hown
  have CH37 := CHr.trans CH36 CHc37
  obtain ⟨rfl, N37q, Kc37, hf37_0, hf37_1, hf37_2⟩ := hQ37
  have N37 := Fr.app N27 N37q
  have Z37 : n0 ≤ T37.heap.size := Nat.le_trans Z28 Kc37.1
  refine Gen.on (b := T37.setTop (mkF m 181 #[.val (.int p1), .val (.int p2), .val (.int p3), .val (.int c1), .val (.int c2), .val (.int d1), .val (.int d2), .val (.int l1), .val (.int l2), .val (.int e1), .val (.int e2), .val (.int kd), .val (.ref xr5), .val (.ref xr6), .val (.ref xr8), .val (.ref b12), .val (.ref b19), .unset, .unset, .unset] [(.ref b28)])) ?_ (fun t k => st37.trans k)
  refine Gen.on (b := T37.setTop (mkF m 183 #[.val (.int p1), .val (.int p2), .val (.int p3), .val (.int c1), .val (.int c2), .val (.int d1), .val (.int d2), .val (.int l1), .val (.int l2), .val (.int e1), .val (.int e2), .val (.int kd), .val (.ref xr5), .val (.ref xr6), .val (.ref xr8), .val (.ref b12), .val (.ref b19), .val (.ref b28), .unset, .unset] [])) ?_ (fun t k => XS.astore X37.here hx rfl (hb hby at_181) rfl rfl (l' := #[.val (.int p1), .val (.int p2), .val (.int p3), .val (.int c1), .val (.int c2), .val (.int d1), .val (.int d2), .val (.int l1), .val (.int l2), .val (.int e1), .val (.int e2), .val (.int kd), .val (.ref xr5), .val (.ref xr6), .val (.ref xr8), .val (.ref b12), .val (.ref b19), .val (.ref b28), .unset, .unset]) rfl k)
  obtain ⟨_, st38, T38, X38, e38, rfl⟩ : Gen p e below (own_at X37 T37.heap (mkF m 220 #[.val (.int p1), .val (.int p2), .val (.int p3), .val (.int c1), .val (.int c2), .val (.int d1), .val (.int d2), .val (.int l1), .val (.int l2), .val (.int e1), .val (.int e2), .val (.int kd), .val (.ref xr5), .val (.ref xr6), .val (.ref xr8), .val (.ref b12), .val (.ref b19), .val (.ref b28), .unset, .unset] [(.int (if l1 = l2 then (if l1 < (1 : Int32) then (if l1 < (2 : Int32) then (1 : Int32) else (if c2 = d2 then (1 : Int32) else (0 : Int32))) else (if c1 = d1 then (if l1 < (2 : Int32) then (1 : Int32) else (if c2 = d2 then (1 : Int32) else (0 : Int32))) else (0 : Int32))) else (0 : Int32)))])) (T37.setTop (mkF m 183 #[.val (.int p1), .val (.int p2), .val (.int p3), .val (.int c1), .val (.int c2), .val (.int d1), .val (.int d2), .val (.int l1), .val (.int l2), .val (.int e1), .val (.int e2), .val (.int kd), .val (.ref xr5), .val (.ref xr6), .val (.ref xr8), .val (.ref b12), .val (.ref b19), .val (.ref b28), .unset, .unset] [])) := by
    refine Gen.on (b := T37.setTop (mkF m 185 #[.val (.int p1), .val (.int p2), .val (.int p3), .val (.int c1), .val (.int c2), .val (.int d1), .val (.int d2), .val (.int l1), .val (.int l2), .val (.int e1), .val (.int e2), .val (.int kd), .val (.ref xr5), .val (.ref xr6), .val (.ref xr8), .val (.ref b12), .val (.ref b19), .val (.ref b28), .unset, .unset] [(.int l1)])) ?_ (fun t k => XS.iload X37.here hx rfl (hb hby at_183) rfl k)
    refine Gen.on (b := T37.setTop (mkF m 187 #[.val (.int p1), .val (.int p2), .val (.int p3), .val (.int c1), .val (.int c2), .val (.int d1), .val (.int d2), .val (.int l1), .val (.int l2), .val (.int e1), .val (.int e2), .val (.int kd), .val (.ref xr5), .val (.ref xr6), .val (.ref xr8), .val (.ref b12), .val (.ref b19), .val (.ref b28), .unset, .unset] [(.int l2), (.int l1)])) ?_ (fun t k => XS.iload X37.here hx rfl (hb hby at_185) rfl k)
    by_cases c187_5 : l1 = l2
    · refine Gen.on (b := T37.setTop (mkF m 190 #[.val (.int p1), .val (.int p2), .val (.int p3), .val (.int c1), .val (.int c2), .val (.int d1), .val (.int d2), .val (.int l1), .val (.int l2), .val (.int e1), .val (.int e2), .val (.int kd), .val (.ref xr5), .val (.ref xr6), .val (.ref xr8), .val (.ref b12), .val (.ref b19), .val (.ref b28), .unset, .unset] [])) ?_ (fun t k => XS.icmpNo X37.here hx rfl (hb hby at_187) rfl (teq c187_5).2 k)
      refine Gen.on (b := T37.setTop (mkF m 192 #[.val (.int p1), .val (.int p2), .val (.int p3), .val (.int c1), .val (.int c2), .val (.int d1), .val (.int d2), .val (.int l1), .val (.int l2), .val (.int e1), .val (.int e2), .val (.int kd), .val (.ref xr5), .val (.ref xr6), .val (.ref xr8), .val (.ref b12), .val (.ref b19), .val (.ref b28), .unset, .unset] [(.int l1)])) ?_ (fun t k => XS.iload X37.here hx rfl (hb hby at_190) rfl k)
      refine Gen.on (b := T37.setTop (mkF m 193 #[.val (.int p1), .val (.int p2), .val (.int p3), .val (.int c1), .val (.int c2), .val (.int d1), .val (.int d2), .val (.int l1), .val (.int l2), .val (.int e1), .val (.int e2), .val (.int kd), .val (.ref xr5), .val (.ref xr6), .val (.ref xr8), .val (.ref b12), .val (.ref b19), .val (.ref b28), .unset, .unset] [(.int (1 : Int32)), (.int l1)])) ?_ (fun t k => XS.iconst X37.here hx rfl (hb hby at_192) k)
      by_cases c193_6 : l1 < (1 : Int32)
      · refine Gen.on (b := T37.setTop (mkF m 202 #[.val (.int p1), .val (.int p2), .val (.int p3), .val (.int c1), .val (.int c2), .val (.int d1), .val (.int d2), .val (.int l1), .val (.int l2), .val (.int e1), .val (.int e2), .val (.int kd), .val (.ref xr5), .val (.ref xr6), .val (.ref xr8), .val (.ref b12), .val (.ref b19), .val (.ref b28), .unset, .unset] [])) ?_ (fun t k => XS.icmpYes X37.here hx rfl (pc0 := 193) (pc' := 202) rfl (hb hby at_193) rfl (tlt c193_6).1 (by decide) (by decide) k)
        refine Gen.on (b := T37.setTop (mkF m 204 #[.val (.int p1), .val (.int p2), .val (.int p3), .val (.int c1), .val (.int c2), .val (.int d1), .val (.int d2), .val (.int l1), .val (.int l2), .val (.int e1), .val (.int e2), .val (.int kd), .val (.ref xr5), .val (.ref xr6), .val (.ref xr8), .val (.ref b12), .val (.ref b19), .val (.ref b28), .unset, .unset] [(.int l1)])) ?_ (fun t k => XS.iload X37.here hx rfl (hb hby at_202) rfl k)
        refine Gen.on (b := T37.setTop (mkF m 205 #[.val (.int p1), .val (.int p2), .val (.int p3), .val (.int c1), .val (.int c2), .val (.int d1), .val (.int d2), .val (.int l1), .val (.int l2), .val (.int e1), .val (.int e2), .val (.int kd), .val (.ref xr5), .val (.ref xr6), .val (.ref xr8), .val (.ref b12), .val (.ref b19), .val (.ref b28), .unset, .unset] [(.int (2 : Int32)), (.int l1)])) ?_ (fun t k => XS.iconst X37.here hx rfl (hb hby at_204) k)
        by_cases c205_7 : l1 < (2 : Int32)
        · refine Gen.on (b := T37.setTop (mkF m 215 #[.val (.int p1), .val (.int p2), .val (.int p3), .val (.int c1), .val (.int c2), .val (.int d1), .val (.int d2), .val (.int l1), .val (.int l2), .val (.int e1), .val (.int e2), .val (.int kd), .val (.ref xr5), .val (.ref xr6), .val (.ref xr8), .val (.ref b12), .val (.ref b19), .val (.ref b28), .unset, .unset] [])) ?_ (fun t k => XS.icmpYes X37.here hx rfl (pc0 := 205) (pc' := 215) rfl (hb hby at_205) rfl (tlt c205_7).1 (by decide) (by decide) k)
          refine Gen.on (b := T37.setTop (mkF m 216 #[.val (.int p1), .val (.int p2), .val (.int p3), .val (.int c1), .val (.int c2), .val (.int d1), .val (.int d2), .val (.int l1), .val (.int l2), .val (.int e1), .val (.int e2), .val (.int kd), .val (.ref xr5), .val (.ref xr6), .val (.ref xr8), .val (.ref b12), .val (.ref b19), .val (.ref b28), .unset, .unset] [(.int (1 : Int32))])) ?_ (fun t k => XS.iconst X37.here hx rfl (hb hby at_215) k)
          refine Gen.on (b := T37.setTop (mkF m 220 #[.val (.int p1), .val (.int p2), .val (.int p3), .val (.int c1), .val (.int c2), .val (.int d1), .val (.int d2), .val (.int l1), .val (.int l2), .val (.int e1), .val (.int e2), .val (.int kd), .val (.ref xr5), .val (.ref xr6), .val (.ref xr8), .val (.ref b12), .val (.ref b19), .val (.ref b28), .unset, .unset] [(.int (1 : Int32))])) ?_ (fun t k => XS.goto X37.here hx rfl (pc0 := 216) (pc' := 220) rfl (hb hby at_216) (by decide) (by decide) k)
          exact ⟨_, Steps.refl _, T37, X37, rfl, by simp only [if_pos c187_5, if_pos c193_6, if_pos c205_7]⟩
        · refine Gen.on (b := T37.setTop (mkF m 208 #[.val (.int p1), .val (.int p2), .val (.int p3), .val (.int c1), .val (.int c2), .val (.int d1), .val (.int d2), .val (.int l1), .val (.int l2), .val (.int e1), .val (.int e2), .val (.int kd), .val (.ref xr5), .val (.ref xr6), .val (.ref xr8), .val (.ref b12), .val (.ref b19), .val (.ref b28), .unset, .unset] [])) ?_ (fun t k => XS.icmpNo X37.here hx rfl (hb hby at_205) rfl (flt c205_7).1 k)
          refine Gen.on (b := T37.setTop (mkF m 210 #[.val (.int p1), .val (.int p2), .val (.int p3), .val (.int c1), .val (.int c2), .val (.int d1), .val (.int d2), .val (.int l1), .val (.int l2), .val (.int e1), .val (.int e2), .val (.int kd), .val (.ref xr5), .val (.ref xr6), .val (.ref xr8), .val (.ref b12), .val (.ref b19), .val (.ref b28), .unset, .unset] [(.int c2)])) ?_ (fun t k => XS.iload X37.here hx rfl (hb hby at_208) rfl k)
          refine Gen.on (b := T37.setTop (mkF m 212 #[.val (.int p1), .val (.int p2), .val (.int p3), .val (.int c1), .val (.int c2), .val (.int d1), .val (.int d2), .val (.int l1), .val (.int l2), .val (.int e1), .val (.int e2), .val (.int kd), .val (.ref xr5), .val (.ref xr6), .val (.ref xr8), .val (.ref b12), .val (.ref b19), .val (.ref b28), .unset, .unset] [(.int d2), (.int c2)])) ?_ (fun t k => XS.iload X37.here hx rfl (hb hby at_210) rfl k)
          by_cases c212_8 : c2 = d2
          · refine Gen.on (b := T37.setTop (mkF m 215 #[.val (.int p1), .val (.int p2), .val (.int p3), .val (.int c1), .val (.int c2), .val (.int d1), .val (.int d2), .val (.int l1), .val (.int l2), .val (.int e1), .val (.int e2), .val (.int kd), .val (.ref xr5), .val (.ref xr6), .val (.ref xr8), .val (.ref b12), .val (.ref b19), .val (.ref b28), .unset, .unset] [])) ?_ (fun t k => XS.icmpNo X37.here hx rfl (hb hby at_212) rfl (teq c212_8).2 k)
            refine Gen.on (b := T37.setTop (mkF m 216 #[.val (.int p1), .val (.int p2), .val (.int p3), .val (.int c1), .val (.int c2), .val (.int d1), .val (.int d2), .val (.int l1), .val (.int l2), .val (.int e1), .val (.int e2), .val (.int kd), .val (.ref xr5), .val (.ref xr6), .val (.ref xr8), .val (.ref b12), .val (.ref b19), .val (.ref b28), .unset, .unset] [(.int (1 : Int32))])) ?_ (fun t k => XS.iconst X37.here hx rfl (hb hby at_215) k)
            refine Gen.on (b := T37.setTop (mkF m 220 #[.val (.int p1), .val (.int p2), .val (.int p3), .val (.int c1), .val (.int c2), .val (.int d1), .val (.int d2), .val (.int l1), .val (.int l2), .val (.int e1), .val (.int e2), .val (.int kd), .val (.ref xr5), .val (.ref xr6), .val (.ref xr8), .val (.ref b12), .val (.ref b19), .val (.ref b28), .unset, .unset] [(.int (1 : Int32))])) ?_ (fun t k => XS.goto X37.here hx rfl (pc0 := 216) (pc' := 220) rfl (hb hby at_216) (by decide) (by decide) k)
            exact ⟨_, Steps.refl _, T37, X37, rfl, by simp only [if_pos c187_5, if_pos c193_6, if_neg c205_7, if_pos c212_8]⟩
          · refine Gen.on (b := T37.setTop (mkF m 219 #[.val (.int p1), .val (.int p2), .val (.int p3), .val (.int c1), .val (.int c2), .val (.int d1), .val (.int d2), .val (.int l1), .val (.int l2), .val (.int e1), .val (.int e2), .val (.int kd), .val (.ref xr5), .val (.ref xr6), .val (.ref xr8), .val (.ref b12), .val (.ref b19), .val (.ref b28), .unset, .unset] [])) ?_ (fun t k => XS.icmpYes X37.here hx rfl (pc0 := 212) (pc' := 219) rfl (hb hby at_212) rfl (feq c212_8).2 (by decide) (by decide) k)
            refine Gen.on (b := T37.setTop (mkF m 220 #[.val (.int p1), .val (.int p2), .val (.int p3), .val (.int c1), .val (.int c2), .val (.int d1), .val (.int d2), .val (.int l1), .val (.int l2), .val (.int e1), .val (.int e2), .val (.int kd), .val (.ref xr5), .val (.ref xr6), .val (.ref xr8), .val (.ref b12), .val (.ref b19), .val (.ref b28), .unset, .unset] [(.int (0 : Int32))])) ?_ (fun t k => XS.iconst X37.here hx rfl (hb hby at_219) k)
            exact ⟨_, Steps.refl _, T37, X37, rfl, by simp only [if_pos c187_5, if_pos c193_6, if_neg c205_7, if_neg c212_8]⟩
      · refine Gen.on (b := T37.setTop (mkF m 196 #[.val (.int p1), .val (.int p2), .val (.int p3), .val (.int c1), .val (.int c2), .val (.int d1), .val (.int d2), .val (.int l1), .val (.int l2), .val (.int e1), .val (.int e2), .val (.int kd), .val (.ref xr5), .val (.ref xr6), .val (.ref xr8), .val (.ref b12), .val (.ref b19), .val (.ref b28), .unset, .unset] [])) ?_ (fun t k => XS.icmpNo X37.here hx rfl (hb hby at_193) rfl (flt c193_6).1 k)
        refine Gen.on (b := T37.setTop (mkF m 197 #[.val (.int p1), .val (.int p2), .val (.int p3), .val (.int c1), .val (.int c2), .val (.int d1), .val (.int d2), .val (.int l1), .val (.int l2), .val (.int e1), .val (.int e2), .val (.int kd), .val (.ref xr5), .val (.ref xr6), .val (.ref xr8), .val (.ref b12), .val (.ref b19), .val (.ref b28), .unset, .unset] [(.int c1)])) ?_ (fun t k => XS.iloadN X37.here hx rfl (hb hby at_196) rfl k)
        refine Gen.on (b := T37.setTop (mkF m 199 #[.val (.int p1), .val (.int p2), .val (.int p3), .val (.int c1), .val (.int c2), .val (.int d1), .val (.int d2), .val (.int l1), .val (.int l2), .val (.int e1), .val (.int e2), .val (.int kd), .val (.ref xr5), .val (.ref xr6), .val (.ref xr8), .val (.ref b12), .val (.ref b19), .val (.ref b28), .unset, .unset] [(.int d1), (.int c1)])) ?_ (fun t k => XS.iload X37.here hx rfl (hb hby at_197) rfl k)
        by_cases c199_9 : c1 = d1
        · refine Gen.on (b := T37.setTop (mkF m 202 #[.val (.int p1), .val (.int p2), .val (.int p3), .val (.int c1), .val (.int c2), .val (.int d1), .val (.int d2), .val (.int l1), .val (.int l2), .val (.int e1), .val (.int e2), .val (.int kd), .val (.ref xr5), .val (.ref xr6), .val (.ref xr8), .val (.ref b12), .val (.ref b19), .val (.ref b28), .unset, .unset] [])) ?_ (fun t k => XS.icmpNo X37.here hx rfl (hb hby at_199) rfl (teq c199_9).2 k)
          refine Gen.on (b := T37.setTop (mkF m 204 #[.val (.int p1), .val (.int p2), .val (.int p3), .val (.int c1), .val (.int c2), .val (.int d1), .val (.int d2), .val (.int l1), .val (.int l2), .val (.int e1), .val (.int e2), .val (.int kd), .val (.ref xr5), .val (.ref xr6), .val (.ref xr8), .val (.ref b12), .val (.ref b19), .val (.ref b28), .unset, .unset] [(.int l1)])) ?_ (fun t k => XS.iload X37.here hx rfl (hb hby at_202) rfl k)
          refine Gen.on (b := T37.setTop (mkF m 205 #[.val (.int p1), .val (.int p2), .val (.int p3), .val (.int c1), .val (.int c2), .val (.int d1), .val (.int d2), .val (.int l1), .val (.int l2), .val (.int e1), .val (.int e2), .val (.int kd), .val (.ref xr5), .val (.ref xr6), .val (.ref xr8), .val (.ref b12), .val (.ref b19), .val (.ref b28), .unset, .unset] [(.int (2 : Int32)), (.int l1)])) ?_ (fun t k => XS.iconst X37.here hx rfl (hb hby at_204) k)
          by_cases c205_10 : l1 < (2 : Int32)
          · refine Gen.on (b := T37.setTop (mkF m 215 #[.val (.int p1), .val (.int p2), .val (.int p3), .val (.int c1), .val (.int c2), .val (.int d1), .val (.int d2), .val (.int l1), .val (.int l2), .val (.int e1), .val (.int e2), .val (.int kd), .val (.ref xr5), .val (.ref xr6), .val (.ref xr8), .val (.ref b12), .val (.ref b19), .val (.ref b28), .unset, .unset] [])) ?_ (fun t k => XS.icmpYes X37.here hx rfl (pc0 := 205) (pc' := 215) rfl (hb hby at_205) rfl (tlt c205_10).1 (by decide) (by decide) k)
            refine Gen.on (b := T37.setTop (mkF m 216 #[.val (.int p1), .val (.int p2), .val (.int p3), .val (.int c1), .val (.int c2), .val (.int d1), .val (.int d2), .val (.int l1), .val (.int l2), .val (.int e1), .val (.int e2), .val (.int kd), .val (.ref xr5), .val (.ref xr6), .val (.ref xr8), .val (.ref b12), .val (.ref b19), .val (.ref b28), .unset, .unset] [(.int (1 : Int32))])) ?_ (fun t k => XS.iconst X37.here hx rfl (hb hby at_215) k)
            refine Gen.on (b := T37.setTop (mkF m 220 #[.val (.int p1), .val (.int p2), .val (.int p3), .val (.int c1), .val (.int c2), .val (.int d1), .val (.int d2), .val (.int l1), .val (.int l2), .val (.int e1), .val (.int e2), .val (.int kd), .val (.ref xr5), .val (.ref xr6), .val (.ref xr8), .val (.ref b12), .val (.ref b19), .val (.ref b28), .unset, .unset] [(.int (1 : Int32))])) ?_ (fun t k => XS.goto X37.here hx rfl (pc0 := 216) (pc' := 220) rfl (hb hby at_216) (by decide) (by decide) k)
            exact ⟨_, Steps.refl _, T37, X37, rfl, by simp only [if_pos c187_5, if_neg c193_6, if_pos c199_9, if_pos c205_10]⟩
          · refine Gen.on (b := T37.setTop (mkF m 208 #[.val (.int p1), .val (.int p2), .val (.int p3), .val (.int c1), .val (.int c2), .val (.int d1), .val (.int d2), .val (.int l1), .val (.int l2), .val (.int e1), .val (.int e2), .val (.int kd), .val (.ref xr5), .val (.ref xr6), .val (.ref xr8), .val (.ref b12), .val (.ref b19), .val (.ref b28), .unset, .unset] [])) ?_ (fun t k => XS.icmpNo X37.here hx rfl (hb hby at_205) rfl (flt c205_10).1 k)
            refine Gen.on (b := T37.setTop (mkF m 210 #[.val (.int p1), .val (.int p2), .val (.int p3), .val (.int c1), .val (.int c2), .val (.int d1), .val (.int d2), .val (.int l1), .val (.int l2), .val (.int e1), .val (.int e2), .val (.int kd), .val (.ref xr5), .val (.ref xr6), .val (.ref xr8), .val (.ref b12), .val (.ref b19), .val (.ref b28), .unset, .unset] [(.int c2)])) ?_ (fun t k => XS.iload X37.here hx rfl (hb hby at_208) rfl k)
            refine Gen.on (b := T37.setTop (mkF m 212 #[.val (.int p1), .val (.int p2), .val (.int p3), .val (.int c1), .val (.int c2), .val (.int d1), .val (.int d2), .val (.int l1), .val (.int l2), .val (.int e1), .val (.int e2), .val (.int kd), .val (.ref xr5), .val (.ref xr6), .val (.ref xr8), .val (.ref b12), .val (.ref b19), .val (.ref b28), .unset, .unset] [(.int d2), (.int c2)])) ?_ (fun t k => XS.iload X37.here hx rfl (hb hby at_210) rfl k)
            by_cases c212_11 : c2 = d2
            · refine Gen.on (b := T37.setTop (mkF m 215 #[.val (.int p1), .val (.int p2), .val (.int p3), .val (.int c1), .val (.int c2), .val (.int d1), .val (.int d2), .val (.int l1), .val (.int l2), .val (.int e1), .val (.int e2), .val (.int kd), .val (.ref xr5), .val (.ref xr6), .val (.ref xr8), .val (.ref b12), .val (.ref b19), .val (.ref b28), .unset, .unset] [])) ?_ (fun t k => XS.icmpNo X37.here hx rfl (hb hby at_212) rfl (teq c212_11).2 k)
              refine Gen.on (b := T37.setTop (mkF m 216 #[.val (.int p1), .val (.int p2), .val (.int p3), .val (.int c1), .val (.int c2), .val (.int d1), .val (.int d2), .val (.int l1), .val (.int l2), .val (.int e1), .val (.int e2), .val (.int kd), .val (.ref xr5), .val (.ref xr6), .val (.ref xr8), .val (.ref b12), .val (.ref b19), .val (.ref b28), .unset, .unset] [(.int (1 : Int32))])) ?_ (fun t k => XS.iconst X37.here hx rfl (hb hby at_215) k)
              refine Gen.on (b := T37.setTop (mkF m 220 #[.val (.int p1), .val (.int p2), .val (.int p3), .val (.int c1), .val (.int c2), .val (.int d1), .val (.int d2), .val (.int l1), .val (.int l2), .val (.int e1), .val (.int e2), .val (.int kd), .val (.ref xr5), .val (.ref xr6), .val (.ref xr8), .val (.ref b12), .val (.ref b19), .val (.ref b28), .unset, .unset] [(.int (1 : Int32))])) ?_ (fun t k => XS.goto X37.here hx rfl (pc0 := 216) (pc' := 220) rfl (hb hby at_216) (by decide) (by decide) k)
              exact ⟨_, Steps.refl _, T37, X37, rfl, by simp only [if_pos c187_5, if_neg c193_6, if_pos c199_9, if_neg c205_10, if_pos c212_11]⟩
            · refine Gen.on (b := T37.setTop (mkF m 219 #[.val (.int p1), .val (.int p2), .val (.int p3), .val (.int c1), .val (.int c2), .val (.int d1), .val (.int d2), .val (.int l1), .val (.int l2), .val (.int e1), .val (.int e2), .val (.int kd), .val (.ref xr5), .val (.ref xr6), .val (.ref xr8), .val (.ref b12), .val (.ref b19), .val (.ref b28), .unset, .unset] [])) ?_ (fun t k => XS.icmpYes X37.here hx rfl (pc0 := 212) (pc' := 219) rfl (hb hby at_212) rfl (feq c212_11).2 (by decide) (by decide) k)
              refine Gen.on (b := T37.setTop (mkF m 220 #[.val (.int p1), .val (.int p2), .val (.int p3), .val (.int c1), .val (.int c2), .val (.int d1), .val (.int d2), .val (.int l1), .val (.int l2), .val (.int e1), .val (.int e2), .val (.int kd), .val (.ref xr5), .val (.ref xr6), .val (.ref xr8), .val (.ref b12), .val (.ref b19), .val (.ref b28), .unset, .unset] [(.int (0 : Int32))])) ?_ (fun t k => XS.iconst X37.here hx rfl (hb hby at_219) k)
              exact ⟨_, Steps.refl _, T37, X37, rfl, by simp only [if_pos c187_5, if_neg c193_6, if_pos c199_9, if_neg c205_10, if_neg c212_11]⟩
        · refine Gen.on (b := T37.setTop (mkF m 219 #[.val (.int p1), .val (.int p2), .val (.int p3), .val (.int c1), .val (.int c2), .val (.int d1), .val (.int d2), .val (.int l1), .val (.int l2), .val (.int e1), .val (.int e2), .val (.int kd), .val (.ref xr5), .val (.ref xr6), .val (.ref xr8), .val (.ref b12), .val (.ref b19), .val (.ref b28), .unset, .unset] [])) ?_ (fun t k => XS.icmpYes X37.here hx rfl (pc0 := 199) (pc' := 219) rfl (hb hby at_199) rfl (feq c199_9).2 (by decide) (by decide) k)
          refine Gen.on (b := T37.setTop (mkF m 220 #[.val (.int p1), .val (.int p2), .val (.int p3), .val (.int c1), .val (.int c2), .val (.int d1), .val (.int d2), .val (.int l1), .val (.int l2), .val (.int e1), .val (.int e2), .val (.int kd), .val (.ref xr5), .val (.ref xr6), .val (.ref xr8), .val (.ref b12), .val (.ref b19), .val (.ref b28), .unset, .unset] [(.int (0 : Int32))])) ?_ (fun t k => XS.iconst X37.here hx rfl (hb hby at_219) k)
          exact ⟨_, Steps.refl _, T37, X37, rfl, by simp only [if_pos c187_5, if_neg c193_6, if_neg c199_9]⟩
    · refine Gen.on (b := T37.setTop (mkF m 219 #[.val (.int p1), .val (.int p2), .val (.int p3), .val (.int c1), .val (.int c2), .val (.int d1), .val (.int d2), .val (.int l1), .val (.int l2), .val (.int e1), .val (.int e2), .val (.int kd), .val (.ref xr5), .val (.ref xr6), .val (.ref xr8), .val (.ref b12), .val (.ref b19), .val (.ref b28), .unset, .unset] [])) ?_ (fun t k => XS.icmpYes X37.here hx rfl (pc0 := 187) (pc' := 219) rfl (hb hby at_187) rfl (feq c187_5).2 (by decide) (by decide) k)
      refine Gen.on (b := T37.setTop (mkF m 220 #[.val (.int p1), .val (.int p2), .val (.int p3), .val (.int c1), .val (.int c2), .val (.int d1), .val (.int d2), .val (.int l1), .val (.int l2), .val (.int e1), .val (.int e2), .val (.int kd), .val (.ref xr5), .val (.ref xr6), .val (.ref xr8), .val (.ref b12), .val (.ref b19), .val (.ref b28), .unset, .unset] [(.int (0 : Int32))])) ?_ (fun t k => XS.iconst X37.here hx rfl (hb hby at_219) k)
      exact ⟨_, Steps.refl _, T37, X37, rfl, by simp only [if_neg c187_5]⟩
  refine Gen.on (b := T38.setTop (mkF m 220 #[.val (.int p1), .val (.int p2), .val (.int p3), .val (.int c1), .val (.int c2), .val (.int d1), .val (.int d2), .val (.int l1), .val (.int l2), .val (.int e1), .val (.int e2), .val (.int kd), .val (.ref xr5), .val (.ref xr6), .val (.ref xr8), .val (.ref b12), .val (.ref b19), .val (.ref b28), .unset, .unset] [(.int (if l1 = l2 then (if l1 < (1 : Int32) then (if l1 < (2 : Int32) then (1 : Int32) else (if c2 = d2 then (1 : Int32) else (0 : Int32))) else (if c1 = d1 then (if l1 < (2 : Int32) then (1 : Int32) else (if c2 = d2 then (1 : Int32) else (0 : Int32))) else (0 : Int32))) else (0 : Int32)))])) ?_ (fun t k => st38.trans k)
  refine Gen.on (b := T38.setTop (mkF m 222 #[.val (.int p1), .val (.int p2), .val (.int p3), .val (.int c1), .val (.int c2), .val (.int d1), .val (.int d2), .val (.int l1), .val (.int l2), .val (.int e1), .val (.int e2), .val (.int kd), .val (.ref xr5), .val (.ref xr6), .val (.ref xr8), .val (.ref b12), .val (.ref b19), .val (.ref b28), .val (.int (if l1 = l2 then (if l1 < (1 : Int32) then (if l1 < (2 : Int32) then (1 : Int32) else (if c2 = d2 then (1 : Int32) else (0 : Int32))) else (if c1 = d1 then (if l1 < (2 : Int32) then (1 : Int32) else (if c2 = d2 then (1 : Int32) else (0 : Int32))) else (0 : Int32))) else (0 : Int32))), .unset] [])) ?_ (fun t k => XS.istore X38.here hx rfl (hb hby at_220) rfl (l' := #[.val (.int p1), .val (.int p2), .val (.int p3), .val (.int c1), .val (.int c2), .val (.int d1), .val (.int d2), .val (.int l1), .val (.int l2), .val (.int e1), .val (.int e2), .val (.int kd), .val (.ref xr5), .val (.ref xr6), .val (.ref xr8), .val (.ref b12), .val (.ref b19), .val (.ref b28), .val (.int (if l1 = l2 then (if l1 < (1 : Int32) then (if l1 < (2 : Int32) then (1 : Int32) else (if c2 = d2 then (1 : Int32) else (0 : Int32))) else (if c1 = d1 then (if l1 < (2 : Int32) then (1 : Int32) else (if c2 = d2 then (1 : Int32) else (0 : Int32))) else (0 : Int32))) else (0 : Int32))), .unset]) rfl k)
  obtain ⟨sm, h_sm⟩ : ∃ z, z = (if l1 = l2 then (if l1 < (1 : Int32) then (if l1 < (2 : Int32) then (1 : Int32) else (if c2 = d2 then (1 : Int32) else (0 : Int32))) else (if c1 = d1 then (if l1 < (2 : Int32) then (1 : Int32) else (if c2 = d2 then (1 : Int32) else (0 : Int32))) else (0 : Int32))) else (0 : Int32)) := ⟨_, rfl⟩
  rw [← h_sm]
  obtain ⟨_, st39, T39, X39, e39, rfl⟩ : Gen p e below (own_at X38 T37.heap (mkF m 239 #[.val (.int p1), .val (.int p2), .val (.int p3), .val (.int c1), .val (.int c2), .val (.int d1), .val (.int d2), .val (.int l1), .val (.int l2), .val (.int e1), .val (.int e2), .val (.int kd), .val (.ref xr5), .val (.ref xr6), .val (.ref xr8), .val (.ref b12), .val (.ref b19), .val (.ref b28), .val (.int sm), .unset] [(.int (if e1 = e2 then (if sm = (0 : Int32) then (0 : Int32) else (1 : Int32)) else (0 : Int32)))])) (T38.setTop (mkF m 222 #[.val (.int p1), .val (.int p2), .val (.int p3), .val (.int c1), .val (.int c2), .val (.int d1), .val (.int d2), .val (.int l1), .val (.int l2), .val (.int e1), .val (.int e2), .val (.int kd), .val (.ref xr5), .val (.ref xr6), .val (.ref xr8), .val (.ref b12), .val (.ref b19), .val (.ref b28), .val (.int sm), .unset] [])) := by
    refine Gen.on (b := T38.setTop (mkF m 224 #[.val (.int p1), .val (.int p2), .val (.int p3), .val (.int c1), .val (.int c2), .val (.int d1), .val (.int d2), .val (.int l1), .val (.int l2), .val (.int e1), .val (.int e2), .val (.int kd), .val (.ref xr5), .val (.ref xr6), .val (.ref xr8), .val (.ref b12), .val (.ref b19), .val (.ref b28), .val (.int sm), .unset] [(.int e1)])) ?_ (fun t k => XS.iload X38.here hx rfl (hb hby at_222) rfl k)
    refine Gen.on (b := T38.setTop (mkF m 226 #[.val (.int p1), .val (.int p2), .val (.int p3), .val (.int c1), .val (.int c2), .val (.int d1), .val (.int d2), .val (.int l1), .val (.int l2), .val (.int e1), .val (.int e2), .val (.int kd), .val (.ref xr5), .val (.ref xr6), .val (.ref xr8), .val (.ref b12), .val (.ref b19), .val (.ref b28), .val (.int sm), .unset] [(.int e2), (.int e1)])) ?_ (fun t k => XS.iload X38.here hx rfl (hb hby at_224) rfl k)
    by_cases c226_12 : e1 = e2
    · refine Gen.on (b := T38.setTop (mkF m 229 #[.val (.int p1), .val (.int p2), .val (.int p3), .val (.int c1), .val (.int c2), .val (.int d1), .val (.int d2), .val (.int l1), .val (.int l2), .val (.int e1), .val (.int e2), .val (.int kd), .val (.ref xr5), .val (.ref xr6), .val (.ref xr8), .val (.ref b12), .val (.ref b19), .val (.ref b28), .val (.int sm), .unset] [])) ?_ (fun t k => XS.icmpNo X38.here hx rfl (hb hby at_226) rfl (teq c226_12).2 k)
      refine Gen.on (b := T38.setTop (mkF m 231 #[.val (.int p1), .val (.int p2), .val (.int p3), .val (.int c1), .val (.int c2), .val (.int d1), .val (.int d2), .val (.int l1), .val (.int l2), .val (.int e1), .val (.int e2), .val (.int kd), .val (.ref xr5), .val (.ref xr6), .val (.ref xr8), .val (.ref b12), .val (.ref b19), .val (.ref b28), .val (.int sm), .unset] [(.int sm)])) ?_ (fun t k => XS.iload X38.here hx rfl (hb hby at_229) rfl k)
      by_cases c231_13 : sm = (0 : Int32)
      · refine Gen.on (b := T38.setTop (mkF m 238 #[.val (.int p1), .val (.int p2), .val (.int p3), .val (.int c1), .val (.int c2), .val (.int d1), .val (.int d2), .val (.int l1), .val (.int l2), .val (.int e1), .val (.int e2), .val (.int kd), .val (.ref xr5), .val (.ref xr6), .val (.ref xr8), .val (.ref b12), .val (.ref b19), .val (.ref b28), .val (.int sm), .unset] [])) ?_ (fun t k => XS.ifYes X38.here hx rfl (pc0 := 231) (pc' := 238) rfl (hb hby at_231) rfl ((if0 _ _).trans (teq c231_13).1) (by decide) (by decide) k)
        refine Gen.on (b := T38.setTop (mkF m 239 #[.val (.int p1), .val (.int p2), .val (.int p3), .val (.int c1), .val (.int c2), .val (.int d1), .val (.int d2), .val (.int l1), .val (.int l2), .val (.int e1), .val (.int e2), .val (.int kd), .val (.ref xr5), .val (.ref xr6), .val (.ref xr8), .val (.ref b12), .val (.ref b19), .val (.ref b28), .val (.int sm), .unset] [(.int (0 : Int32))])) ?_ (fun t k => XS.iconst X38.here hx rfl (hb hby at_238) k)
        exact ⟨_, Steps.refl _, T38, X38, e38, by simp only [if_pos c226_12, if_pos c231_13]⟩
      · refine Gen.on (b := T38.setTop (mkF m 234 #[.val (.int p1), .val (.int p2), .val (.int p3), .val (.int c1), .val (.int c2), .val (.int d1), .val (.int d2), .val (.int l1), .val (.int l2), .val (.int e1), .val (.int e2), .val (.int kd), .val (.ref xr5), .val (.ref xr6), .val (.ref xr8), .val (.ref b12), .val (.ref b19), .val (.ref b28), .val (.int sm), .unset] [])) ?_ (fun t k => XS.ifNo X38.here hx rfl (hb hby at_231) rfl ((if0 _ _).trans (feq c231_13).1) k)
        refine Gen.on (b := T38.setTop (mkF m 235 #[.val (.int p1), .val (.int p2), .val (.int p3), .val (.int c1), .val (.int c2), .val (.int d1), .val (.int d2), .val (.int l1), .val (.int l2), .val (.int e1), .val (.int e2), .val (.int kd), .val (.ref xr5), .val (.ref xr6), .val (.ref xr8), .val (.ref b12), .val (.ref b19), .val (.ref b28), .val (.int sm), .unset] [(.int (1 : Int32))])) ?_ (fun t k => XS.iconst X38.here hx rfl (hb hby at_234) k)
        refine Gen.on (b := T38.setTop (mkF m 239 #[.val (.int p1), .val (.int p2), .val (.int p3), .val (.int c1), .val (.int c2), .val (.int d1), .val (.int d2), .val (.int l1), .val (.int l2), .val (.int e1), .val (.int e2), .val (.int kd), .val (.ref xr5), .val (.ref xr6), .val (.ref xr8), .val (.ref b12), .val (.ref b19), .val (.ref b28), .val (.int sm), .unset] [(.int (1 : Int32))])) ?_ (fun t k => XS.goto X38.here hx rfl (pc0 := 235) (pc' := 239) rfl (hb hby at_235) (by decide) (by decide) k)
        exact ⟨_, Steps.refl _, T38, X38, e38, by simp only [if_pos c226_12, if_neg c231_13]⟩
    · refine Gen.on (b := T38.setTop (mkF m 238 #[.val (.int p1), .val (.int p2), .val (.int p3), .val (.int c1), .val (.int c2), .val (.int d1), .val (.int d2), .val (.int l1), .val (.int l2), .val (.int e1), .val (.int e2), .val (.int kd), .val (.ref xr5), .val (.ref xr6), .val (.ref xr8), .val (.ref b12), .val (.ref b19), .val (.ref b28), .val (.int sm), .unset] [])) ?_ (fun t k => XS.icmpYes X38.here hx rfl (pc0 := 226) (pc' := 238) rfl (hb hby at_226) rfl (feq c226_12).2 (by decide) (by decide) k)
      refine Gen.on (b := T38.setTop (mkF m 239 #[.val (.int p1), .val (.int p2), .val (.int p3), .val (.int c1), .val (.int c2), .val (.int d1), .val (.int d2), .val (.int l1), .val (.int l2), .val (.int e1), .val (.int e2), .val (.int kd), .val (.ref xr5), .val (.ref xr6), .val (.ref xr8), .val (.ref b12), .val (.ref b19), .val (.ref b28), .val (.int sm), .unset] [(.int (0 : Int32))])) ?_ (fun t k => XS.iconst X38.here hx rfl (hb hby at_238) k)
      exact ⟨_, Steps.refl _, T38, X38, e38, by simp only [if_neg c226_12]⟩
  refine Gen.on (b := T39.setTop (mkF m 239 #[.val (.int p1), .val (.int p2), .val (.int p3), .val (.int c1), .val (.int c2), .val (.int d1), .val (.int d2), .val (.int l1), .val (.int l2), .val (.int e1), .val (.int e2), .val (.int kd), .val (.ref xr5), .val (.ref xr6), .val (.ref xr8), .val (.ref b12), .val (.ref b19), .val (.ref b28), .val (.int sm), .unset] [(.int (if e1 = e2 then (if sm = (0 : Int32) then (0 : Int32) else (1 : Int32)) else (0 : Int32)))])) ?_ (fun t k => st39.trans k)
  refine Gen.on (b := T39.setTop (mkF m 241 #[.val (.int p1), .val (.int p2), .val (.int p3), .val (.int c1), .val (.int c2), .val (.int d1), .val (.int d2), .val (.int l1), .val (.int l2), .val (.int e1), .val (.int e2), .val (.int kd), .val (.ref xr5), .val (.ref xr6), .val (.ref xr8), .val (.ref b12), .val (.ref b19), .val (.ref b28), .val (.int sm), .val (.int (if e1 = e2 then (if sm = (0 : Int32) then (0 : Int32) else (1 : Int32)) else (0 : Int32)))] [])) ?_ (fun t k => XS.istore X39.here hx rfl (hb hby at_239) rfl (l' := #[.val (.int p1), .val (.int p2), .val (.int p3), .val (.int c1), .val (.int c2), .val (.int d1), .val (.int d2), .val (.int l1), .val (.int l2), .val (.int e1), .val (.int e2), .val (.int kd), .val (.ref xr5), .val (.ref xr6), .val (.ref xr8), .val (.ref b12), .val (.ref b19), .val (.ref b28), .val (.int sm), .val (.int (if e1 = e2 then (if sm = (0 : Int32) then (0 : Int32) else (1 : Int32)) else (0 : Int32)))]) rfl k)
  obtain ⟨ex, h_ex⟩ : ∃ z, z = (if e1 = e2 then (if sm = (0 : Int32) then (0 : Int32) else (1 : Int32)) else (0 : Int32)) := ⟨_, rfl⟩
  rw [← h_ex]
  refine Gen.on (b := T39.setTop (mkF m 243 #[.val (.int p1), .val (.int p2), .val (.int p3), .val (.int c1), .val (.int c2), .val (.int d1), .val (.int d2), .val (.int l1), .val (.int l2), .val (.int e1), .val (.int e2), .val (.int kd), .val (.ref xr5), .val (.ref xr6), .val (.ref xr8), .val (.ref b12), .val (.ref b19), .val (.ref b28), .val (.int sm), .val (.int ex)] [(.int kd)])) ?_ (fun t k => XS.iload X39.here hx rfl (hb hby at_241) rfl k)
  by_cases c243_14 : kd = (0 : Int32)
  · refine Gen.on (b := T39.setTop (mkF m 246 #[.val (.int p1), .val (.int p2), .val (.int p3), .val (.int c1), .val (.int c2), .val (.int d1), .val (.int d2), .val (.int l1), .val (.int l2), .val (.int e1), .val (.int e2), .val (.int kd), .val (.ref xr5), .val (.ref xr6), .val (.ref xr8), .val (.ref b12), .val (.ref b19), .val (.ref b28), .val (.int sm), .val (.int ex)] [])) ?_ (fun t k => XS.ifNo X39.here hx rfl (hb hby at_243) rfl ((if0 _ _).trans (teq c243_14).2) k)
    refine Gen.on (b := T39.setTop (mkF m 248 #[.val (.int p1), .val (.int p2), .val (.int p3), .val (.int c1), .val (.int c2), .val (.int d1), .val (.int d2), .val (.int l1), .val (.int l2), .val (.int e1), .val (.int e2), .val (.int kd), .val (.ref xr5), .val (.ref xr6), .val (.ref xr8), .val (.ref b12), .val (.ref b19), .val (.ref b28), .val (.int sm), .val (.int ex)] [(.ref b12)])) ?_ (fun t k => XS.aload X39.here hx rfl (hb hby at_246) rfl rfl k)
    refine Gen.on (b := T39.setTop (mkF m 250 #[.val (.int p1), .val (.int p2), .val (.int p3), .val (.int c1), .val (.int c2), .val (.int d1), .val (.int d2), .val (.int l1), .val (.int l2), .val (.int e1), .val (.int e2), .val (.int kd), .val (.ref xr5), .val (.ref xr6), .val (.ref xr8), .val (.ref b12), .val (.ref b19), .val (.ref b28), .val (.int sm), .val (.int ex)] [(.ref b19), (.ref b12)])) ?_ (fun t k => XS.aload X39.here hx rfl (hb hby at_248) rfl rfl k)
    have fa41 := ((fa35.ext E28).keep Kc37)
    have fa42 := ((hf27_0.ext E28).keep Kc37)
    have fa43 := ((((hf18_1.ext E19).keep Kc27 (ninS ne_b12_b19 nin0)).ext E28).keep Kc37 (ninS ne_b12_b28 nin0))
    have fa44 := ((((hf18_2.ext E19).keep Kc27 (ninS ne_b12_b19 nin0)).ext E28).keep Kc37 (ninS ne_b12_b28 nin0))
    have fa45 := ((hf27_1.ext E28).keep Kc37 (ninS ne_b19_b28 nin0))
    have fa46 := ((hf27_2.ext E28).keep Kc37 (ninS ne_b19_b28 nin0))
    have fa47 := ((fa29.ext E28).keep Kc37)
    have fa48 := ((((((((xv5.keep Kc6 nin0).keep Kc8 nin0).ext E12).keep Kc18 (ninS ne_xr5_b12 nin0)).ext E19).keep Kc27 (ninS ne_xr5_b19 nin0)).ext E28).keep Kc37 (ninS ne_xr5_b28 nin0))
    have fa49 := ((((((((xk5.keep Kc6 nin0).keep Kc8 nin0).ext E12).keep Kc18 (ninS ne_xr5_b12 nin0)).ext E19).keep Kc27 (ninS ne_xr5_b19 nin0)).ext E28).keep Kc37 (ninS ne_xr5_b28 nin0))
    have fa50 := ((fa30.ext E28).keep Kc37 (ninS ne_xb5_b28 nin0))
    have fa51 := ((fa31.ext E28).keep Kc37)
    have fa52 := (((((((xv6.keep Kc8 nin0).ext E12).keep Kc18 (ninS ne_xr6_b12 nin0)).ext E19).keep Kc27 (ninS ne_xr6_b19 nin0)).ext E28).keep Kc37 (ninS ne_xr6_b28 nin0))
    have fa53 := (((((((xk6.keep Kc8 nin0).ext E12).keep Kc18 (ninS ne_xr6_b12 nin0)).ext E19).keep Kc27 (ninS ne_xr6_b19 nin0)).ext E28).keep Kc37 (ninS ne_xr6_b28 nin0))
    have fa54 := ((fa32.ext E28).keep Kc37 (ninS ne_xb6_b28 nin0))
    have fa55 := (((((((fa11.keep Kc8 all0).ext E12).keep Kc18 (allS g_b12 all0)).ext E19).keep Kc27 (allS g_b19 all0)).ext E28).keep Kc37 (allS g_b28 all0))
    obtain ⟨cq40, kq40, q40a, q40b, q40c⟩ := isOf hZ e39 fa41
    obtain ⟨_, _, ⟨T40, L40, k40, n40⟩, -, X40, ⟨Lc40, hQ40, l40, y40, z40⟩, st40⟩ := X39.virtualBack hx (y := (⟨"com/example/mapwright/mapwright/sql/Identifier", "equals", "(Ljava/lang/Object;)Z"⟩ : MethodName)) (z := (⟨"com/example/mapwright/mapwright/sql/Identifier", "equals", "(Ljava/lang/Object;)Z"⟩ : MethodName)) hown (mvT hZ (hw _ (List.mem_of_getElem? (i := 58) rfl))) (mvT hZ (hw _ (List.mem_of_getElem? (i := 59) rfl))) (notFace_of_selects (args := #[]) (mvT hZ (hw _ (List.mem_of_getElem? (i := 61) rfl)))) (mvT hZ (hw _ (List.mem_of_getElem? (i := 61) rfl))) (mvT hZ (hw _ (List.mem_of_getElem? (i := 60) rfl))) (by decide) (backOf (W := 0) (rm11 l Z a0 hw [] b12 b19 xr5 (nar .boolean e1) xr6 (nar .boolean e2) xb5 xb6 l1 (fun j => own_b (own_y c1 c2 j)) l2 (fun j => own_b (own_y d1 d2 j)) w0 T37.heap n0 Z37 fa41 fa42 fa43 fa44 fa45 fa46 fa47 fa48 fa49 fa50 fa51 fa52 fa53 fa54 fa55 ne_xr5_xr6 (sts)) hZ (hw _ (List.mem_of_getElem? (i := 62) rfl)) (hw _ (List.mem_of_getElem? (i := 39) rfl)) (by decide) (by decide)) q40a q40c (g := (mkF m 250 #[.val (.int p1), .val (.int p2), .val (.int p3), .val (.int c1), .val (.int c2), .val (.int d1), .val (.int d2), .val (.int l1), .val (.int l2), .val (.int e1), .val (.int e2), .val (.int kd), .val (.ref xr5), .val (.ref xr6), .val (.ref xr8), .val (.ref b12), .val (.ref b19), .val (.ref b28), .val (.int sm), .val (.int ex)] [(.ref b19), (.ref b12)])) rfl (by rw [hml]; rfl) (Steps.refl _) (argsL := [(.ref b19)]) (rest := []) (lenOf pd_0_2 rfl) rfl (by show 2 * 0 + _ ≤ _; exact Nat.le_of_eq rfl) (hb hby at_250) (fun _ _ => ⟨rfl, e39, (by decide : 27 + 0 ≤ _), (by decide : 102 + 0 ≤ _)⟩)
    dsimp only [Pt.U, Pt.locs, Pt.cells, Pt.slots] at X40 l40 y40 z40 st40 hQ40
    subst l40 y40 z40
    obtain ⟨rfl, N40q, e40⟩ := hQ40
    have N40 := Fr.app N37 N40q
    refine Gen.on (b := T40.setTop (mkF m 253 #[.val (.int p1), .val (.int p2), .val (.int p3), .val (.int c1), .val (.int c2), .val (.int d1), .val (.int d2), .val (.int l1), .val (.int l2), .val (.int e1), .val (.int e2), .val (.int kd), .val (.ref xr5), .val (.ref xr6), .val (.ref xr8), .val (.ref b12), .val (.ref b19), .val (.ref b28), .val (.int sm), .val (.int ex)] [(.int (own_ideq (nar .boolean e1) (nar .boolean e2) (own_eqf l1 (fun j => own_b (own_y c1 c2 j)) l2 (fun j => own_b (own_y d1 d2 j)))))])) ?_ (fun t k => st40.trans k)
    refine Gen.on (b := T40.setTop (mkF m 255 #[.val (.int p1), .val (.int p2), .val (.int p3), .val (.int c1), .val (.int c2), .val (.int d1), .val (.int d2), .val (.int l1), .val (.int l2), .val (.int e1), .val (.int e2), .val (.int kd), .val (.ref xr5), .val (.ref xr6), .val (.ref xr8), .val (.ref b12), .val (.ref b19), .val (.ref b28), .val (.int sm), .val (.int ex)] [(.int ex), (.int (own_ideq (nar .boolean e1) (nar .boolean e2) (own_eqf l1 (fun j => own_b (own_y c1 c2 j)) l2 (fun j => own_b (own_y d1 d2 j)))))])) ?_ (fun t k => XS.iload X40.here hx rfl (hb hby at_253) rfl k)
    refine Gen.on (b := T40.setTop (mkF m 258 #[.val (.int p1), .val (.int p2), .val (.int p3), .val (.int c1), .val (.int c2), .val (.int d1), .val (.int d2), .val (.int l1), .val (.int l2), .val (.int e1), .val (.int e2), .val (.int kd), .val (.ref xr5), .val (.ref xr6), .val (.ref xr8), .val (.ref b12), .val (.ref b19), .val (.ref b28), .val (.int sm), .val (.int ex)] [])) ?_ (fun t k => XS.icmpNo X40.here hx rfl (hb hby at_255) rfl (teq (own_kind0 k_e1 k_e2 (own_eqs k_l1 k_c1 k_c2 k_d1 k_d2 h_sm ▸ h_ex))).2 k)
    refine Gen.on (b := T40.setTop (mkF m 260 #[.val (.int p1), .val (.int p2), .val (.int p3), .val (.int c1), .val (.int c2), .val (.int d1), .val (.int d2), .val (.int l1), .val (.int l2), .val (.int e1), .val (.int e2), .val (.int kd), .val (.ref xr5), .val (.ref xr6), .val (.ref xr8), .val (.ref b12), .val (.ref b19), .val (.ref b28), .val (.int sm), .val (.int ex)] [(.ref b19)])) ?_ (fun t k => XS.aload X40.here hx rfl (hb hby at_258) rfl rfl k)
    refine Gen.on (b := T40.setTop (mkF m 262 #[.val (.int p1), .val (.int p2), .val (.int p3), .val (.int c1), .val (.int c2), .val (.int d1), .val (.int d2), .val (.int l1), .val (.int l2), .val (.int e1), .val (.int e2), .val (.int kd), .val (.ref xr5), .val (.ref xr6), .val (.ref xr8), .val (.ref b12), .val (.ref b19), .val (.ref b28), .val (.int sm), .val (.int ex)] [(.ref b12), (.ref b19)])) ?_ (fun t k => XS.aload X40.here hx rfl (hb hby at_260) rfl rfl k)
    obtain ⟨cq56, kq56, q56a, q56b, q56c⟩ := isOf hZ e40 fa42
    obtain ⟨_, _, ⟨T56, L56, k56, n56⟩, -, X56, ⟨Lc56, hQ56, l56, y56, z56⟩, st56⟩ := X40.virtualBack hx (y := (⟨"com/example/mapwright/mapwright/sql/Identifier", "equals", "(Ljava/lang/Object;)Z"⟩ : MethodName)) (z := (⟨"com/example/mapwright/mapwright/sql/Identifier", "equals", "(Ljava/lang/Object;)Z"⟩ : MethodName)) hown (mvT hZ (hw _ (List.mem_of_getElem? (i := 58) rfl))) (mvT hZ (hw _ (List.mem_of_getElem? (i := 59) rfl))) (notFace_of_selects (args := #[]) (mvT hZ (hw _ (List.mem_of_getElem? (i := 61) rfl)))) (mvT hZ (hw _ (List.mem_of_getElem? (i := 61) rfl))) (mvT hZ (hw _ (List.mem_of_getElem? (i := 60) rfl))) (by decide) (backOf (W := 0) (rm11 l Z a0 hw [] b19 b12 xr6 (nar .boolean e2) xr5 (nar .boolean e1) xb6 xb5 l2 (fun j => own_b (own_y d1 d2 j)) l1 (fun j => own_b (own_y c1 c2 j)) w0 T37.heap n0 Z37 fa42 fa41 fa45 fa46 fa43 fa44 fa51 fa52 fa53 fa54 fa47 fa48 fa49 fa50 fa55 (Ne.symm ne_xr5_xr6) (sts)) hZ (hw _ (List.mem_of_getElem? (i := 62) rfl)) (hw _ (List.mem_of_getElem? (i := 39) rfl)) (by decide) (by decide)) q56a q56c (g := (mkF m 262 #[.val (.int p1), .val (.int p2), .val (.int p3), .val (.int c1), .val (.int c2), .val (.int d1), .val (.int d2), .val (.int l1), .val (.int l2), .val (.int e1), .val (.int e2), .val (.int kd), .val (.ref xr5), .val (.ref xr6), .val (.ref xr8), .val (.ref b12), .val (.ref b19), .val (.ref b28), .val (.int sm), .val (.int ex)] [(.ref b12), (.ref b19)])) rfl (by rw [hml]; rfl) (Steps.refl _) (argsL := [(.ref b12)]) (rest := []) (lenOf pd_0_2 rfl) rfl (by show 2 * 0 + _ ≤ _; exact Nat.le_of_eq rfl) (hb hby at_262) (fun _ _ => ⟨rfl, e40, (by decide : 27 + 0 ≤ _), (by decide : 102 + 0 ≤ _)⟩)
    dsimp only [Pt.U, Pt.locs, Pt.cells, Pt.slots] at X56 l56 y56 z56 st56 hQ56
    subst l56 y56 z56
    obtain ⟨rfl, N56q, e56⟩ := hQ56
    have N56 := Fr.app N40 N56q
    refine Gen.on (b := T56.setTop (mkF m 265 #[.val (.int p1), .val (.int p2), .val (.int p3), .val (.int c1), .val (.int c2), .val (.int d1), .val (.int d2), .val (.int l1), .val (.int l2), .val (.int e1), .val (.int e2), .val (.int kd), .val (.ref xr5), .val (.ref xr6), .val (.ref xr8), .val (.ref b12), .val (.ref b19), .val (.ref b28), .val (.int sm), .val (.int ex)] [(.int (own_ideq (nar .boolean e2) (nar .boolean e1) (own_eqf l2 (fun j => own_b (own_y d1 d2 j)) l1 (fun j => own_b (own_y c1 c2 j)))))])) ?_ (fun t k => st56.trans k)
    refine Gen.on (b := T56.setTop (mkF m 267 #[.val (.int p1), .val (.int p2), .val (.int p3), .val (.int c1), .val (.int c2), .val (.int d1), .val (.int d2), .val (.int l1), .val (.int l2), .val (.int e1), .val (.int e2), .val (.int kd), .val (.ref xr5), .val (.ref xr6), .val (.ref xr8), .val (.ref b12), .val (.ref b19), .val (.ref b28), .val (.int sm), .val (.int ex)] [(.int ex), (.int (own_ideq (nar .boolean e2) (nar .boolean e1) (own_eqf l2 (fun j => own_b (own_y d1 d2 j)) l1 (fun j => own_b (own_y c1 c2 j)))))])) ?_ (fun t k => XS.iload X56.here hx rfl (hb hby at_265) rfl k)
    refine Gen.on (b := T56.setTop (mkF m 270 #[.val (.int p1), .val (.int p2), .val (.int p3), .val (.int c1), .val (.int c2), .val (.int d1), .val (.int d2), .val (.int l1), .val (.int l2), .val (.int e1), .val (.int e2), .val (.int kd), .val (.ref xr5), .val (.ref xr6), .val (.ref xr8), .val (.ref b12), .val (.ref b19), .val (.ref b28), .val (.int sm), .val (.int ex)] [])) ?_ (fun t k => XS.icmpNo X56.here hx rfl (hb hby at_267) rfl (teq (own_kind0' k_e1 k_e2 (own_eqsym _ _ _ _) (own_eqs k_l1 k_c1 k_c2 k_d1 k_d2 h_sm ▸ h_ex))).2 k)
    refine Gen.on (b := T56.setTop (mkF m 271 #[.val (.int p1), .val (.int p2), .val (.int p3), .val (.int c1), .val (.int c2), .val (.int d1), .val (.int d2), .val (.int l1), .val (.int l2), .val (.int e1), .val (.int e2), .val (.int kd), .val (.ref xr5), .val (.ref xr6), .val (.ref xr8), .val (.ref b12), .val (.ref b19), .val (.ref b28), .val (.int sm), .val (.int ex)] [(.int (1 : Int32))])) ?_ (fun t k => XS.iconst X56.here hx rfl (hb hby at_270) k)
    refine Gen.on (b := T56.setTop (mkF m 275 #[.val (.int p1), .val (.int p2), .val (.int p3), .val (.int c1), .val (.int c2), .val (.int d1), .val (.int d2), .val (.int l1), .val (.int l2), .val (.int e1), .val (.int e2), .val (.int kd), .val (.ref xr5), .val (.ref xr6), .val (.ref xr8), .val (.ref b12), .val (.ref b19), .val (.ref b28), .val (.int sm), .val (.int ex)] [(.int (1 : Int32))])) ?_ (fun t k => XS.goto X56.here hx rfl (pc0 := 271) (pc' := 275) rfl (hb hby at_271) (by decide) (by decide) k)
    refine ownS_retN (t := .boolean) X56 hh hS37 e56 (Nat.le_refl T37.heap.size) hZ hEL CH37 hx Bd.returns (by simp) (by decide) (hb hby at_275) (by decide) (by decide) ?_
    exact ⟨rfl, N56⟩
  · refine Gen.on (b := T39.setTop (mkF m 276 #[.val (.int p1), .val (.int p2), .val (.int p3), .val (.int c1), .val (.int c2), .val (.int d1), .val (.int d2), .val (.int l1), .val (.int l2), .val (.int e1), .val (.int e2), .val (.int kd), .val (.ref xr5), .val (.ref xr6), .val (.ref xr8), .val (.ref b12), .val (.ref b19), .val (.ref b28), .val (.int sm), .val (.int ex)] [])) ?_ (fun t k => XS.ifYes X39.here hx rfl (pc0 := 243) (pc' := 276) rfl (hb hby at_243) rfl ((if0 _ _).trans (feq c243_14).2) (by decide) (by decide) k)
    refine Gen.on (b := T39.setTop (mkF m 278 #[.val (.int p1), .val (.int p2), .val (.int p3), .val (.int c1), .val (.int c2), .val (.int d1), .val (.int d2), .val (.int l1), .val (.int l2), .val (.int e1), .val (.int e2), .val (.int kd), .val (.ref xr5), .val (.ref xr6), .val (.ref xr8), .val (.ref b12), .val (.ref b19), .val (.ref b28), .val (.int sm), .val (.int ex)] [(.int kd)])) ?_ (fun t k => XS.iload X39.here hx rfl (hb hby at_276) rfl k)
    refine Gen.on (b := T39.setTop (mkF m 279 #[.val (.int p1), .val (.int p2), .val (.int p3), .val (.int c1), .val (.int c2), .val (.int d1), .val (.int d2), .val (.int l1), .val (.int l2), .val (.int e1), .val (.int e2), .val (.int kd), .val (.ref xr5), .val (.ref xr6), .val (.ref xr8), .val (.ref b12), .val (.ref b19), .val (.ref b28), .val (.int sm), .val (.int ex)] [(.int (1 : Int32)), (.int kd)])) ?_ (fun t k => XS.iconst X39.here hx rfl (hb hby at_278) k)
    by_cases c279_15 : kd = (1 : Int32)
    · refine Gen.on (b := T39.setTop (mkF m 282 #[.val (.int p1), .val (.int p2), .val (.int p3), .val (.int c1), .val (.int c2), .val (.int d1), .val (.int d2), .val (.int l1), .val (.int l2), .val (.int e1), .val (.int e2), .val (.int kd), .val (.ref xr5), .val (.ref xr6), .val (.ref xr8), .val (.ref b12), .val (.ref b19), .val (.ref b28), .val (.int sm), .val (.int ex)] [])) ?_ (fun t k => XS.icmpNo X39.here hx rfl (hb hby at_279) rfl (teq c279_15).2 k)
      refine Gen.on (b := T39.setTop (mkF m 284 #[.val (.int p1), .val (.int p2), .val (.int p3), .val (.int c1), .val (.int c2), .val (.int d1), .val (.int d2), .val (.int l1), .val (.int l2), .val (.int e1), .val (.int e2), .val (.int kd), .val (.ref xr5), .val (.ref xr6), .val (.ref xr8), .val (.ref b12), .val (.ref b19), .val (.ref b28), .val (.int sm), .val (.int ex)] [(.ref b12)])) ?_ (fun t k => XS.aload X39.here hx rfl (hb hby at_282) rfl rfl k)
      refine Gen.on (b := T39.setTop (mkF m 285 #[.val (.int p1), .val (.int p2), .val (.int p3), .val (.int c1), .val (.int c2), .val (.int d1), .val (.int d2), .val (.int l1), .val (.int l2), .val (.int e1), .val (.int e2), .val (.int kd), .val (.ref xr5), .val (.ref xr6), .val (.ref xr8), .val (.ref b12), .val (.ref b19), .val (.ref b28), .val (.int sm), .val (.int ex)] [.null, (.ref b12)])) ?_ (fun t k => XS.aconstNull X39.here hx rfl (hb hby at_284) k)
      have fa58 := ((fa35.ext E28).keep Kc37)
      obtain ⟨cq57, kq57, q57a, q57b, q57c⟩ := isOf hZ e39 fa58
      obtain ⟨_, _, ⟨T57, L57, k57, n57⟩, -, X57, ⟨Lc57, hQ57, l57, y57, z57⟩, st57⟩ := X39.virtualBack hx (y := (⟨"com/example/mapwright/mapwright/sql/Identifier", "equals", "(Ljava/lang/Object;)Z"⟩ : MethodName)) (z := (⟨"com/example/mapwright/mapwright/sql/Identifier", "equals", "(Ljava/lang/Object;)Z"⟩ : MethodName)) hown (mvT hZ (hw _ (List.mem_of_getElem? (i := 58) rfl))) (mvT hZ (hw _ (List.mem_of_getElem? (i := 59) rfl))) (notFace_of_selects (args := #[]) (mvT hZ (hw _ (List.mem_of_getElem? (i := 61) rfl)))) (mvT hZ (hw _ (List.mem_of_getElem? (i := 61) rfl))) (mvT hZ (hw _ (List.mem_of_getElem? (i := 60) rfl))) (by decide) (backOf (W := 0) (rm11n l Z a0 hw [] b12  T37.heap n0 Z37 fa58) hZ (hw _ (List.mem_of_getElem? (i := 62) rfl)) (hw _ (List.mem_of_getElem? (i := 39) rfl)) (by decide) (by decide)) q57a q57c (g := (mkF m 285 #[.val (.int p1), .val (.int p2), .val (.int p3), .val (.int c1), .val (.int c2), .val (.int d1), .val (.int d2), .val (.int l1), .val (.int l2), .val (.int e1), .val (.int e2), .val (.int kd), .val (.ref xr5), .val (.ref xr6), .val (.ref xr8), .val (.ref b12), .val (.ref b19), .val (.ref b28), .val (.int sm), .val (.int ex)] [.null, (.ref b12)])) rfl (by rw [hml]; rfl) (Steps.refl _) (argsL := [.null]) (rest := []) (lenOf pd_0_2 rfl) rfl (by show 2 * 0 + _ ≤ _; exact Nat.le_of_eq rfl) (hb hby at_285) (fun _ _ => ⟨rfl, e39, (by decide : 27 + 0 ≤ _), (by decide : 102 + 0 ≤ _)⟩)
      dsimp only [Pt.U, Pt.locs, Pt.cells, Pt.slots] at X57 l57 y57 z57 st57 hQ57
      subst l57 y57 z57
      obtain ⟨rfl, N57q, e57⟩ := hQ57
      have N57 := Fr.app N37 N57q
      refine Gen.on (b := T57.setTop (mkF m 288 #[.val (.int p1), .val (.int p2), .val (.int p3), .val (.int c1), .val (.int c2), .val (.int d1), .val (.int d2), .val (.int l1), .val (.int l2), .val (.int e1), .val (.int e2), .val (.int kd), .val (.ref xr5), .val (.ref xr6), .val (.ref xr8), .val (.ref b12), .val (.ref b19), .val (.ref b28), .val (.int sm), .val (.int ex)] [(.int (0 : Int32))])) ?_ (fun t k => st57.trans k)
      refine Gen.on (b := T57.setTop (mkF m 291 #[.val (.int p1), .val (.int p2), .val (.int p3), .val (.int c1), .val (.int c2), .val (.int d1), .val (.int d2), .val (.int l1), .val (.int l2), .val (.int e1), .val (.int e2), .val (.int kd), .val (.ref xr5), .val (.ref xr6), .val (.ref xr8), .val (.ref b12), .val (.ref b19), .val (.ref b28), .val (.int sm), .val (.int ex)] [])) ?_ (fun t k => XS.ifNo X57.here hx rfl (hb hby at_288) rfl ((if0 _ _).trans (teq (by decide : (0 : Int32) = (0 : Int32))).2) k)
      refine Gen.on (b := T57.setTop (mkF m 292 #[.val (.int p1), .val (.int p2), .val (.int p3), .val (.int c1), .val (.int c2), .val (.int d1), .val (.int d2), .val (.int l1), .val (.int l2), .val (.int e1), .val (.int e2), .val (.int kd), .val (.ref xr5), .val (.ref xr6), .val (.ref xr8), .val (.ref b12), .val (.ref b19), .val (.ref b28), .val (.int sm), .val (.int ex)] [(.int (1 : Int32))])) ?_ (fun t k => XS.iconst X57.here hx rfl (hb hby at_291) k)
      refine Gen.on (b := T57.setTop (mkF m 296 #[.val (.int p1), .val (.int p2), .val (.int p3), .val (.int c1), .val (.int c2), .val (.int d1), .val (.int d2), .val (.int l1), .val (.int l2), .val (.int e1), .val (.int e2), .val (.int kd), .val (.ref xr5), .val (.ref xr6), .val (.ref xr8), .val (.ref b12), .val (.ref b19), .val (.ref b28), .val (.int sm), .val (.int ex)] [(.int (1 : Int32))])) ?_ (fun t k => XS.goto X57.here hx rfl (pc0 := 292) (pc' := 296) rfl (hb hby at_292) (by decide) (by decide) k)
      refine ownS_retN (t := .boolean) X57 hh hS37 e57 (Nat.le_refl T37.heap.size) hZ hEL CH37 hx Bd.returns (by simp) (by decide) (hb hby at_296) (by decide) (by decide) ?_
      exact ⟨rfl, N57⟩
    · refine Gen.on (b := T39.setTop (mkF m 297 #[.val (.int p1), .val (.int p2), .val (.int p3), .val (.int c1), .val (.int c2), .val (.int d1), .val (.int d2), .val (.int l1), .val (.int l2), .val (.int e1), .val (.int e2), .val (.int kd), .val (.ref xr5), .val (.ref xr6), .val (.ref xr8), .val (.ref b12), .val (.ref b19), .val (.ref b28), .val (.int sm), .val (.int ex)] [])) ?_ (fun t k => XS.icmpYes X39.here hx rfl (pc0 := 279) (pc' := 297) rfl (hb hby at_279) rfl (feq c279_15).2 (by decide) (by decide) k)
      refine Gen.on (b := T39.setTop (mkF m 299 #[.val (.int p1), .val (.int p2), .val (.int p3), .val (.int c1), .val (.int c2), .val (.int d1), .val (.int d2), .val (.int l1), .val (.int l2), .val (.int e1), .val (.int e2), .val (.int kd), .val (.ref xr5), .val (.ref xr6), .val (.ref xr8), .val (.ref b12), .val (.ref b19), .val (.ref b28), .val (.int sm), .val (.int ex)] [(.int kd)])) ?_ (fun t k => XS.iload X39.here hx rfl (hb hby at_297) rfl k)
      refine Gen.on (b := T39.setTop (mkF m 300 #[.val (.int p1), .val (.int p2), .val (.int p3), .val (.int c1), .val (.int c2), .val (.int d1), .val (.int d2), .val (.int l1), .val (.int l2), .val (.int e1), .val (.int e2), .val (.int kd), .val (.ref xr5), .val (.ref xr6), .val (.ref xr8), .val (.ref b12), .val (.ref b19), .val (.ref b28), .val (.int sm), .val (.int ex)] [(.int (2 : Int32)), (.int kd)])) ?_ (fun t k => XS.iconst X39.here hx rfl (hb hby at_299) k)
      by_cases c300_16 : kd = (2 : Int32)
      · refine Gen.on (b := T39.setTop (mkF m 303 #[.val (.int p1), .val (.int p2), .val (.int p3), .val (.int c1), .val (.int c2), .val (.int d1), .val (.int d2), .val (.int l1), .val (.int l2), .val (.int e1), .val (.int e2), .val (.int kd), .val (.ref xr5), .val (.ref xr6), .val (.ref xr8), .val (.ref b12), .val (.ref b19), .val (.ref b28), .val (.int sm), .val (.int ex)] [])) ?_ (fun t k => XS.icmpNo X39.here hx rfl (hb hby at_300) rfl (teq c300_16).2 k)
        refine Gen.on (b := T39.setTop (mkF m 305 #[.val (.int p1), .val (.int p2), .val (.int p3), .val (.int c1), .val (.int c2), .val (.int d1), .val (.int d2), .val (.int l1), .val (.int l2), .val (.int e1), .val (.int e2), .val (.int kd), .val (.ref xr5), .val (.ref xr6), .val (.ref xr8), .val (.ref b12), .val (.ref b19), .val (.ref b28), .val (.int sm), .val (.int ex)] [(.ref b12)])) ?_ (fun t k => XS.aload X39.here hx rfl (hb hby at_303) rfl rfl k)
        refine Gen.on (b := T39.setTop (mkF m 307 #[.val (.int p1), .val (.int p2), .val (.int p3), .val (.int c1), .val (.int c2), .val (.int d1), .val (.int d2), .val (.int l1), .val (.int l2), .val (.int e1), .val (.int e2), .val (.int kd), .val (.ref xr5), .val (.ref xr6), .val (.ref xr8), .val (.ref b12), .val (.ref b19), .val (.ref b28), .val (.int sm), .val (.int ex)] [(.ref xr5), (.ref b12)])) ?_ (fun t k => XS.aload X39.here hx rfl (hb hby at_305) rfl rfl k)
        have fa60 := ((fa35.ext E28).keep Kc37)
        have fa61 := ((fa29.ext E28).keep Kc37)
        obtain ⟨cq59, kq59, q59a, q59b, q59c⟩ := isOf hZ e39 fa60
        obtain ⟨_, _, ⟨T59, L59, k59, n59⟩, -, X59, ⟨Lc59, hQ59, l59, y59, z59⟩, st59⟩ := X39.virtualBack hx (y := (⟨"com/example/mapwright/mapwright/sql/Identifier", "equals", "(Ljava/lang/Object;)Z"⟩ : MethodName)) (z := (⟨"com/example/mapwright/mapwright/sql/Identifier", "equals", "(Ljava/lang/Object;)Z"⟩ : MethodName)) hown (mvT hZ (hw _ (List.mem_of_getElem? (i := 58) rfl))) (mvT hZ (hw _ (List.mem_of_getElem? (i := 59) rfl))) (notFace_of_selects (args := #[]) (mvT hZ (hw _ (List.mem_of_getElem? (i := 61) rfl)))) (mvT hZ (hw _ (List.mem_of_getElem? (i := 61) rfl))) (mvT hZ (hw _ (List.mem_of_getElem? (i := 60) rfl))) (by decide) (backOf (W := 0) (rm11s l Z a0 hw [] b12 xr5  T37.heap n0 Z37 fa60 fa61) hZ (hw _ (List.mem_of_getElem? (i := 62) rfl)) (hw _ (List.mem_of_getElem? (i := 39) rfl)) (by decide) (by decide)) q59a q59c (g := (mkF m 307 #[.val (.int p1), .val (.int p2), .val (.int p3), .val (.int c1), .val (.int c2), .val (.int d1), .val (.int d2), .val (.int l1), .val (.int l2), .val (.int e1), .val (.int e2), .val (.int kd), .val (.ref xr5), .val (.ref xr6), .val (.ref xr8), .val (.ref b12), .val (.ref b19), .val (.ref b28), .val (.int sm), .val (.int ex)] [(.ref xr5), (.ref b12)])) rfl (by rw [hml]; rfl) (Steps.refl _) (argsL := [(.ref xr5)]) (rest := []) (lenOf pd_0_2 rfl) rfl (by show 2 * 0 + _ ≤ _; exact Nat.le_of_eq rfl) (hb hby at_307) (fun _ _ => ⟨rfl, e39, (by decide : 27 + 0 ≤ _), (by decide : 102 + 0 ≤ _)⟩)
        dsimp only [Pt.U, Pt.locs, Pt.cells, Pt.slots] at X59 l59 y59 z59 st59 hQ59
        subst l59 y59 z59
        obtain ⟨rfl, N59q, e59⟩ := hQ59
        have N59 := Fr.app N37 N59q
        refine Gen.on (b := T59.setTop (mkF m 310 #[.val (.int p1), .val (.int p2), .val (.int p3), .val (.int c1), .val (.int c2), .val (.int d1), .val (.int d2), .val (.int l1), .val (.int l2), .val (.int e1), .val (.int e2), .val (.int kd), .val (.ref xr5), .val (.ref xr6), .val (.ref xr8), .val (.ref b12), .val (.ref b19), .val (.ref b28), .val (.int sm), .val (.int ex)] [(.int (0 : Int32))])) ?_ (fun t k => st59.trans k)
        refine Gen.on (b := T59.setTop (mkF m 313 #[.val (.int p1), .val (.int p2), .val (.int p3), .val (.int c1), .val (.int c2), .val (.int d1), .val (.int d2), .val (.int l1), .val (.int l2), .val (.int e1), .val (.int e2), .val (.int kd), .val (.ref xr5), .val (.ref xr6), .val (.ref xr8), .val (.ref b12), .val (.ref b19), .val (.ref b28), .val (.int sm), .val (.int ex)] [])) ?_ (fun t k => XS.ifNo X59.here hx rfl (hb hby at_310) rfl ((if0 _ _).trans (teq (by decide : (0 : Int32) = (0 : Int32))).2) k)
        refine Gen.on (b := T59.setTop (mkF m 314 #[.val (.int p1), .val (.int p2), .val (.int p3), .val (.int c1), .val (.int c2), .val (.int d1), .val (.int d2), .val (.int l1), .val (.int l2), .val (.int e1), .val (.int e2), .val (.int kd), .val (.ref xr5), .val (.ref xr6), .val (.ref xr8), .val (.ref b12), .val (.ref b19), .val (.ref b28), .val (.int sm), .val (.int ex)] [(.int (1 : Int32))])) ?_ (fun t k => XS.iconst X59.here hx rfl (hb hby at_313) k)
        refine Gen.on (b := T59.setTop (mkF m 318 #[.val (.int p1), .val (.int p2), .val (.int p3), .val (.int c1), .val (.int c2), .val (.int d1), .val (.int d2), .val (.int l1), .val (.int l2), .val (.int e1), .val (.int e2), .val (.int kd), .val (.ref xr5), .val (.ref xr6), .val (.ref xr8), .val (.ref b12), .val (.ref b19), .val (.ref b28), .val (.int sm), .val (.int ex)] [(.int (1 : Int32))])) ?_ (fun t k => XS.goto X59.here hx rfl (pc0 := 314) (pc' := 318) rfl (hb hby at_314) (by decide) (by decide) k)
        refine ownS_retN (t := .boolean) X59 hh hS37 e59 (Nat.le_refl T37.heap.size) hZ hEL CH37 hx Bd.returns (by simp) (by decide) (hb hby at_318) (by decide) (by decide) ?_
        exact ⟨rfl, N59⟩
      · refine Gen.on (b := T39.setTop (mkF m 319 #[.val (.int p1), .val (.int p2), .val (.int p3), .val (.int c1), .val (.int c2), .val (.int d1), .val (.int d2), .val (.int l1), .val (.int l2), .val (.int e1), .val (.int e2), .val (.int kd), .val (.ref xr5), .val (.ref xr6), .val (.ref xr8), .val (.ref b12), .val (.ref b19), .val (.ref b28), .val (.int sm), .val (.int ex)] [])) ?_ (fun t k => XS.icmpYes X39.here hx rfl (pc0 := 300) (pc' := 319) rfl (hb hby at_300) rfl (feq c300_16).2 (by decide) (by decide) k)
        refine Gen.on (b := T39.setTop (mkF m 321 #[.val (.int p1), .val (.int p2), .val (.int p3), .val (.int c1), .val (.int c2), .val (.int d1), .val (.int d2), .val (.int l1), .val (.int l2), .val (.int e1), .val (.int e2), .val (.int kd), .val (.ref xr5), .val (.ref xr6), .val (.ref xr8), .val (.ref b12), .val (.ref b19), .val (.ref b28), .val (.int sm), .val (.int ex)] [(.ref b12)])) ?_ (fun t k => XS.aload X39.here hx rfl (hb hby at_319) rfl rfl k)
        refine Gen.on (b := T39.setTop (mkF m 323 #[.val (.int p1), .val (.int p2), .val (.int p3), .val (.int c1), .val (.int c2), .val (.int d1), .val (.int d2), .val (.int l1), .val (.int l2), .val (.int e1), .val (.int e2), .val (.int kd), .val (.ref xr5), .val (.ref xr6), .val (.ref xr8), .val (.ref b12), .val (.ref b19), .val (.ref b28), .val (.int sm), .val (.int ex)] [(.ref b28), (.ref b12)])) ?_ (fun t k => XS.aload X39.here hx rfl (hb hby at_321) rfl rfl k)
        have fa63 := ((fa35.ext E28).keep Kc37)
        have fa64 := ((((hf18_1.ext E19).keep Kc27 (ninS ne_b12_b19 nin0)).ext E28).keep Kc37 (ninS ne_b12_b28 nin0))
        have fa65 := ((((hf18_2.ext E19).keep Kc27 (ninS ne_b12_b19 nin0)).ext E28).keep Kc37 (ninS ne_b12_b28 nin0))
        have fa66 := ((fa29.ext E28).keep Kc37)
        have fa67 := ((((((((xv5.keep Kc6 nin0).keep Kc8 nin0).ext E12).keep Kc18 (ninS ne_xr5_b12 nin0)).ext E19).keep Kc27 (ninS ne_xr5_b19 nin0)).ext E28).keep Kc37 (ninS ne_xr5_b28 nin0))
        have fa68 := ((((((((xk5.keep Kc6 nin0).keep Kc8 nin0).ext E12).keep Kc18 (ninS ne_xr5_b12 nin0)).ext E19).keep Kc27 (ninS ne_xr5_b19 nin0)).ext E28).keep Kc37 (ninS ne_xr5_b28 nin0))
        have fa69 := ((fa30.ext E28).keep Kc37 (ninS ne_xb5_b28 nin0))
        have fa70 := ((fa33.ext E28).keep Kc37)
        have fa71 := ((((((xv8.ext E12).keep Kc18 (ninS ne_xr8_b12 nin0)).ext E19).keep Kc27 (ninS ne_xr8_b19 nin0)).ext E28).keep Kc37 (ninS ne_xr8_b28 nin0))
        have fa72 := ((((((xk8.ext E12).keep Kc18 (ninS ne_xr8_b12 nin0)).ext E19).keep Kc27 (ninS ne_xr8_b19 nin0)).ext E28).keep Kc37 (ninS ne_xr8_b28 nin0))
        have fa73 := ((fa34.ext E28).keep Kc37 (ninS ne_xb8_b28 nin0))
        have fa74 := (((((((fa11.keep Kc8 all0).ext E12).keep Kc18 (allS g_b12 all0)).ext E19).keep Kc27 (allS g_b19 all0)).ext E28).keep Kc37 (allS g_b28 all0))
        obtain ⟨cq62, kq62, q62a, q62b, q62c⟩ := isOf hZ e39 fa63
        obtain ⟨_, _, ⟨T62, L62, k62, n62⟩, -, X62, ⟨Lc62, hQ62, l62, y62, z62⟩, st62⟩ := X39.virtualBack hx (y := (⟨"com/example/mapwright/mapwright/sql/Identifier", "equals", "(Ljava/lang/Object;)Z"⟩ : MethodName)) (z := (⟨"com/example/mapwright/mapwright/sql/Identifier", "equals", "(Ljava/lang/Object;)Z"⟩ : MethodName)) hown (mvT hZ (hw _ (List.mem_of_getElem? (i := 58) rfl))) (mvT hZ (hw _ (List.mem_of_getElem? (i := 59) rfl))) (notFace_of_selects (args := #[]) (mvT hZ (hw _ (List.mem_of_getElem? (i := 61) rfl)))) (mvT hZ (hw _ (List.mem_of_getElem? (i := 61) rfl))) (mvT hZ (hw _ (List.mem_of_getElem? (i := 60) rfl))) (by decide) (backOf (W := 0) (rm11 l Z a0 hw [] b12 b28 xr5 (nar .boolean e1) xr8 (nar .boolean e1) xb5 xb8 l1 (fun j => own_b (own_y c1 c2 j)) l1 (fun j => own_b (own_y c1 c2 j)) w0 T37.heap n0 Z37 fa63 hf37_0 fa64 fa65 hf37_1 hf37_2 fa66 fa67 fa68 fa69 fa70 fa71 fa72 fa73 fa74 ne_xr5_xr8 (sts)) hZ (hw _ (List.mem_of_getElem? (i := 62) rfl)) (hw _ (List.mem_of_getElem? (i := 39) rfl)) (by decide) (by decide)) q62a q62c (g := (mkF m 323 #[.val (.int p1), .val (.int p2), .val (.int p3), .val (.int c1), .val (.int c2), .val (.int d1), .val (.int d2), .val (.int l1), .val (.int l2), .val (.int e1), .val (.int e2), .val (.int kd), .val (.ref xr5), .val (.ref xr6), .val (.ref xr8), .val (.ref b12), .val (.ref b19), .val (.ref b28), .val (.int sm), .val (.int ex)] [(.ref b28), (.ref b12)])) rfl (by rw [hml]; rfl) (Steps.refl _) (argsL := [(.ref b28)]) (rest := []) (lenOf pd_0_2 rfl) rfl (by show 2 * 0 + _ ≤ _; exact Nat.le_of_eq rfl) (hb hby at_323) (fun _ _ => ⟨rfl, e39, (by decide : 27 + 0 ≤ _), (by decide : 102 + 0 ≤ _)⟩)
        dsimp only [Pt.U, Pt.locs, Pt.cells, Pt.slots] at X62 l62 y62 z62 st62 hQ62
        subst l62 y62 z62
        obtain ⟨rfl, N62q, e62⟩ := hQ62
        have N62 := Fr.app N37 N62q
        refine Gen.on (b := T62.setTop (mkF m 326 #[.val (.int p1), .val (.int p2), .val (.int p3), .val (.int c1), .val (.int c2), .val (.int d1), .val (.int d2), .val (.int l1), .val (.int l2), .val (.int e1), .val (.int e2), .val (.int kd), .val (.ref xr5), .val (.ref xr6), .val (.ref xr8), .val (.ref b12), .val (.ref b19), .val (.ref b28), .val (.int sm), .val (.int ex)] [(.int (own_ideq (nar .boolean e1) (nar .boolean e1) (own_eqf l1 (fun j => own_b (own_y c1 c2 j)) l1 (fun j => own_b (own_y c1 c2 j)))))])) ?_ (fun t k => st62.trans k)
        refine Gen.on (b := T62.setTop (mkF m 329 #[.val (.int p1), .val (.int p2), .val (.int p3), .val (.int c1), .val (.int c2), .val (.int d1), .val (.int d2), .val (.int l1), .val (.int l2), .val (.int e1), .val (.int e2), .val (.int kd), .val (.ref xr5), .val (.ref xr6), .val (.ref xr8), .val (.ref b12), .val (.ref b19), .val (.ref b28), .val (.int sm), .val (.int ex)] [])) ?_ (fun t k => XS.ifNo X62.here hx rfl (hb hby at_326) rfl ((if0 _ _).trans (feq (own_kind3 _ _ _)).1) k)
        refine Gen.on (b := T62.setTop (mkF m 331 #[.val (.int p1), .val (.int p2), .val (.int p3), .val (.int c1), .val (.int c2), .val (.int d1), .val (.int d2), .val (.int l1), .val (.int l2), .val (.int e1), .val (.int e2), .val (.int kd), .val (.ref xr5), .val (.ref xr6), .val (.ref xr8), .val (.ref b12), .val (.ref b19), .val (.ref b28), .val (.int sm), .val (.int ex)] [(.ref b28)])) ?_ (fun t k => XS.aload X62.here hx rfl (hb hby at_329) rfl rfl k)
        refine Gen.on (b := T62.setTop (mkF m 333 #[.val (.int p1), .val (.int p2), .val (.int p3), .val (.int c1), .val (.int c2), .val (.int d1), .val (.int d2), .val (.int l1), .val (.int l2), .val (.int e1), .val (.int e2), .val (.int kd), .val (.ref xr5), .val (.ref xr6), .val (.ref xr8), .val (.ref b12), .val (.ref b19), .val (.ref b28), .val (.int sm), .val (.int ex)] [(.ref b12), (.ref b28)])) ?_ (fun t k => XS.aload X62.here hx rfl (hb hby at_331) rfl rfl k)
        obtain ⟨cq75, kq75, q75a, q75b, q75c⟩ := isOf hZ e62 hf37_0
        obtain ⟨_, _, ⟨T75, L75, k75, n75⟩, -, X75, ⟨Lc75, hQ75, l75, y75, z75⟩, st75⟩ := X62.virtualBack hx (y := (⟨"com/example/mapwright/mapwright/sql/Identifier", "equals", "(Ljava/lang/Object;)Z"⟩ : MethodName)) (z := (⟨"com/example/mapwright/mapwright/sql/Identifier", "equals", "(Ljava/lang/Object;)Z"⟩ : MethodName)) hown (mvT hZ (hw _ (List.mem_of_getElem? (i := 58) rfl))) (mvT hZ (hw _ (List.mem_of_getElem? (i := 59) rfl))) (notFace_of_selects (args := #[]) (mvT hZ (hw _ (List.mem_of_getElem? (i := 61) rfl)))) (mvT hZ (hw _ (List.mem_of_getElem? (i := 61) rfl))) (mvT hZ (hw _ (List.mem_of_getElem? (i := 60) rfl))) (by decide) (backOf (W := 0) (rm11 l Z a0 hw [] b28 b12 xr8 (nar .boolean e1) xr5 (nar .boolean e1) xb8 xb5 l1 (fun j => own_b (own_y c1 c2 j)) l1 (fun j => own_b (own_y c1 c2 j)) w0 T37.heap n0 Z37 hf37_0 fa63 hf37_1 hf37_2 fa64 fa65 fa70 fa71 fa72 fa73 fa66 fa67 fa68 fa69 fa74 (Ne.symm ne_xr5_xr8) (sts)) hZ (hw _ (List.mem_of_getElem? (i := 62) rfl)) (hw _ (List.mem_of_getElem? (i := 39) rfl)) (by decide) (by decide)) q75a q75c (g := (mkF m 333 #[.val (.int p1), .val (.int p2), .val (.int p3), .val (.int c1), .val (.int c2), .val (.int d1), .val (.int d2), .val (.int l1), .val (.int l2), .val (.int e1), .val (.int e2), .val (.int kd), .val (.ref xr5), .val (.ref xr6), .val (.ref xr8), .val (.ref b12), .val (.ref b19), .val (.ref b28), .val (.int sm), .val (.int ex)] [(.ref b12), (.ref b28)])) rfl (by rw [hml]; rfl) (Steps.refl _) (argsL := [(.ref b12)]) (rest := []) (lenOf pd_0_2 rfl) rfl (by show 2 * 0 + _ ≤ _; exact Nat.le_of_eq rfl) (hb hby at_333) (fun _ _ => ⟨rfl, e62, (by decide : 27 + 0 ≤ _), (by decide : 102 + 0 ≤ _)⟩)
        dsimp only [Pt.U, Pt.locs, Pt.cells, Pt.slots] at X75 l75 y75 z75 st75 hQ75
        subst l75 y75 z75
        obtain ⟨rfl, N75q, e75⟩ := hQ75
        have N75 := Fr.app N62 N75q
        refine Gen.on (b := T75.setTop (mkF m 336 #[.val (.int p1), .val (.int p2), .val (.int p3), .val (.int c1), .val (.int c2), .val (.int d1), .val (.int d2), .val (.int l1), .val (.int l2), .val (.int e1), .val (.int e2), .val (.int kd), .val (.ref xr5), .val (.ref xr6), .val (.ref xr8), .val (.ref b12), .val (.ref b19), .val (.ref b28), .val (.int sm), .val (.int ex)] [(.int (own_ideq (nar .boolean e1) (nar .boolean e1) (own_eqf l1 (fun j => own_b (own_y c1 c2 j)) l1 (fun j => own_b (own_y c1 c2 j)))))])) ?_ (fun t k => st75.trans k)
        refine Gen.on (b := T75.setTop (mkF m 339 #[.val (.int p1), .val (.int p2), .val (.int p3), .val (.int c1), .val (.int c2), .val (.int d1), .val (.int d2), .val (.int l1), .val (.int l2), .val (.int e1), .val (.int e2), .val (.int kd), .val (.ref xr5), .val (.ref xr6), .val (.ref xr8), .val (.ref b12), .val (.ref b19), .val (.ref b28), .val (.int sm), .val (.int ex)] [])) ?_ (fun t k => XS.ifNo X75.here hx rfl (hb hby at_336) rfl ((if0 _ _).trans (feq (own_kind3 _ _ _)).1) k)
        refine Gen.on (b := T75.setTop (mkF m 340 #[.val (.int p1), .val (.int p2), .val (.int p3), .val (.int c1), .val (.int c2), .val (.int d1), .val (.int d2), .val (.int l1), .val (.int l2), .val (.int e1), .val (.int e2), .val (.int kd), .val (.ref xr5), .val (.ref xr6), .val (.ref xr8), .val (.ref b12), .val (.ref b19), .val (.ref b28), .val (.int sm), .val (.int ex)] [(.int (1 : Int32))])) ?_ (fun t k => XS.iconst X75.here hx rfl (hb hby at_339) k)
        refine Gen.on (b := T75.setTop (mkF m 344 #[.val (.int p1), .val (.int p2), .val (.int p3), .val (.int c1), .val (.int c2), .val (.int d1), .val (.int d2), .val (.int l1), .val (.int l2), .val (.int e1), .val (.int e2), .val (.int kd), .val (.ref xr5), .val (.ref xr6), .val (.ref xr8), .val (.ref b12), .val (.ref b19), .val (.ref b28), .val (.int sm), .val (.int ex)] [(.int (1 : Int32))])) ?_ (fun t k => XS.goto X75.here hx rfl (pc0 := 340) (pc' := 344) rfl (hb hby at_340) (by decide) (by decide) k)
        refine ownS_retN (t := .boolean) X75 hh hS37 e75 (Nat.le_refl T37.heap.size) hZ hEL CH37 hx Bd.returns (by simp) (by decide) (hb hby at_344) (by decide) (by decide) ?_
        exact ⟨rfl, N75⟩
set_option maxRecDepth 65536 in
set_option maxHeartbeats 40000000 in
theorem comes_1 {Post : Tables → Env → Array Value → State → Outcome → State → Prop} (hpost : ∀ tb e args s v u, (limb_1_1.after args s (.returned v) u = true ∧ limb_1_2.after args s (.returned v) u = true ∧ True) → Jvm.D.FramedW s (.returned v) u (Jvm.fieldLocs frame_1_writes args s ++ Jvm.arrayLocs frame_1_arrays args s ++ Jvm.staticLocs frame_1_statics s) 40 2240 → Post tb e args s (.returned v) u) :
    ArmFor flags0 classFile x code maxLocals ret World_1 tables_1 room_1 Calls_1 rest_1 Pre_1 Post := by
  intro l hfl _ _ p e ha hc hk s m args below hf hA hF happ hP
  obtain ⟨hcalls, hrest, hpre⟩ := hP
  obtain ⟨-, -, -, hnamed, -, -, -, hat⟩ := (Spec.applies_iff hf).mp happ
  obtain ⟨hg, hn⟩ := and_e (Cond.before_iff.mp (show (Jvm.Cond.and given_1 narrow_1).before args s = true from hpre))
  obtain ⟨hcount, hr1⟩ := and_e hg
  obtain ⟨ha0, hr2⟩ := and_e hr1
  obtain ⟨ha1, hr3⟩ := and_e hr2
  obtain ⟨w0, w1, w2, rfl⟩ : ∃ w0 w1 w2 : Value, args = #[w0, w1, w2] := by
    have hs : args.size = 3 := by simpa [Cond.value, given_1] using hcount
    obtain ⟨L⟩ := args
    match L, hs with
    | [w0, w1, w2], _ => exact ⟨w0, w1, w2, rfl⟩
  have hw := fun d (hd : d ∈ tables_1) => atoms_spec (ws := Jvm.Cond.code x code maxLocals ret :: tables_1) hat d (List.mem_cons_of_mem _ hd)
  have hfit : Fit s := fun {y c} hc i hi => by
    obtain ⟨ha, rfl⟩ := Array.getElem?_eq_some_iff.mp hc
    have q := List.all_eq_true.mp ((Array.all_eq_true_iff_forall_mem.mp hF) _ (Array.getElem_mem ha)) i (List.mem_range.mpr hi)
    simpa [Array.getElem?_eq_getElem hi] using q
  obtain ⟨i0, ei0⟩ := is_v ha0
  obtain rfl : w0 = (.int i0) := Option.some.inj ei0
  obtain ⟨i1, ei1⟩ := is_v ha1
  obtain rfl : w1 = (.int i1) := Option.some.inj ei1
  obtain ⟨i2, ei2⟩ := is_v hr3
  obtain rfl : w2 = (.int i2) := Option.some.inj ei2
  obtain ⟨hsets, hown0⟩ := atoms_of _ (rest_1_c_eq ▸ (show rest_1_c.before _ s = true from hrest))
  obtain ⟨w0, ew0⟩ := is_v (Cond.before_iff.mp (hsets _ (List.mem_of_getElem? (i := 1) rfl)))
  have S_C := Sta.start ew0 (Or.inl (hsets _ (List.mem_of_getElem? (i := 0) rfl)))
  have hw0 : ¬ w0 = (0 : Int32) := by
    intro q
    have q1 := not_v (Cond.before_iff.mp (hsets _ (List.mem_of_getElem? (i := 2) rfl)))
    have q2 := eq_i ew0 (Term.int_eval (0 : Int32)) (congrArg Value.int q)
    rw [q2] at q1
    exact absurd q1 (by decide)
  have CHs : CHv s consts_1 s.vm s.heap := CHv.start (own_hEL hw) (fun p hp => (show call_1_1 _ _ _ s ∧ True from hcalls).1 p hp) (hsets _ (List.mem_of_getElem? (i := 2) rfl)) (hw _ (List.mem_of_getElem? (i := 23) rfl)) (hw _ (List.mem_of_getElem? (i := 5) rfl))
  obtain ⟨n, o, h1, h2, h3, _, L, rfl, ⟨rfl, N⟩, -, hq⟩ := rm0 l s _ hw tables_1 i0 i1 i2 w0 s.heap s.heap.size (Nat.le_refl _) (Old.start s) ⟨S_C, hw0⟩ p e ha hc hk s m _ below hf ((Spec.applies_iff_loose hf).mp happ).1 ⟨rfl, State.Warmed39.refl s, rfl, CHs⟩ trivial
  refine ⟨n, _, h1, h2, h3, hpost _ _ _ _ _ _ ⟨Cond.after_iff.mpr rfl, Cond.after_iff.mpr (eq_i res_at (Term.int_eval (1)) rfl), trivial⟩ ⟨hq.1, hq.2.1, hq.2.2.1, (hq.2.2.2.sift fun y hy => Or.inr (N y hy)).mono (by decide) (by decide)⟩⟩
theorem main_1_1 : Claimed_1_1 := comes_1 fun _ _ _ _ _ _ h hF => ⟨h.1, hF⟩
theorem main_1_2 : Claimed_1_2 := comes_1 fun _ _ _ _ _ _ h hF => ⟨h.2.1, hF⟩
end Jvm.Pilot.@@N@@
namespace Jvm.Pilot.@@N@@
open Jvm Jvm.ClassFile Sem Op Lib Jvm.Free Jvm.Stand Jvm.Pilot.@@N@@.Jvm.D
/-! MADE BY PROGRAM (witnessworld.py) out of the Statement's table words and the real class files: 22 classes; the members and pool entries that the words name. The judged class is class 1, her method 2. -/
namespace start1
open Jvm.ClassFile
def u (s : String) : CpInfo := .utf8 (stringToUtf16 s)
/-- a pool by its gaps: so many unusable entries, then the entry; so many at the end -/
def gap : Nat → List CpInfo → List CpInfo
  | 0, r => r
  | n + 1, r => .unusable :: gap n r
def poolList (es : List (Nat × CpInfo)) (last : Nat) : List CpInfo := es.foldr (fun e r => gap e.1 (e.2 :: r)) (gap last [])
def pool (es : List (Nat × CpInfo)) (last : Nat) : Array CpInfo := ⟨poolList es last⟩
def fileOf (pool : Array CpInfo) (this : Nat) (attrs : Array Attribute := #[]) (ms : Array MethodInfo := #[]) (fl : Nat := 33) (sup : Nat := 0) (ifs : Array Nat := #[]) (fds : Array FieldInfo := #[]) : ClassFile where
  minorVersion := 0
  majorVersion := 65
  constantPool := pool
  accessFlags := fl
  thisClass := this
  superClass := sup
  interfaces := ifs
  fields := fds
  methods := ms
  attributes := attrs
def plain (name : String) (sup : Option ClassId) : Class where
  name := name
  kind := .ordinary
  loader := none
  accessFlags := 33
  super := sup
  interfaces := #[]
  cf := none
  fields := #[]
  methods := #[]
  instanceTypes := #[]
  staticTypes := #[]
  resolved := #[]
  callSites := []
  init := .initialized
  statics := none
  mirror := none

def pool0 : Array CpInfo := pool [(5, u "<init>"), (0, u "()V"), (1, .class_ 10), (1, u "java/lang/Object")] 113

def k0c0 : Code := { maxStack := 0, maxLocals := 1, code := object_method_1_code, exceptionTable := #[], attributes := #[] }
def k0m0 : Method := { name := "<init>", desc := "()V", sig := { parameters := [], returnType := none }, accessFlags := 1, code := some k0c0 }
/-- java/lang/Object -/
def k0 : Class := { plain "java/lang/Object" none with
  accessFlags := 33
  interfaces := #[]
  cf := some (fileOf pool0 8 #[] #[{ accessFlags := 1, nameIndex := 5, descriptorIndex := 6, attributes := #[] }] 33 0 #[] #[])
  fields := #[]
  methods := #[k0m0]
  instanceTypes := #[]
  staticTypes := #[]
  resolved := Array.replicate 124 none
  statics := none }

def pool1 : Array CpInfo := pool [(2, .class_ 4), (1, u "java/lang/Object"), (0, u "<init>"), (0, u "()V"), (0, .class_ 8), (0, u "java/lang/String"), (0, .methodref 7 10), (0, .nameAndType 5 11), (0, u "([C)V"), (0, .methodref 13 14), (0, .class_ 15), (0, .nameAndType 16 17), (0, u "com/example/mapwright/mapwright/sql/IdentifierEqualsPinLaw"), (0, u "mk"), (0, u "(ICC)Ljava/lang/String;"), (0, .class_ 19), (0, u "com/example/mapwright/mapwright/sql/Identifier"), (0, .methodref 18 21), (0, .nameAndType 5 22), (0, u "(Ljava/lang/String;Z)V"), (0, .methodref 18 24), (0, .nameAndType 25 26), (0, u "equals"), (0, u "(Ljava/lang/Object;)Z"), (3, u "law"), (0, u "(III)Z")] 2

def k1m0 : Method := { name := "<init>", desc := "()V", sig := { parameters := [], returnType := none }, accessFlags := 1, code := none }
def k1c1 : Code := { maxStack := 6, maxLocals := 3, code := method_2_code, exceptionTable := #[], attributes := #[] }
def k1m1 : Method := { name := "mk", desc := "(ICC)Ljava/lang/String;", sig := { parameters := [.int, .char, .char], returnType := some (.object "java/lang/String") }, accessFlags := 10, code := some k1c1 }
def k1c2 : Code := { maxStack := 4, maxLocals := 20, code := code, exceptionTable := #[], attributes := #[] }
def k1m2 : Method := { name := "law", desc := "(III)Z", sig := { parameters := [.int, .int, .int], returnType := some .boolean }, accessFlags := 9, code := some k1c2 }
/-- com/example/mapwright/mapwright/sql/IdentifierEqualsPinLaw -/
def k1 : Class := { plain "com/example/mapwright/mapwright/sql/IdentifierEqualsPinLaw" (some 0) with
  accessFlags := 49
  interfaces := #[]
  cf := some (fileOf pool1 13 #[] #[{ accessFlags := 1, nameIndex := 5, descriptorIndex := 6, attributes := #[] }, { accessFlags := 10, nameIndex := 16, descriptorIndex := 17, attributes := #[] }, { accessFlags := 9, nameIndex := 30, descriptorIndex := 31, attributes := #[] }] 49 2 #[] #[])
  fields := #[]
  methods := #[k1m0, k1m1, k1m2]
  instanceTypes := #[]
  staticTypes := #[]
  resolved := Array.replicate 34 none
  statics := none }

def pool2 : Array CpInfo := pool [(1, .class_ 2), (0, u "java/io/Serializable"), (0, .class_ 4), (0, u "java/lang/Object")] 2

/-- java/io/Serializable -/
def k2 : Class := { plain "java/io/Serializable" (some 0) with
  accessFlags := 1537
  interfaces := #[]
  cf := some (fileOf pool2 1 #[] #[] 1537 3 #[] #[])
  fields := #[]
  methods := #[]
  instanceTypes := #[]
  staticTypes := #[]
  resolved := Array.replicate 7 none
  statics := none }

def pool3 : Array CpInfo := pool [(1, .class_ 2), (0, u "java/lang/Comparable"), (0, .class_ 4), (0, u "java/lang/Object")] 7

/-- java/lang/Comparable -/
def k3 : Class := { plain "java/lang/Comparable" (some 0) with
  accessFlags := 1537
  interfaces := #[]
  cf := some (fileOf pool3 1 #[] #[] 1537 3 #[] #[])
  fields := #[]
  methods := #[]
  instanceTypes := #[]
  staticTypes := #[]
  resolved := Array.replicate 12 none
  statics := none }

def pool4 : Array CpInfo := pool [(2, .class_ 4), (1, u "java/lang/CharSequence"), (42, .class_ 48), (0, u "java/lang/CharSequence$1CodePointIterator"), (10, .class_ 60), (0, u "java/lang/CharSequence$1CharIterator"), (5, .class_ 67), (0, u "java/lang/Object")] 63

/-- java/lang/CharSequence -/
def k4 : Class := { plain "java/lang/CharSequence" (some 0) with
  accessFlags := 1537
  interfaces := #[]
  cf := some (fileOf pool4 2 #[.nestMembers #[47, 59]] #[] 1537 66 #[] #[])
  fields := #[]
  methods := #[]
  instanceTypes := #[]
  staticTypes := #[]
  resolved := Array.replicate 131 none
  statics := none }

def pool5 : Array CpInfo := pool [(1, .class_ 2), (0, u "java/lang/constant/Constable"), (0, .class_ 4), (0, u "java/lang/Object")] 6

/-- java/lang/constant/Constable -/
def k5 : Class := { plain "java/lang/constant/Constable" (some 0) with
  accessFlags := 1537
  interfaces := #[]
  cf := some (fileOf pool5 1 #[] #[] 1537 3 #[] #[])
  fields := #[]
  methods := #[]
  instanceTypes := #[]
  staticTypes := #[]
  resolved := Array.replicate 11 none
  statics := none }

def pool6 : Array CpInfo := pool [(1, .class_ 2), (0, u "java/lang/constant/ConstantDesc"), (0, .class_ 4), (0, u "java/lang/Object")] 32

/-- java/lang/constant/ConstantDesc -/
def k6 : Class := { plain "java/lang/constant/ConstantDesc" (some 0) with
  accessFlags := 1537
  interfaces := #[]
  cf := some (fileOf pool6 1 #[] #[] 1537 3 #[] #[])
  fields := #[]
  methods := #[]
  instanceTypes := #[]
  staticTypes := #[]
  resolved := Array.replicate 37 none
  statics := none }

def pool7 : Array CpInfo := pool [(1, .methodref 2 3), (0, .class_ 4), (0, .nameAndType 5 6), (0, u "java/lang/Object"), (0, u "<init>"), (0, u "()V"), (0, .string 8), (0, u ""), (0, .fieldref 10 11), (0, .class_ 12), (0, .nameAndType 13 14), (0, u "java/lang/String"), (0, u "value"), (0, u "[B"), (0, .fieldref 10 16), (0, .nameAndType 17 18), (0, u "coder"), (0, u "B"), (2, u "hash"), (0, u "I"), (2, u "hashIsZero"), (0, u "Z"), (0, .methodref 10 28), (0, .nameAndType 5 29), (0, u "([CIILjava/lang/Void;)V"), (8, .fieldref 10 39), (0, .nameAndType 40 26), (0, u "COMPACT_STRINGS"), (1, .class_ 44), (1, u "java/lang/StringUTF16"), (0, u "compress"), (1, .methodref 42 48), (0, .nameAndType 49 50), (0, u "coderFromArrayLen"), (0, u "([BI)B"), (56, .class_ 109), (1, u "java/lang/StringLatin1"), (67, .methodref 42 178), (0, .nameAndType 45 179), (0, u "([CII)[B"), (361, .methodref 107 542), (0, .nameAndType 543 544), (0, u "equals"), (0, u "([B[B)Z"), (28, u "(Ljava/lang/Object;)Z"), (1, .class_ 576), (0, u "java/lang/CharSequence"), (22, u "CASE_INSENSITIVE_ORDER"), (0, u "Ljava/util/Comparator;"), (409, u "([C)V"), (90, u "serialPersistentFields"), (0, u "[Ljava/io/ObjectStreamField;"), (0, .class_ 1104), (0, u "java/lang/String$CaseInsensitiveComparator"), (1, .class_ 1107), (0, u "java/io/Serializable"), (0, .class_ 1109), (0, u "java/lang/Comparable"), (0, .class_ 1111), (0, u "java/lang/constant/Constable"), (0, .class_ 1113), (0, u "java/lang/constant/ConstantDesc"), (2, u "serialVersionUID"), (0, u "J"), (3, u "REPL"), (0, u "C"), (2, u "LATIN1"), (1, u "UTF16")] 323

def k7m0 : Method := { name := "<init>", desc := "()V", sig := { parameters := [], returnType := none }, accessFlags := 1, code := none }
def k7c1 : Code := { maxStack := 5, maxLocals := 2, code := jdk_42_method_3_code, exceptionTable := #[], attributes := #[] }
def k7m1 : Method := { name := "<init>", desc := "([C)V", sig := { parameters := [(.array .char)], returnType := none }, accessFlags := 1, code := some k7c1 }
def k7c2 : Code := { maxStack := 2, maxLocals := 3, code := jdk_42_method_66_code, exceptionTable := #[], attributes := #[] }
def k7m2 : Method := { name := "equals", desc := "(Ljava/lang/Object;)Z", sig := { parameters := [(.object "java/lang/Object")], returnType := some .boolean }, accessFlags := 1, code := some k7c2 }
def k7c3 : Code := { maxStack := 4, maxLocals := 6, code := jdk_42_method_149_code, exceptionTable := #[], attributes := #[] }
def k7m3 : Method := { name := "<init>", desc := "([CIILjava/lang/Void;)V", sig := { parameters := [(.array .char), .int, .int, (.object "java/lang/Void")], returnType := none }, accessFlags := 2, code := some k7c3 }
/-- java/lang/String -/
def k7 : Class := { plain "java/lang/String" (some 0) with
  accessFlags := 49
  interfaces := #[2, 3, 4, 5, 6]
  cf := some (fileOf pool7 10 #[.nestMembers #[1103]] #[{ accessFlags := 1, nameIndex := 5, descriptorIndex := 6, attributes := #[] }, { accessFlags := 1, nameIndex := 5, descriptorIndex := 1010, attributes := #[] }, { accessFlags := 1, nameIndex := 543, descriptorIndex := 573, attributes := #[] }, { accessFlags := 2, nameIndex := 5, descriptorIndex := 29, attributes := #[] }] 49 2 #[1106, 1108, 575, 1110, 1112] #[{ accessFlags := 18, nameIndex := 13, descriptorIndex := 14, attributes := #[] }, { accessFlags := 18, nameIndex := 17, descriptorIndex := 18, attributes := #[] }, { accessFlags := 2, nameIndex := 21, descriptorIndex := 22, attributes := #[] }, { accessFlags := 2, nameIndex := 25, descriptorIndex := 26, attributes := #[] }, { accessFlags := 26, nameIndex := 1116, descriptorIndex := 1117, attributes := #[] }, { accessFlags := 24, nameIndex := 40, descriptorIndex := 26, attributes := #[] }, { accessFlags := 26, nameIndex := 1101, descriptorIndex := 1102, attributes := #[] }, { accessFlags := 26, nameIndex := 1121, descriptorIndex := 1122, attributes := #[] }, { accessFlags := 25, nameIndex := 599, descriptorIndex := 600, attributes := #[] }, { accessFlags := 24, nameIndex := 1125, descriptorIndex := 18, attributes := #[] }, { accessFlags := 24, nameIndex := 1127, descriptorIndex := 18, attributes := #[] }])
  fields := #[{ name := "value", type := (.array .byte), accessFlags := 18, slot := 0, constantValue := 0 }, { name := "coder", type := .byte, accessFlags := 18, slot := 1, constantValue := 0 }, { name := "hash", type := .int, accessFlags := 2, slot := 2, constantValue := 0 }, { name := "hashIsZero", type := .boolean, accessFlags := 2, slot := 3, constantValue := 0 }, { name := "serialVersionUID", type := .long, accessFlags := 26, slot := 0, constantValue := 0 }, { name := "COMPACT_STRINGS", type := .boolean, accessFlags := 24, slot := 1, constantValue := 0 }, { name := "serialPersistentFields", type := (.array (.object "java/io/ObjectStreamField")), accessFlags := 26, slot := 2, constantValue := 0 }, { name := "REPL", type := .char, accessFlags := 26, slot := 3, constantValue := 0 }, { name := "CASE_INSENSITIVE_ORDER", type := (.object "java/util/Comparator"), accessFlags := 25, slot := 4, constantValue := 0 }, { name := "LATIN1", type := .byte, accessFlags := 24, slot := 5, constantValue := 0 }, { name := "UTF16", type := .byte, accessFlags := 24, slot := 6, constantValue := 0 }]
  methods := #[k7m0, k7m1, k7m2, k7m3]
  instanceTypes := #[(.array .byte), .byte, .int, .boolean]
  staticTypes := #[.long, .boolean, (.array (.object "java/io/ObjectStreamField")), .char, (.object "java/util/Comparator"), .byte, .byte]
  resolved := Array.replicate 1451 none
  statics := some 0 }

def pool8 : Array CpInfo := pool [(6, .class_ 8), (1, u "java/lang/Object"), (0, u "<init>"), (0, u "()V"), (1, .class_ 14), (1, u "java/lang/StringUTF16"), (31, u "$assertionsDisabled"), (0, u "Z"), (13, u "HI_BYTE_SHIFT"), (0, u "I"), (2, u "LO_BYTE_SHIFT"), (49, .methodref 12 116), (0, .nameAndType 117 118), (0, u "compress"), (0, u "([CI[BII)I"), (3, u "([CII)[B"), (138, u "coderFromArrayLen"), (0, u "([BI)B"), (106, .class_ 371), (1, u "java/lang/StringUTF16$LinesSpliterator"), (58, u "MAX_LENGTH"), (196, .class_ 628), (0, u "java/lang/StringUTF16$CodePointsSpliterator"), (0, .class_ 630), (0, u "java/lang/StringUTF16$CharsSpliterator")] 4

def k8m0 : Method := { name := "<init>", desc := "()V", sig := { parameters := [], returnType := none }, accessFlags := 0, code := none }
def k8c1 : Code := { maxStack := 2, maxLocals := 2, code := jdk_52_method_15_code, exceptionTable := #[], attributes := #[] }
def k8m1 : Method := { name := "coderFromArrayLen", desc := "([BI)B", sig := { parameters := [(.array .byte), .int], returnType := some .byte }, accessFlags := 8, code := some k8c1 }
def k8c2 : Code := { maxStack := 5, maxLocals := 6, code := jdk_52_method_16_code, exceptionTable := #[], attributes := #[] }
def k8m2 : Method := { name := "compress", desc := "([CII)[B", sig := { parameters := [(.array .char), .int, .int], returnType := some (.array .byte) }, accessFlags := 9, code := some k8c2 }
def k8c3 : Code := { maxStack := 3, maxLocals := 7, code := jdk_52_method_21_code, exceptionTable := #[], attributes := #[] }
def k8m3 : Method := { name := "compress", desc := "([CI[BII)I", sig := { parameters := [(.array .char), .int, (.array .byte), .int, .int], returnType := some .int }, accessFlags := 9, code := some k8c3 }
/-- java/lang/StringUTF16 -/
def k8 : Class := { plain "java/lang/StringUTF16" (some 0) with
  accessFlags := 48
  interfaces := #[]
  cf := some (fileOf pool8 12 #[.nestMembers #[627, 629, 369]] #[{ accessFlags := 0, nameIndex := 9, descriptorIndex := 10, attributes := #[] }, { accessFlags := 8, nameIndex := 261, descriptorIndex := 262, attributes := #[] }, { accessFlags := 9, nameIndex := 117, descriptorIndex := 122, attributes := #[] }, { accessFlags := 9, nameIndex := 117, descriptorIndex := 118, attributes := #[] }] 48 6 #[] #[{ accessFlags := 26, nameIndex := 61, descriptorIndex := 62, attributes := #[] }, { accessFlags := 26, nameIndex := 65, descriptorIndex := 62, attributes := #[] }, { accessFlags := 24, nameIndex := 430, descriptorIndex := 62, attributes := #[] }, { accessFlags := 4120, nameIndex := 46, descriptorIndex := 47, attributes := #[] }])
  fields := #[{ name := "HI_BYTE_SHIFT", type := .int, accessFlags := 26, slot := 0, constantValue := 0 }, { name := "LO_BYTE_SHIFT", type := .int, accessFlags := 26, slot := 1, constantValue := 0 }, { name := "MAX_LENGTH", type := .int, accessFlags := 24, slot := 2, constantValue := 0 }, { name := "$assertionsDisabled", type := .boolean, accessFlags := 4120, slot := 3, constantValue := 0 }]
  methods := #[k8m0, k8m1, k8m2, k8m3]
  instanceTypes := #[]
  staticTypes := #[.int, .int, .int, .boolean]
  resolved := Array.replicate 635 none
  statics := none }

def pool9 : Array CpInfo := pool [(1, .methodref 2 3), (0, .class_ 4), (0, .nameAndType 5 6), (0, u "java/lang/Object"), (0, u "<init>"), (0, u "()V"), (0, .class_ 8), (0, u "java/lang/Record")] 13

def k9c0 : Code := { maxStack := 1, maxLocals := 1, code := jdk_30_method_1_code, exceptionTable := #[], attributes := #[] }
def k9m0 : Method := { name := "<init>", desc := "()V", sig := { parameters := [], returnType := none }, accessFlags := 4, code := some k9c0 }
/-- java/lang/Record -/
def k9 : Class := { plain "java/lang/Record" (some 0) with
  accessFlags := 1057
  interfaces := #[]
  cf := some (fileOf pool9 7 #[] #[{ accessFlags := 4, nameIndex := 5, descriptorIndex := 6, attributes := #[] }] 1057 2 #[] #[])
  fields := #[]
  methods := #[k9m0]
  instanceTypes := #[]
  staticTypes := #[]
  resolved := Array.replicate 22 none
  statics := none }

def pool10 : Array CpInfo := pool [(1, .methodref 2 3), (0, .class_ 4), (0, .nameAndType 5 6), (0, u "java/lang/Record"), (0, u "<init>"), (0, u "()V"), (0, .string 8), (0, u "name"), (0, .methodref 10 11), (0, .class_ 12), (0, .nameAndType 13 14), (0, u "java/util/Objects"), (0, u "requireNonNull"), (0, u "(Ljava/lang/Object;Ljava/lang/String;)Ljava/lang/Object;"), (0, .fieldref 16 17), (0, .class_ 18), (0, .nameAndType 8 19), (0, u "com/example/mapwright/mapwright/sql/Identifier"), (0, u "Ljava/lang/String;"), (0, .fieldref 16 21), (0, .nameAndType 22 23), (0, u "delimited"), (0, u "Z"), (0, .methodref 25 26), (0, .class_ 27), (0, .nameAndType 28 29), (0, u "java/lang/String"), (0, u "equals"), (0, u "(Ljava/lang/Object;)Z"), (93, u "(Ljava/lang/String;Z)V")] 110

def k10c0 : Code := { maxStack := 2, maxLocals := 3, code := prog_83_method_1_code, exceptionTable := #[], attributes := #[] }
def k10m0 : Method := { name := "<init>", desc := "(Ljava/lang/String;Z)V", sig := { parameters := [(.object "java/lang/String"), .boolean], returnType := none }, accessFlags := 1, code := some k10c0 }
def k10c1 : Code := { maxStack := 2, maxLocals := 3, code := prog_83_method_2_code, exceptionTable := #[], attributes := #[] }
def k10m1 : Method := { name := "equals", desc := "(Ljava/lang/Object;)Z", sig := { parameters := [(.object "java/lang/Object")], returnType := some .boolean }, accessFlags := 1, code := some k10c1 }
/-- com/example/mapwright/mapwright/sql/Identifier -/
def k10 : Class := { plain "com/example/mapwright/mapwright/sql/Identifier" (some 9) with
  accessFlags := 49
  interfaces := #[]
  cf := some (fileOf pool10 16 #[] #[{ accessFlags := 1, nameIndex := 5, descriptorIndex := 123, attributes := #[] }, { accessFlags := 1, nameIndex := 28, descriptorIndex := 29, attributes := #[] }] 49 2 #[] #[{ accessFlags := 18, nameIndex := 8, descriptorIndex := 19, attributes := #[] }, { accessFlags := 18, nameIndex := 22, descriptorIndex := 23, attributes := #[] }])
  fields := #[{ name := "name", type := (.object "java/lang/String"), accessFlags := 18, slot := 0, constantValue := 0 }, { name := "delimited", type := .boolean, accessFlags := 18, slot := 1, constantValue := 0 }]
  methods := #[k10m0, k10m1]
  instanceTypes := #[(.object "java/lang/String"), .boolean]
  staticTypes := #[]
  resolved := Array.replicate 234 none
  statics := none }

def pool11 : Array CpInfo := pool [(2, .class_ 4), (1, u "java/lang/Object"), (0, u "<init>"), (0, u "()V"), (35, .class_ 44), (1, u "java/util/Objects"), (0, u "requireNonNull"), (48, u "(Ljava/lang/Object;Ljava/lang/String;)Ljava/lang/Object;")] 89

def k11m0 : Method := { name := "<init>", desc := "()V", sig := { parameters := [], returnType := none }, accessFlags := 2, code := none }
def k11c1 : Code := { maxStack := 3, maxLocals := 2, code := jdk_31_method_11_code, exceptionTable := #[], attributes := #[] }
def k11m1 : Method := { name := "requireNonNull", desc := "(Ljava/lang/Object;Ljava/lang/String;)Ljava/lang/Object;", sig := { parameters := [(.object "java/lang/Object"), (.object "java/lang/String")], returnType := some (.object "java/lang/Object") }, accessFlags := 9, code := some k11c1 }
/-- java/util/Objects -/
def k11 : Class := { plain "java/util/Objects" (some 0) with
  accessFlags := 49
  interfaces := #[]
  cf := some (fileOf pool11 42 #[] #[{ accessFlags := 2, nameIndex := 5, descriptorIndex := 6, attributes := #[] }, { accessFlags := 9, nameIndex := 45, descriptorIndex := 94, attributes := #[] }] 49 2 #[] #[])
  fields := #[]
  methods := #[k11m0, k11m1]
  instanceTypes := #[]
  staticTypes := #[]
  resolved := Array.replicate 184 none
  statics := none }

def pool12 : Array CpInfo := pool [(4, .class_ 6), (1, u "java/lang/Object"), (0, u "<init>"), (0, u "()V"), (5, .class_ 16), (1, u "java/lang/StringLatin1"), (104, u "$assertionsDisabled"), (0, u "Z"), (98, .class_ 223), (1, u "java/lang/StringLatin1$LinesSpliterator"), (57, u "equals"), (0, u "([B[B)Z"), (107, .class_ 391), (0, u "java/lang/StringLatin1$CharsSpliterator")] 3

def k12m0 : Method := { name := "<init>", desc := "()V", sig := { parameters := [], returnType := none }, accessFlags := 0, code := none }
def k12c1 : Code := { maxStack := 3, maxLocals := 3, code := jdk_43_method_13_code, exceptionTable := #[], attributes := #[] }
def k12m1 : Method := { name := "equals", desc := "([B[B)Z", sig := { parameters := [(.array .byte), (.array .byte)], returnType := some .boolean }, accessFlags := 9, code := some k12c1 }
/-- java/lang/StringLatin1 -/
def k12 : Class := { plain "java/lang/StringLatin1" (some 0) with
  accessFlags := 48
  interfaces := #[]
  cf := some (fileOf pool12 14 #[.nestMembers #[390, 221]] #[{ accessFlags := 0, nameIndex := 7, descriptorIndex := 8, attributes := #[] }, { accessFlags := 9, nameIndex := 281, descriptorIndex := 282, attributes := #[] }] 48 4 #[] #[{ accessFlags := 4120, nameIndex := 121, descriptorIndex := 122, attributes := #[] }])
  fields := #[{ name := "$assertionsDisabled", type := .boolean, accessFlags := 4120, slot := 0, constantValue := 0 }]
  methods := #[k12m0, k12m1]
  instanceTypes := #[]
  staticTypes := #[.boolean]
  resolved := Array.replicate 395 none
  statics := none }

def pool13 : Array CpInfo := pool [(2, .class_ 4), (1, u "java/lang/Object"), (0, u "<init>"), (0, u "()V"), (17, .class_ 26), (1, u "jdk/internal/util/Preconditions"), (28, .class_ 56), (0, u "jdk/internal/util/Preconditions$4"), (57, .class_ 115), (0, u "jdk/internal/util/Preconditions$1"), (7, u "SIOOBE_FORMATTER"), (0, u "Ljava/util/function/BiFunction;"), (0, .class_ 126), (0, u "jdk/internal/util/Preconditions$2"), (3, u "AIOOBE_FORMATTER"), (0, .class_ 132), (0, u "jdk/internal/util/Preconditions$3"), (3, u "IOOBE_FORMATTER")] 57

def k13m0 : Method := { name := "<init>", desc := "()V", sig := { parameters := [], returnType := none }, accessFlags := 1, code := none }
/-- jdk/internal/util/Preconditions -/
def k13 : Class := { plain "jdk/internal/util/Preconditions" (some 0) with
  accessFlags := 33
  interfaces := #[]
  cf := some (fileOf pool13 24 #[.nestMembers #[55, 131, 125, 114]] #[{ accessFlags := 1, nameIndex := 5, descriptorIndex := 6, attributes := #[] }] 33 2 #[] #[{ accessFlags := 25, nameIndex := 123, descriptorIndex := 124, attributes := #[] }, { accessFlags := 25, nameIndex := 130, descriptorIndex := 124, attributes := #[] }, { accessFlags := 25, nameIndex := 136, descriptorIndex := 124, attributes := #[] }])
  fields := #[{ name := "SIOOBE_FORMATTER", type := (.object "java/util/function/BiFunction"), accessFlags := 25, slot := 0, constantValue := 0 }, { name := "AIOOBE_FORMATTER", type := (.object "java/util/function/BiFunction"), accessFlags := 25, slot := 1, constantValue := 0 }, { name := "IOOBE_FORMATTER", type := (.object "java/util/function/BiFunction"), accessFlags := 25, slot := 2, constantValue := 0 }]
  methods := #[k13m0]
  instanceTypes := #[]
  staticTypes := #[(.object "java/util/function/BiFunction"), (.object "java/util/function/BiFunction"), (.object "java/util/function/BiFunction")]
  resolved := Array.replicate 194 none
  statics := some 1 }

def pool14 : Array CpInfo := pool [(9, u "<init>"), (6, .class_ 18), (1, u "java/lang/Object"), (0, u "()V"), (1, .class_ 23), (1, u "jdk/internal/util/ArraysSupport"), (0, u "LOG2_ARRAY_LONG_INDEX_SCALE"), (0, u "I"), (2, u "U"), (0, u "Ljdk/internal/misc/Unsafe;"), (8, u "BIG_ENDIAN"), (0, u "Z"), (8, u "LOG2_BYTE_BIT_SIZE"), (4, u "LOG2_ARRAY_INT_INDEX_SCALE"), (54, u "JLA"), (0, u "Ljdk/internal/access/JavaLangAccess;"), (11, u "LOG2_ARRAY_BOOLEAN_INDEX_SCALE"), (9, u "LOG2_ARRAY_BYTE_INDEX_SCALE"), (5, u "LOG2_ARRAY_CHAR_INDEX_SCALE"), (5, u "LOG2_ARRAY_SHORT_INDEX_SCALE"), (18, u "LOG2_ARRAY_FLOAT_INDEX_SCALE"), (24, u "LOG2_ARRAY_DOUBLE_INDEX_SCALE"), (89, u "T_BOOLEAN"), (2, u "T_CHAR"), (1, u "T_FLOAT"), (1, u "T_DOUBLE"), (1, u "T_BYTE"), (1, u "T_SHORT"), (1, u "T_INT"), (1, u "T_LONG"), (1, u "SOFT_MAX_ARRAY_LENGTH")] 83

def k14m0 : Method := { name := "<init>", desc := "()V", sig := { parameters := [], returnType := none }, accessFlags := 2, code := none }
/-- jdk/internal/util/ArraysSupport -/
def k14 : Class := { plain "jdk/internal/util/ArraysSupport" (some 0) with
  accessFlags := 33
  interfaces := #[]
  cf := some (fileOf pool14 21 #[] #[{ accessFlags := 2, nameIndex := 9, descriptorIndex := 19, attributes := #[] }] 33 16 #[] #[{ accessFlags := 24, nameIndex := 28, descriptorIndex := 29, attributes := #[] }, { accessFlags := 26, nameIndex := 38, descriptorIndex := 39, attributes := #[] }, { accessFlags := 25, nameIndex := 121, descriptorIndex := 25, attributes := #[] }, { accessFlags := 25, nameIndex := 131, descriptorIndex := 25, attributes := #[] }, { accessFlags := 25, nameIndex := 137, descriptorIndex := 25, attributes := #[] }, { accessFlags := 25, nameIndex := 143, descriptorIndex := 25, attributes := #[] }, { accessFlags := 25, nameIndex := 53, descriptorIndex := 25, attributes := #[] }, { accessFlags := 25, nameIndex := 24, descriptorIndex := 25, attributes := #[] }, { accessFlags := 25, nameIndex := 162, descriptorIndex := 25, attributes := #[] }, { accessFlags := 25, nameIndex := 187, descriptorIndex := 25, attributes := #[] }, { accessFlags := 26, nameIndex := 48, descriptorIndex := 25, attributes := #[] }, { accessFlags := 25, nameIndex := 277, descriptorIndex := 25, attributes := #[] }, { accessFlags := 25, nameIndex := 280, descriptorIndex := 25, attributes := #[] }, { accessFlags := 25, nameIndex := 282, descriptorIndex := 25, attributes := #[] }, { accessFlags := 25, nameIndex := 284, descriptorIndex := 25, attributes := #[] }, { accessFlags := 25, nameIndex := 286, descriptorIndex := 25, attributes := #[] }, { accessFlags := 25, nameIndex := 288, descriptorIndex := 25, attributes := #[] }, { accessFlags := 25, nameIndex := 290, descriptorIndex := 25, attributes := #[] }, { accessFlags := 25, nameIndex := 292, descriptorIndex := 25, attributes := #[] }, { accessFlags := 26, nameIndex := 108, descriptorIndex := 109, attributes := #[] }, { accessFlags := 25, nameIndex := 294, descriptorIndex := 25, attributes := #[] }])
  fields := #[{ name := "U", type := (.object "jdk/internal/misc/Unsafe"), accessFlags := 24, slot := 0, constantValue := 0 }, { name := "BIG_ENDIAN", type := .boolean, accessFlags := 26, slot := 1, constantValue := 0 }, { name := "LOG2_ARRAY_BOOLEAN_INDEX_SCALE", type := .int, accessFlags := 25, slot := 2, constantValue := 0 }, { name := "LOG2_ARRAY_BYTE_INDEX_SCALE", type := .int, accessFlags := 25, slot := 3, constantValue := 0 }, { name := "LOG2_ARRAY_CHAR_INDEX_SCALE", type := .int, accessFlags := 25, slot := 4, constantValue := 0 }, { name := "LOG2_ARRAY_SHORT_INDEX_SCALE", type := .int, accessFlags := 25, slot := 5, constantValue := 0 }, { name := "LOG2_ARRAY_INT_INDEX_SCALE", type := .int, accessFlags := 25, slot := 6, constantValue := 0 }, { name := "LOG2_ARRAY_LONG_INDEX_SCALE", type := .int, accessFlags := 25, slot := 7, constantValue := 0 }, { name := "LOG2_ARRAY_FLOAT_INDEX_SCALE", type := .int, accessFlags := 25, slot := 8, constantValue := 0 }, { name := "LOG2_ARRAY_DOUBLE_INDEX_SCALE", type := .int, accessFlags := 25, slot := 9, constantValue := 0 }, { name := "LOG2_BYTE_BIT_SIZE", type := .int, accessFlags := 26, slot := 10, constantValue := 0 }, { name := "T_BOOLEAN", type := .int, accessFlags := 25, slot := 11, constantValue := 0 }, { name := "T_CHAR", type := .int, accessFlags := 25, slot := 12, constantValue := 0 }, { name := "T_FLOAT", type := .int, accessFlags := 25, slot := 13, constantValue := 0 }, { name := "T_DOUBLE", type := .int, accessFlags := 25, slot := 14, constantValue := 0 }, { name := "T_BYTE", type := .int, accessFlags := 25, slot := 15, constantValue := 0 }, { name := "T_SHORT", type := .int, accessFlags := 25, slot := 16, constantValue := 0 }, { name := "T_INT", type := .int, accessFlags := 25, slot := 17, constantValue := 0 }, { name := "T_LONG", type := .int, accessFlags := 25, slot := 18, constantValue := 0 }, { name := "JLA", type := (.object "jdk/internal/access/JavaLangAccess"), accessFlags := 26, slot := 19, constantValue := 0 }, { name := "SOFT_MAX_ARRAY_LENGTH", type := .int, accessFlags := 25, slot := 20, constantValue := 0 }]
  methods := #[k14m0]
  instanceTypes := #[]
  staticTypes := #[(.object "jdk/internal/misc/Unsafe"), .boolean, .int, .int, .int, .int, .int, .int, .int, .int, .int, .int, .int, .int, .int, .int, .int, .int, .int, (.object "jdk/internal/access/JavaLangAccess"), .int]
  resolved := Array.replicate 378 none
  statics := none }

def pool15 : Array CpInfo := pool [(1, u "java/lang/Cloneable"), (0, .class_ 1), (0, u "java/lang/Object"), (0, .class_ 3)] 3

/-- java/lang/Cloneable -/
def k15 : Class := { plain "java/lang/Cloneable" (some 0) with
  accessFlags := 1537
  interfaces := #[]
  cf := some (fileOf pool15 2 #[] #[] 1537 4 #[] #[])
  fields := #[]
  methods := #[]
  instanceTypes := #[]
  staticTypes := #[]
  resolved := Array.replicate 8 none
  statics := none }

/-- the primitive byte -/
def k16 : Class := { plain "byte" none with kind := .primitive 'B', accessFlags := 0x411 }
/-- [B -/
def k17 : Class := { plain "[B" (some 0) with kind := .array 16 .byte, interfaces := #[15, 2], accessFlags := 1041 }

/-- the primitive char -/
def k18 : Class := { plain "char" none with kind := .primitive 'C', accessFlags := 0x411 }
/-- [C -/
def k19 : Class := { plain "[C" (some 0) with kind := .array 18 .char, interfaces := #[15, 2], accessFlags := 1041 }

/-- the primitive int -/
def k20 : Class := { plain "int" none with kind := .primitive 'I', accessFlags := 0x411 }
/-- [I -/
def k21 : Class := { plain "[I" (some 0) with kind := .array 20 .int, interfaces := #[15, 2], accessFlags := 1041 }

def heap : Heap := #[{ cls := 7, slots := #[.long 0, .int 1, .null, .int 0, .null, .int 0, .int 0], vm := .statics 7 },
  { cls := 13, slots := #[.null, .null, .null], vm := .statics 13 }]
def classes : Array Class := #[k0, k1, k2, k3, k4, k5, k6, k7, k8, k9, k10, k11, k12, k13, k14, k15, k16, k17, k18, k19, k20, k21]
def interned : List (Array UInt16 × Addr) := []
def slotsUsed : Nat := 10
def theMethod : MethodId := ⟨1, 2⟩
def args0 : Array Value := #[.int 1, .int 2, .int 3]
def aboutOver (below : List Frame) : State where
  vm := { classes := classes, interned := interned.toArray }
  heap := heap
  slotsUsed := slotsUsed
  threads := #[{ frames := .invoking theMethod args0 :: below }]
def below0 : List Frame := [.native { method := ⟨0, 0⟩, args := #[] }]
def about1 : State := aboutOver below0
def p0 : Program := .bare "" "" ""
def e0 : Env := launch0.env 0 0 0
theorem w_frames : about1.frames = Frame.invoking theMethod args0 :: below0 := rfl
set_option maxRecDepth 65536 in
theorem w_args : argsFit about1.vm theMethod args0 = true := by decide +kernel
set_option maxRecDepth 65536 in
theorem w_heap : heapFits about1 = true := by decide +kernel
set_option maxRecDepth 65536 in
theorem w_runnable : about1.curStatus? = some .runnable := by decide +kernel
set_option maxRecDepth 65536 in
theorem w_alone : about1.alone = true := by decide +kernel
set_option maxRecDepth 65536 in
theorem w_named : about1.methodNamed? x = some theMethod := by decide +kernel
set_option maxRecDepth 65536 in
theorem w_hears : about1.hears theMethod below0 = true := by decide +kernel
set_option maxRecDepth 65536 in
theorem w_ripe : about1.ripe theMethod args0 below0 = true := by decide +kernel
theorem w_running : about1.status = .running := rfl
set_option maxRecDepth 65536 in
theorem w_room : about1.hasRoom e0.platform room_1 = true :=
  launch0.hasRoom_least _ room_1 (by decide +kernel) (by decide +kernel) (by decide +kernel) (by decide +kernel) (by decide +kernel) (by decide +kernel)
theorem allAtoms_all (ts : List Jvm.Cond) (a : Array Jvm.Value) (st : Jvm.State) : (allAtoms ts).before a st = ts.all (fun c => c.before a st) := by
  induction ts with
  | nil => rfl
  | cons c t ih =>
    show (Jvm.Cond.and c (allAtoms t)).before a st = _
    rw [Jvm.Cond.before_and, ih, List.all_cons]
def words1 : List Jvm.Cond := Jvm.Cond.code x code maxLocals ret :: tables_1
/-- a 'code' word, met by the world's own term for the bytes: nothing is compared byte by byte -/
theorem code_word {y : MethodName} {bytes : ByteArray} {mx : Nat} {rt : Option FieldType} {a : Array Value} {s : State} {m : MethodId} {meth : Method} {c : Code} (h1 : s.methodNamed? y = some m) (h2 : s.vm.method? m = some meth) (h3 : meth.code = some c) (h4 : c.code = bytes)
    (h5 : (c.maxLocals == mx && c.exceptionTable.isEmpty && decide (c.maxStack ≤ mostOperands) && decide (meth.sig.returnType = rt) && !meth.locks && decide (parseMethodDescriptor y.desc = some meth.sig)) = true) : (Jvm.Cond.code y bytes mx rt).before a s = true := by
  simp only [Bool.and_eq_true, beq_iff_eq, Bool.not_eq_true', decide_eq_true_eq] at h5
  obtain ⟨⟨⟨⟨⟨g1, g2⟩, g3⟩, g4⟩, g5⟩, g6⟩ := h5
  simp [Cond.before, Cond.holds, Cond.value, h1, h2, h3, h4, g1, g2, g3, g4, g5, g6]
def isCode : Jvm.Cond → Bool
  | .code _ _ _ _ => true
  | _ => false
theorem all_split {L : List Jvm.Cond} {P : Jvm.Cond → Bool} (h1 : L.all (fun c => isCode c || P c) = true) (h2 : ∀ c ∈ L.filter isCode, P c = true) : L.all P = true := by
  refine List.all_eq_true.mpr fun c hc => ?_
  have h := List.all_eq_true.mp h1 c hc
  rcases Bool.eq_false_or_eq_true (isCode c) with hi | hi
  · exact h2 c (List.mem_filter.mpr ⟨hc, hi⟩)
  · simpa [hi] using h
set_option maxRecDepth 65536 in
theorem w_c0 : (Jvm.Cond.code x code maxLocals ret).before args0 about1 = true := code_word (m := ⟨1, 2⟩) (meth := k1m2) (c := k1c2) (by decide +kernel) rfl rfl rfl (by decide +kernel)
set_option maxRecDepth 65536 in
theorem w_c1 : (Jvm.Cond.code ({ cls := "com/example/mapwright/mapwright/sql/IdentifierEqualsPinLaw", name := "mk", desc := "(ICC)Ljava/lang/String;" } : Jvm.MethodName) method_2_code (3 : Nat) (Option.some (Jvm.ClassFile.FieldType.object "java/lang/String"))).before args0 about1 = true := code_word (m := ⟨1, 1⟩) (meth := k1m1) (c := k1c1) (by decide +kernel) rfl rfl rfl (by decide +kernel)
set_option maxRecDepth 65536 in
theorem w_c2 : (Jvm.Cond.code ({ cls := "java/lang/String", name := "<init>", desc := "([C)V" } : Jvm.MethodName) jdk_42_method_3_code (2 : Nat) (Option.none : Option Jvm.ClassFile.FieldType)).before args0 about1 = true := code_word (m := ⟨7, 1⟩) (meth := k7m1) (c := k7c1) (by decide +kernel) rfl rfl rfl (by decide +kernel)
set_option maxRecDepth 65536 in
theorem w_c3 : (Jvm.Cond.code ({ cls := "java/lang/String", name := "<init>", desc := "([CIILjava/lang/Void;)V" } : Jvm.MethodName) jdk_42_method_149_code (6 : Nat) (Option.none : Option Jvm.ClassFile.FieldType)).before args0 about1 = true := code_word (m := ⟨7, 3⟩) (meth := k7m3) (c := k7c3) (by decide +kernel) rfl rfl rfl (by decide +kernel)
set_option maxRecDepth 65536 in
theorem w_c4 : (Jvm.Cond.code ({ cls := "java/lang/Object", name := "<init>", desc := "()V" } : Jvm.MethodName) object_method_1_code (1 : Nat) (Option.none : Option Jvm.ClassFile.FieldType)).before args0 about1 = true := code_word (m := ⟨0, 0⟩) (meth := k0m0) (c := k0c0) (by decide +kernel) rfl rfl rfl (by decide +kernel)
set_option maxRecDepth 65536 in
theorem w_c5 : (Jvm.Cond.code ({ cls := "java/lang/StringUTF16", name := "compress", desc := "([CII)[B" } : Jvm.MethodName) jdk_52_method_16_code (6 : Nat) (Option.some (Jvm.ClassFile.FieldType.array Jvm.ClassFile.FieldType.byte))).before args0 about1 = true := code_word (m := ⟨8, 2⟩) (meth := k8m2) (c := k8c2) (by decide +kernel) rfl rfl rfl (by decide +kernel)
set_option maxRecDepth 65536 in
theorem w_c6 : (Jvm.Cond.code ({ cls := "java/lang/StringUTF16", name := "compress", desc := "([CI[BII)I" } : Jvm.MethodName) jdk_52_method_21_code (7 : Nat) (Option.some Jvm.ClassFile.FieldType.int)).before args0 about1 = true := code_word (m := ⟨8, 3⟩) (meth := k8m3) (c := k8c3) (by decide +kernel) rfl rfl rfl (by decide +kernel)
set_option maxRecDepth 65536 in
theorem w_c7 : (Jvm.Cond.code ({ cls := "java/lang/StringUTF16", name := "coderFromArrayLen", desc := "([BI)B" } : Jvm.MethodName) jdk_52_method_15_code (2 : Nat) (Option.some Jvm.ClassFile.FieldType.byte)).before args0 about1 = true := code_word (m := ⟨8, 1⟩) (meth := k8m1) (c := k8c1) (by decide +kernel) rfl rfl rfl (by decide +kernel)
set_option maxRecDepth 65536 in
theorem w_c8 : (Jvm.Cond.code ({ cls := "com/example/mapwright/mapwright/sql/Identifier", name := "<init>", desc := "(Ljava/lang/String;Z)V" } : Jvm.MethodName) prog_83_method_1_code (3 : Nat) (Option.none : Option Jvm.ClassFile.FieldType)).before args0 about1 = true := code_word (m := ⟨10, 0⟩) (meth := k10m0) (c := k10c0) (by decide +kernel) rfl rfl rfl (by decide +kernel)
set_option maxRecDepth 65536 in
theorem w_c9 : (Jvm.Cond.code ({ cls := "java/lang/Record", name := "<init>", desc := "()V" } : Jvm.MethodName) jdk_30_method_1_code (1 : Nat) (Option.none : Option Jvm.ClassFile.FieldType)).before args0 about1 = true := code_word (m := ⟨9, 0⟩) (meth := k9m0) (c := k9c0) (by decide +kernel) rfl rfl rfl (by decide +kernel)
set_option maxRecDepth 65536 in
theorem w_c10 : (Jvm.Cond.code ({ cls := "java/util/Objects", name := "requireNonNull", desc := "(Ljava/lang/Object;Ljava/lang/String;)Ljava/lang/Object;" } : Jvm.MethodName) jdk_31_method_11_code (2 : Nat) (Option.some (Jvm.ClassFile.FieldType.object "java/lang/Object"))).before args0 about1 = true := code_word (m := ⟨11, 1⟩) (meth := k11m1) (c := k11c1) (by decide +kernel) rfl rfl rfl (by decide +kernel)
set_option maxRecDepth 65536 in
theorem w_c11 : (Jvm.Cond.code ({ cls := "com/example/mapwright/mapwright/sql/Identifier", name := "equals", desc := "(Ljava/lang/Object;)Z" } : Jvm.MethodName) prog_83_method_2_code (3 : Nat) (Option.some Jvm.ClassFile.FieldType.boolean)).before args0 about1 = true := code_word (m := ⟨10, 1⟩) (meth := k10m1) (c := k10c1) (by decide +kernel) rfl rfl rfl (by decide +kernel)
set_option maxRecDepth 65536 in
theorem w_c12 : (Jvm.Cond.code ({ cls := "java/lang/String", name := "equals", desc := "(Ljava/lang/Object;)Z" } : Jvm.MethodName) jdk_42_method_66_code (3 : Nat) (Option.some Jvm.ClassFile.FieldType.boolean)).before args0 about1 = true := code_word (m := ⟨7, 2⟩) (meth := k7m2) (c := k7c2) (by decide +kernel) rfl rfl rfl (by decide +kernel)
set_option maxRecDepth 65536 in
theorem w_c13 : (Jvm.Cond.code ({ cls := "java/lang/StringLatin1", name := "equals", desc := "([B[B)Z" } : Jvm.MethodName) jdk_43_method_13_code (3 : Nat) (Option.some Jvm.ClassFile.FieldType.boolean)).before args0 about1 = true := code_word (m := ⟨12, 1⟩) (meth := k12m1) (c := k12c1) (by decide +kernel) rfl rfl rfl (by decide +kernel)
def codes1 : List Jvm.Cond := [Jvm.Cond.code x code maxLocals ret, Jvm.Cond.code ({ cls := "com/example/mapwright/mapwright/sql/IdentifierEqualsPinLaw", name := "mk", desc := "(ICC)Ljava/lang/String;" } : Jvm.MethodName) method_2_code (3 : Nat) (Option.some (Jvm.ClassFile.FieldType.object "java/lang/String")), Jvm.Cond.code ({ cls := "java/lang/String", name := "<init>", desc := "([C)V" } : Jvm.MethodName) jdk_42_method_3_code (2 : Nat) (Option.none : Option Jvm.ClassFile.FieldType), Jvm.Cond.code ({ cls := "java/lang/String", name := "<init>", desc := "([CIILjava/lang/Void;)V" } : Jvm.MethodName) jdk_42_method_149_code (6 : Nat) (Option.none : Option Jvm.ClassFile.FieldType), Jvm.Cond.code ({ cls := "java/lang/Object", name := "<init>", desc := "()V" } : Jvm.MethodName) object_method_1_code (1 : Nat) (Option.none : Option Jvm.ClassFile.FieldType), Jvm.Cond.code ({ cls := "java/lang/StringUTF16", name := "compress", desc := "([CII)[B" } : Jvm.MethodName) jdk_52_method_16_code (6 : Nat) (Option.some (Jvm.ClassFile.FieldType.array Jvm.ClassFile.FieldType.byte)), Jvm.Cond.code ({ cls := "java/lang/StringUTF16", name := "compress", desc := "([CI[BII)I" } : Jvm.MethodName) jdk_52_method_21_code (7 : Nat) (Option.some Jvm.ClassFile.FieldType.int), Jvm.Cond.code ({ cls := "java/lang/StringUTF16", name := "coderFromArrayLen", desc := "([BI)B" } : Jvm.MethodName) jdk_52_method_15_code (2 : Nat) (Option.some Jvm.ClassFile.FieldType.byte), Jvm.Cond.code ({ cls := "com/example/mapwright/mapwright/sql/Identifier", name := "<init>", desc := "(Ljava/lang/String;Z)V" } : Jvm.MethodName) prog_83_method_1_code (3 : Nat) (Option.none : Option Jvm.ClassFile.FieldType), Jvm.Cond.code ({ cls := "java/lang/Record", name := "<init>", desc := "()V" } : Jvm.MethodName) jdk_30_method_1_code (1 : Nat) (Option.none : Option Jvm.ClassFile.FieldType), Jvm.Cond.code ({ cls := "java/util/Objects", name := "requireNonNull", desc := "(Ljava/lang/Object;Ljava/lang/String;)Ljava/lang/Object;" } : Jvm.MethodName) jdk_31_method_11_code (2 : Nat) (Option.some (Jvm.ClassFile.FieldType.object "java/lang/Object")), Jvm.Cond.code ({ cls := "com/example/mapwright/mapwright/sql/Identifier", name := "equals", desc := "(Ljava/lang/Object;)Z" } : Jvm.MethodName) prog_83_method_2_code (3 : Nat) (Option.some Jvm.ClassFile.FieldType.boolean), Jvm.Cond.code ({ cls := "java/lang/String", name := "equals", desc := "(Ljava/lang/Object;)Z" } : Jvm.MethodName) jdk_42_method_66_code (3 : Nat) (Option.some Jvm.ClassFile.FieldType.boolean), Jvm.Cond.code ({ cls := "java/lang/StringLatin1", name := "equals", desc := "([B[B)Z" } : Jvm.MethodName) jdk_43_method_13_code (3 : Nat) (Option.some Jvm.ClassFile.FieldType.boolean)]
set_option maxRecDepth 65536 in
theorem codes_eq : words1.filter isCode = codes1 := rfl
theorem w_codes : ∀ c ∈ words1.filter isCode, c.before args0 about1 = true := by
  rw [codes_eq]
  intro c hc
  simp only [codes1, List.mem_cons, List.not_mem_nil, or_false] at hc
  rcases hc with rfl | rfl | rfl | rfl | rfl | rfl | rfl | rfl | rfl | rfl | rfl | rfl | rfl | rfl
  · exact w_c0
  · exact w_c1
  · exact w_c2
  · exact w_c3
  · exact w_c4
  · exact w_c5
  · exact w_c6
  · exact w_c7
  · exact w_c8
  · exact w_c9
  · exact w_c10
  · exact w_c11
  · exact w_c12
  · exact w_c13
set_option maxRecDepth 65536 in
theorem w_t1 : (words1.take 24).all (fun c => isCode c || c.before args0 about1) = true := by decide +kernel
set_option maxRecDepth 65536 in
theorem w_t2 : ((words1.drop 24).take 24).all (fun c => isCode c || c.before args0 about1) = true := by decide +kernel
set_option maxRecDepth 65536 in
theorem w_t3 : (((words1.drop 24).drop 24).take 24).all (fun c => isCode c || c.before args0 about1) = true := by decide +kernel
set_option maxRecDepth 65536 in
theorem w_t4 : (((words1.drop 24).drop 24).drop 24).all (fun c => isCode c || c.before args0 about1) = true := by decide +kernel
theorem w_tables : (allAtoms (Jvm.Cond.code x code maxLocals ret :: tables_1)).before args0 about1 = true := by
  rw [allAtoms_all]
  show words1.all (fun c => c.before args0 about1) = true
  refine all_split ?_ w_codes
  rw [← List.take_append_drop 24 words1, List.all_append, w_t1, ← List.take_append_drop 24 (words1.drop 24), List.all_append, w_t2, ← List.take_append_drop 24 ((words1.drop 24).drop 24), List.all_append, w_t3, w_t4]
  rfl
set_option maxRecDepth 65536 in
theorem w_rest : rest_1_c.before args0 about1 = true := by decide +kernel
set_option maxRecDepth 65536 in
theorem w_case : (Jvm.Cond.and given_1 narrow_1).before args0 about1 = true := by decide +kernel
set_option maxRecDepth 65536 in
theorem w_consts : constsHeld consts_1 about1 := Jvm.Lit.constsHeldB_iff.mp (by decide +kernel)
theorem w_applies : (headSpec (Jvm.Cond.code x code maxLocals ret :: tables_1) room_1).applies x e0.platform about1 = true :=
  (Spec.applies_iff w_frames).mpr ⟨w_running, w_runnable, w_alone, w_named, w_hears, w_ripe, w_room, w_tables⟩
theorem atStart : AtStart classFile x code maxLocals ret World_1 tables_1 room_1 Calls_1 rest_1 Pre_1 launch0 p0 e0 about1 theMethod args0 below0 :=
  ⟨lists_1, trivial, launch0.admits_env _ _ _, launch0.least_env, fairChoices_fair.cas, fairChoices_fair.clock, w_frames, w_args, w_heap, w_applies, ⟨w_consts, trivial⟩, w_rest, w_case⟩
end start1
theorem witness_1 : WitnessClaimed_1 := ⟨start1.p0, start1.e0, start1.about1, start1.theMethod, start1.args0, start1.below0, start1.atStart⟩
end Jvm.Pilot.@@N@@
