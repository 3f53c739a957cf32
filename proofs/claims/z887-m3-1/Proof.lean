import JvmDerived
import JvmDerived.Pilot.@@N@@Statement
import JvmDerived.Pilot.@@N@@Code
set_option linter.unusedVariables false
set_option linter.unusedSimpArgs false
@@BLOCK:NumsL.lean.txt@@
namespace Jvm.RoadKit
open Sem ClassFile Op Lib Jvm.Stand Jvm.Free Jvm.LawKit
section New
variable {p : Program} {l : Launch} {e : Env} {R : Room} {s : State} {m : MethodId} {args : Array Value} {below : List Frame} {meth : Method} {c : Code} {T T' : State} {locs : List Loc} {cells slots : Nat}
theorem retI (X : Stand p l e R s m args below meth c T locs cells slots) (hx : p.tables.exec = Jvm.exec) {pc : Nat} {Ls : Array Slot} {z : Int32} {rest : List Value} (hret : meth.sig.returnType = some .int) (hd : decode c.code pc = .ok (.ireturn, 1)) {fs : List Frame}
    (hl : ∀ (f : JFrame) (acts : List Action), f.method = m → f.locked = none → f.entered = [] → (doReturn e (T.setTop f) acts (some (.int z))).1 = T.setFrames fs) : Steps p.tables e below (T.setTop (mkF m pc Ls (.int z :: rest))) (T.setFrames fs) :=
  retOut X hx hret rfl (Or.inl ⟨rfl, Or.inl rfl, _, rfl⟩) hd hl
theorem retL (X : Stand p l e R s m args below meth c T locs cells slots) (hx : p.tables.exec = Jvm.exec) {pc : Nat} {Ls : Array Slot} {z : Int64} {rest : List Value} (hret : meth.sig.returnType = some .long) (hd : decode c.code pc = .ok (.lreturn, 1)) {fs : List Frame}
    (hl : ∀ (f : JFrame) (acts : List Action), f.method = m → f.locked = none → f.entered = [] → (doReturn e (T.setTop f) acts (some (.long z))).1 = T.setFrames fs) : Steps p.tables e below (T.setTop (mkF m pc Ls (.long z :: rest))) (T.setFrames fs) :=
  retOut X hx hret rfl (Or.inr (Or.inl ⟨rfl, rfl, _, rfl⟩)) hd hl
theorem retA (X : Stand p l e R s m args below meth c T locs cells slots) (hx : p.tables.exec = Jvm.exec) {pc : Nat} {Ls : Array Slot} {w : Value} {t : FieldType} {rest : List Value} (hret : meth.sig.returnType = some t) (ht : t.isReference = true) (hw : w.isRef = true) (hd : decode c.code pc = .ok (.areturn, 1)) {fs : List Frame}
    (hl : ∀ (f : JFrame) (acts : List Action), f.method = m → f.locked = none → f.entered = [] → (doReturn e (T.setTop f) acts (some w)).1 = T.setFrames fs) : Steps p.tables e below (T.setTop (mkF m pc Ls (w :: rest))) (T.setFrames fs) :=
  retOut X hx hret (by rcases ref_cases hw with rfl | ⟨a, rfl⟩ <;> cases t <;> first | rfl | cases ht) (Or.inr (Or.inr (Or.inr (Or.inr ⟨rfl, ht, hw⟩)))) hd hl
theorem mvMN {Z : State} {a0 args : Array Value} {own host : String} {y : MethodName} {index : Nat} (hZ : Z.Warmed39 s.vm) (w : (Cond.methodLinkNest own index y host).before a0 Z = true) : (Cond.methodLinkNest own index y host).before args s = true := (Cond.methodLinkNest_wide hZ w :)
/-! the walk by continuations -/
variable {W : State → Prop} {g g' : JFrame}
def Goes (p : Program) (e : Env) (below : List Frame) (W : State → Prop) (T : State) (g : JFrame) : Prop := ∃ t, Steps p.tables e below (T.setTop g) t ∧ W t
def EndW (s : State) (below : List Frame) (Q : Option Value → Heap → List Loc → Prop) (k n : Nat) (t : State) : Prop := t.status = .running ∧ ∃ o, Ended t below o ∧ ∃ v L, o = .returned v ∧ Q v t.heap L ∧ FrameEnd s o t L k n
theorem Goes.on (k : Goes p e below W T' g') (h : ∀ t, Steps p.tables e below (T'.setTop g') t → Steps p.tables e below (T.setTop g) t) : Goes p e below W T g := by
  obtain ⟨t, h1, h2⟩ := k; exact ⟨t, h t h1, h2⟩
theorem Goes.done {Q : Option Value → Heap → List Loc → Prop} {k n : Nat} (h : Goes p e below (EndW s below Q k n) T g) :
    ∃ s₂ o, Steps p.tables e below (T.setTop g) s₂ ∧ s₂.status = .running ∧ Ended s₂ below o ∧ ∃ v L, o = .returned v ∧ Q v s₂.heap L ∧ FrameEnd s o s₂ L k n := by
  obtain ⟨t, h1, h2, o, h3, h4⟩ := h; exact ⟨t, o, h1, h2, h3, h4⟩
theorem Goes.retn {Q : Option Value → Heap → List Loc → Prop} {k n : Nat} (X : Stand p l e R s m args below meth c T locs cells slots) {v : Option Value}
    (st : ∀ fs, (∀ (f : JFrame) (acts : List Action), f.method = m → f.locked = none → f.entered = [] → (doReturn e (T.setTop f) acts v).1 = T.setFrames fs) → Steps p.tables e below (T.setTop g) (T.setFrames fs))
    (hv : meth.sig.returnType = none → v = none) (hlocks : meth.locks = false) (hk : cells ≤ k) (hn : slots ≤ n) (hQ : Q v T.heap locs) : Goes p e below (EndW s below Q k n) T g := by
  obtain ⟨fs, hr, hrun, hended, hW, hsame⟩ := X.leave hv hlocks
  exact ⟨_, st fs hr, hrun, _, hended, _, _, rfl, hQ, ⟨_, rfl⟩, hW, hsame.mono hk hn⟩
theorem cmp_eq (x y : Int32) : if_icmp.holds .eq x y = decide (x = y) := by by_cases h : x = y <;> simp [h, (teq · |>.1), (feq · |>.1)]
theorem cmp_ne (x y : Int32) : if_icmp.holds .ne x y = !decide (x = y) := by by_cases h : x = y <;> simp [h, (teq · |>.2), (feq · |>.2)]
theorem cmp_lt (x y : Int32) : if_icmp.holds .lt x y = decide (x < y) := by simp [if_icmp.holds]
theorem cmp_ge (x y : Int32) : if_icmp.holds .ge x y = !decide (x < y) := by by_cases h : x < y <;> simp [h, (tlt · |>.2.1), (flt · |>.2.1)]
theorem cmp_gt (x y : Int32) : if_icmp.holds .gt x y = decide (y < x) := by by_cases h : y < x <;> simp [h, (tlt · |>.2.2.1), (flt · |>.2.2.1)]
theorem cmp_le (x y : Int32) : if_icmp.holds .le x y = !decide (y < x) := by by_cases h : y < x <;> simp [h, (tlt · |>.2.2.2), (flt · |>.2.2.2)]
theorem ifc_eq (x y : Int32) (h : y = 0 := by rfl) : ifCond.holds .eq x = decide (x = y) := by subst h; rw [if0, cmp_eq]
theorem ifc_ne (x y : Int32) (h : y = 0 := by rfl) : ifCond.holds .ne x = !decide (x = y) := by subst h; rw [if0, cmp_ne]
theorem ifc_lt (x y : Int32) (h : y = 0 := by rfl) : ifCond.holds .lt x = decide (x < y) := by subst h; rw [if0, cmp_lt]
theorem ifc_ge (x y : Int32) (h : y = 0 := by rfl) : ifCond.holds .ge x = !decide (x < y) := by subst h; rw [if0, cmp_ge]
theorem ifc_gt (x y : Int32) (h : y = 0 := by rfl) : ifCond.holds .gt x = decide (y < x) := by subst h; rw [if0, cmp_gt]
theorem ifc_le (x y : Int32) (h : y = 0 := by rfl) : ifCond.holds .le x = !decide (y < x) := by subst h; rw [if0, cmp_le]
theorem Goes.icmpP (X : Stand p l e R s m args below meth c T locs cells slots) (hx : p.tables.exec = Jvm.exec) (hg : g.method = m) {cd : ClassFile.Cond} {o : Int} {x y : Int32} {rest : List Value} {pc0 pc' : Nat} (hpc : g.pc = pc0) (hd : decode c.code g.pc = .ok (.if_icmp cd o, 3)) (hs : g.stack = .int y :: .int x :: rest) (ho : 0 ≤ (pc0 : Int) + o) (hp : ((pc0 : Int) + o).toNat = pc') {P : Prop} [Decidable P] (hP : if_icmp.holds cd x y = decide P)
    (yes : P → Goes p e below W T { g with pc := pc', stack := rest }) (no : ¬ P → Goes p e below W T { g with pc := g.pc + 3, stack := rest }) : Goes p e below W T g := by
  by_cases h : P
  · exact (yes h).on fun t k => XS.icmpYes X.here hx hg hpc hd hs (by rw [hP]; exact decide_eq_true h) ho hp k
  · exact (no h).on fun t k => XS.icmpNo X.here hx hg hd hs (by rw [hP]; exact decide_eq_false h) k
theorem Goes.icmpN (X : Stand p l e R s m args below meth c T locs cells slots) (hx : p.tables.exec = Jvm.exec) (hg : g.method = m) {cd : ClassFile.Cond} {o : Int} {x y : Int32} {rest : List Value} {pc0 pc' : Nat} (hpc : g.pc = pc0) (hd : decode c.code g.pc = .ok (.if_icmp cd o, 3)) (hs : g.stack = .int y :: .int x :: rest) (ho : 0 ≤ (pc0 : Int) + o) (hp : ((pc0 : Int) + o).toNat = pc') {P : Prop} [Decidable P] (hP : if_icmp.holds cd x y = !decide P)
    (yes : ¬ P → Goes p e below W T { g with pc := pc', stack := rest }) (no : P → Goes p e below W T { g with pc := g.pc + 3, stack := rest }) : Goes p e below W T g := by
  by_cases h : P
  · exact (no h).on fun t k => XS.icmpNo X.here hx hg hd hs (by rw [hP, decide_eq_true h]; rfl) k
  · exact (yes h).on fun t k => XS.icmpYes X.here hx hg hpc hd hs (by rw [hP, decide_eq_false h]; rfl) ho hp k
theorem Goes.ifP (X : Stand p l e R s m args below meth c T locs cells slots) (hx : p.tables.exec = Jvm.exec) (hg : g.method = m) {cd : ClassFile.Cond} {o : Int} {x : Int32} {rest : List Value} {pc0 pc' : Nat} (hpc : g.pc = pc0) (hd : decode c.code g.pc = .ok (.ifCond cd o, 3)) (hs : g.stack = .int x :: rest) (ho : 0 ≤ (pc0 : Int) + o) (hp : ((pc0 : Int) + o).toNat = pc') {P : Prop} [Decidable P] (hP : ifCond.holds cd x = decide P)
    (yes : P → Goes p e below W T { g with pc := pc', stack := rest }) (no : ¬ P → Goes p e below W T { g with pc := g.pc + 3, stack := rest }) : Goes p e below W T g := by
  by_cases h : P
  · exact (yes h).on fun t k => XS.ifYes X.here hx hg hpc hd hs (by rw [hP]; exact decide_eq_true h) ho hp k
  · exact (no h).on fun t k => XS.ifNo X.here hx hg hd hs (by rw [hP]; exact decide_eq_false h) k
theorem Goes.ifN (X : Stand p l e R s m args below meth c T locs cells slots) (hx : p.tables.exec = Jvm.exec) (hg : g.method = m) {cd : ClassFile.Cond} {o : Int} {x : Int32} {rest : List Value} {pc0 pc' : Nat} (hpc : g.pc = pc0) (hd : decode c.code g.pc = .ok (.ifCond cd o, 3)) (hs : g.stack = .int x :: rest) (ho : 0 ≤ (pc0 : Int) + o) (hp : ((pc0 : Int) + o).toNat = pc') {P : Prop} [Decidable P] (hP : ifCond.holds cd x = !decide P)
    (yes : ¬ P → Goes p e below W T { g with pc := pc', stack := rest }) (no : P → Goes p e below W T { g with pc := g.pc + 3, stack := rest }) : Goes p e below W T g := by
  by_cases h : P
  · exact (no h).on fun t k => XS.ifNo X.here hx hg hd hs (by rw [hP, decide_eq_true h]; rfl) k
  · exact (yes h).on fun t k => XS.ifYes X.here hx hg hpc hd hs (by rw [hP, decide_eq_false h]; rfl) ho hp k
theorem Goes.acmpR (X : Stand p l e R s m args below meth c T locs cells slots) (hx : p.tables.exec = Jvm.exec) (hg : g.method = m) {cd : ACond} {o : Int} {a b : Addr} {rest : List Value} {pc0 pcE pcN : Nat} (hpc : g.pc = pc0) (hd : decode c.code g.pc = .ok (.if_acmp cd o, 3)) (hs : g.stack = .ref b :: .ref a :: rest) (ho : 0 ≤ (pc0 : Int) + o)
    (hE : pcE = if acV cd true = true then ((pc0 : Int) + o).toNat else pc0 + 3) (hN : pcN = if acV cd false = true then ((pc0 : Int) + o).toNat else pc0 + 3)
    (eq : a = b → Goes p e below W T { g with pc := pcE, stack := rest }) (ne : ¬ a = b → Goes p e below W T { g with pc := pcN, stack := rest }) : Goes p e below W T g := by
  by_cases h : a = b
  · exact (eq h).on fun t k => Jvm.RoadKit.acmp X hx hg rfl rfl hpc hd hs (decide_eq_true (congrArg Value.ref h)) ho hE k
  · exact (ne h).on fun t k => Jvm.RoadKit.acmp X hx hg rfl rfl hpc hd hs (decide_eq_false fun q => h (Value.ref.inj q)) ho hN k
/-! the same where String constants may be loaded cold -/
def EndWW (s : State) (below : List Frame) (Q : Option Value → Heap → List Loc → Prop) (k n : Nat) (t : State) : Prop := t.status = .running ∧ ∃ o, Ended t below o ∧ ∃ v L, o = .returned v ∧ Q v t.heap L ∧ ReturnedEndW s o t L k n
theorem Goes.doneW {Q : Option Value → Heap → List Loc → Prop} {k n : Nat} (h : Goes p e below (EndWW s below Q k n) T g) :
    ∃ s₂ o, Steps p.tables e below (T.setTop g) s₂ ∧ s₂.status = .running ∧ Ended s₂ below o ∧ ∃ v L, o = .returned v ∧ Q v s₂.heap L ∧ ReturnedEndW s o s₂ L k n := by
  obtain ⟨t, h1, h2, o, h3, h4⟩ := h; exact ⟨t, o, h1, h2, h3, h4⟩
theorem Goes.retnW {Q : Option Value → Heap → List Loc → Prop} {k n n1 : Nat} {vm₁ : Vm} (X : Stand p l e R (s.setVm vm₁) m args below meth c T locs cells slots) (hS : s.Since vm₁ n1) (hle : n1 ≤ T.heap.size) {v : Option Value}
    (st : ∀ fs, (∀ (f : JFrame) (acts : List Action), f.method = m → f.locked = none → f.entered = [] → (doReturn e (T.setTop f) acts v).1 = T.setFrames fs) → Steps p.tables e below (T.setTop g) (T.setFrames fs))
    (hv : meth.sig.returnType = none → v = none) (hlocks : meth.locks = false) (hk : cells ≤ k) (hn : slots ≤ n) (hQ : Q v T.heap locs) : Goes p e below (EndWW s below Q k n) T g := by
  obtain ⟨fs, hr, hrun, hended, hW⟩ := X.leaveW hS hle hv hlocks
  exact ⟨_, st fs hr, hrun, _, hended, _, _, rfl, hQ, hW.1, hW.2.1, hW.2.2.1, hW.2.2.2.mono hk hn⟩
/-! the same in a callee whose start may have interned: the invariant of the constants held goes with it -/
def EndWH (Z : State) (EL : List (String × Nat)) (s : State) (below : List Frame) (Q : Option Value → Heap → List Loc → Prop) (k n : Nat) (t : State) : Prop := t.status = .running ∧ ∃ o, Ended t below o ∧ ∃ v L, o = .returned v ∧ Q v t.heap L ∧ CHr Z EL s.vm s.heap t.vm t.heap ∧ ReturnedEndW s o t L k n
theorem Goes.doneH {Z : State} {EL : List (String × Nat)} {Q : Option Value → Heap → List Loc → Prop} {k n : Nat} (h : Goes p e below (EndWH Z EL s below Q k n) T g) :
    ∃ s₂ o, Steps p.tables e below (T.setTop g) s₂ ∧ s₂.status = .running ∧ Ended s₂ below o ∧ ∃ v L, o = .returned v ∧ Q v s₂.heap L ∧ CHr Z EL s.vm s.heap s₂.vm s₂.heap ∧ ReturnedEndW s o s₂ L k n := by
  obtain ⟨t, h1, h2, o, h3, h4⟩ := h; exact ⟨t, o, h1, h2, h3, h4⟩
theorem Goes.retnH {Z : State} {a0 : Array Value} {EL : List (String × Nat)} {h0 h : Heap} {Q : Option Value → Heap → List Loc → Prop} {k n n1 : Nat} {vm₁ : Vm} (X : Stand p l e R (s.setVm vm₁) m args below meth c T locs cells slots) (hS : s.Since vm₁ n1) (eT : T.heap = h) (hle : n1 ≤ h.size) (hZ : Z.Warmed39 vm₁) (hEL : EW Z a0 EL) (hh : s.heap = h0) (C : CHr Z EL s.vm h0 vm₁ h) {v : Option Value}
    (st : ∀ fs, (∀ (f : JFrame) (acts : List Action), f.method = m → f.locked = none → f.entered = [] → (doReturn e (T.setTop f) acts v).1 = T.setFrames fs) → Steps p.tables e below (T.setTop g) (T.setFrames fs))
    (hv : meth.sig.returnType = none → v = none) (hlocks : meth.locks = false) (hk : cells ≤ k) (hn : slots ≤ n) (hQ : Q v T.heap locs) : Goes p e below (EndWH Z EL s below Q k n) T g := by
  subst eT
  obtain ⟨fs, hr, hrun, hended, hW⟩ := X.leaveW hS hle hv hlocks
  exact ⟨_, st fs hr, hrun, _, hended, _, _, rfl, hQ, by rw [hh]; have q := C.trans (CHv.at X hZ hEL C.1); exact q, hW.1, hW.2.1, hW.2.2.1, hW.2.2.2.mono hk hn⟩
/-- a contract that keeps the invariant, as a way back; xs: what must be no constant's -/
theorem backSH {Z : State} {a0 : Array Value} {EL : List (String × Nat)} {h : Heap} {vm0 : Vm} {y : MethodName} {bytes : ByteArray} {maxL : Nat} {ret : Option FieldType} {rm : Room} {len W : Nat} {as' : Array Value} {xs : List Addr} {Q : Option Value → Heap → List Loc → Prop}
    (hM : MetFree l y (head1 [Cond.code y bytes maxL ret] rm) (fun a U => a = as' ∧ Z.Warmed39 U.vm ∧ U.heap = h ∧ CHv Z EL U.vm h ∧ ∀ y ∈ xs, Safe Z EL U.vm h y) (fun _ _ _ _ _ => True) (fun _ U o U' => ∃ v L, o = .returned v ∧ Q v U'.heap L ∧ CHr Z EL U.vm U.heap U'.vm U'.heap ∧ ReturnedEndW U o U' L rm.cells rm.slots))
    (hZ : Z.Warmed39 vm0) (wc : (Cond.code y bytes maxL ret).before a0 Z = true) (wz : (Cond.initialized y.cls).before a0 Z = true) (hf : rm.frames + 1 ≤ R.frames) (hl : W + (maxL + 11) + rm.locals ≤ R.locals) (hEL : EW Z a0 EL) (H : CHv Z EL vm0 h) (hs : ∀ y ∈ xs, y < h.size ∧ Safe Z EL vm0 h y) :
    BackS l R p e below (s.setVm vm0) args y len W (fun A a => a = as' ∧ A.U.heap = h ∧ A.cells + rm.cells ≤ R.cells ∧ A.slots + rm.slots ≤ R.slots)
      (fun A _ v B => ∃ L, Q v B.U.heap L ∧ B.locs = A.locs ++ L ∧ B.cells = A.cells + rm.cells ∧ B.slots = A.slots + rm.slots ∧ CHr Z EL vm0 h B.U.vm B.U.heap) :=
  BackS.of_freeW (bytes := bytes) (maxL := maxL) (ret := ret) (E := fun _ first o t L k n => k = rm.cells ∧ n = rm.slots ∧ (∃ v, o = .returned v ∧ Q v t.heap L) ∧ CHr Z EL first.vm first.heap t.vm t.heap) hM hf hl
    (fun m meth c A a Y hp => have hU : Z.Warmed39 A.U.vm := wtrans (s := s.setVm vm0) hZ Y.warmed
      ⟨by show (Cond.and _ .tt).before a A.U = true; rw [Cond.before_and, mv hU wc]; rfl, mv hU wc, mv hU wz, hp.2.2.1, hp.2.2.2⟩)
    (fun m meth c A a g mk Y hp => ⟨hp.1, wtrans (s := s.setVm vm0) hZ Y.warmed, hp.2.1, (CHv.at Y hZ hEL H).1, fun y hy => (CHv.at Y hZ hEL H).safe (hs y hy).1 (hs y hy).2⟩) (fun _ _ _ _ _ _ _ _ _ => trivial)
    (fun _ _ _ _ ⟨v, L, h1, h2, h3, h4⟩ => ⟨L, _, _, h4, rfl, rfl, ⟨v, h1, h2⟩, h3⟩)
    (fun m meth c A a g mk v t L k n Y hp _ _ ⟨e1, e2, ⟨v', e3, e4⟩, e5⟩ => by
      cases e3; subst e1 e2
      refine ⟨L, e4, rfl, rfl, rfl, (CHv.at Y hZ hEL H).trans ?_⟩
      rw [← hp.2.1]; exact e5)
theorem own_sfC {P : Addr → Prop} {x : Addr} {xs : List Addr} (h : P x) (k : ∀ y ∈ xs, P y) : ∀ y ∈ x :: xs, P y := fun y hy => by
  rcases List.mem_cons.mp hy with rfl | hy
  · exact h
  · exact k y hy
end New
end Jvm.RoadKit
/- laws to paste: Road.backV (cut by pick.py; bodies as the Statement names them) -/
namespace Jvm.Pilot.@@N@@
namespace StrChars
open Jvm Sem ClassFile Op Lib Jvm.Stand Jvm.Free.XT Jvm.Free.ALB Jvm.Free.JM Jvm.Free
open Jvm.Lib.Cold (StaticIs)
/-- a char array whose places are chars -/
def Ch (a : Addr) (A : Cell) (U : State) : Prop := Arr .char a A U ∧ Typed .char A
theorem Ch.mv {a : Addr} {A : Cell} {U U' : State} (h : Ch a A U) (hal : U.vm.Alike U'.vm) (hh : U'.heap = U.heap) : Ch a A U' := ⟨h.1.mv hal hh, h.2⟩
theorem Ch.keep {a : Addr} {A : Cell} {U U' : State} (h : Ch a A U) (hal : U.vm.Alike U'.vm) (hk : U'.heap[a]? = some A) : Ch a A U' := ⟨h.1.keep hal hk, h.2⟩
/-- what place i of a char[]'s cell holds -/
def cv (A : Cell) (i : Nat) : Int32 := match A.slots[i]? with | some (.int x) => x | _ => 0
theorem Ch.get {a : Addr} {A : Cell} {U : State} (h : Ch a A U) {i : Nat} (hi : i < A.slots.size) : A.slots[i]? = some (.int (cv A i)) := by
  have e := Array.getElem?_eq_getElem hi
  have f := h.2 i _ e
  unfold cv; rw [e]
  generalize A.slots[i] = v at f
  cases v <;> simp [fits] at f ⊢
/-- the byte that i2b leaves of a char -/
def lo8 (x : Int32) : Int32 := x.toInt8.toInt32
theorem fits_lo8 (y : Int32) : fits .byte (.int (lo8 y)) = true := by
  have h1 := y.toInt8.le_toInt
  have h2 := y.toInt8.toInt_lt
  simp only [lo8, fits, Bool.and_eq_true, decide_eq_true_eq, Int32.le_iff_toInt_le, Int8.toInt_toInt32, show (-128 : Int32).toInt = -128 from by decide, show (127 : Int32).toInt = 127 from by decide]
  omega
/-- A' is A but that each place j of lo .. hi - 1 holds f j -/
def Laid (A A' : Cell) (lo hi : Nat) (f : Nat → Value) : Prop := A'.cls = A.cls ∧ A'.vm = A.vm ∧ A'.slots.size = A.slots.size ∧ ∀ i, A'.slots[i]? = if lo ≤ i ∧ i < hi then some (f i) else A.slots[i]?
theorem Laid.zero (A : Cell) (lo : Nat) (f : Nat → Value) : Laid A A lo (lo + 0) f := ⟨rfl, rfl, rfl, fun i => by rw [if_neg (by omega)]⟩
theorem Laid.step {A Ak : Cell} {lo k : Nat} {f : Nat → Value} {v : Value} (h : Laid A Ak lo k f) (hlo : lo ≤ k) (hk : k < Ak.slots.size) (hv : v = f k) : Laid A (Ak.setSlot k v) lo (k + 1) f := by
  refine ⟨h.1, h.2.1, by simpa [Cell.setSlot] using h.2.2.1, fun i => ?_⟩
  by_cases e : k = i
  · subst e; rw [Cell.slots_setSlot_self v hk, if_pos (by omega), hv]
  · rw [Cell.slots_setSlot_ne v e, h.2.2.2 i]
    by_cases q : lo ≤ i ∧ i < k
    · rw [if_pos q, if_pos (by omega)]
    · rw [if_neg q, if_neg (by omega)]
def U16 : String := "java/lang/StringUTF16"
namespace Cmp5
def yN : MethodName := ⟨"java/lang/StringUTF16", "compress", "([CI[BII)I"⟩
abbrev yB : ByteArray := jdk_52_method_21_code
theorem d0 : decode yB 0 = .ok (.iconst 0, 1) := by decide +kernel
theorem d1 : decode yB 1 = .ok (.istore 5, 2) := by decide +kernel
theorem d3 : decode yB 3 = .ok (.iload 5, 2) := by decide +kernel
theorem d5 : decode yB 5 = .ok (.iload 4, 2) := by decide +kernel
theorem d7 : decode yB 7 = .ok (.if_icmp (.ge) 37, 3) := by decide +kernel
theorem d10 : decode yB 10 = .ok (.aload_n 0, 1) := by decide +kernel
theorem d11 : decode yB 11 = .ok (.iload_n 1, 1) := by decide +kernel
theorem d12 : decode yB 12 = .ok (.caload, 1) := by decide +kernel
theorem d13 : decode yB 13 = .ok (.istore 6, 2) := by decide +kernel
theorem d15 : decode yB 15 = .ok (.iload 6, 2) := by decide +kernel
theorem d17 : decode yB 17 = .ok (.sipush 255, 3) := by decide +kernel
theorem d20 : decode yB 20 = .ok (.if_icmp (.le) 6, 3) := by decide +kernel
theorem d26 : decode yB 26 = .ok (.aload_n 2, 1) := by decide +kernel
theorem d27 : decode yB 27 = .ok (.iload_n 3, 1) := by decide +kernel
theorem d28 : decode yB 28 = .ok (.iload 6, 2) := by decide +kernel
theorem d30 : decode yB 30 = .ok (.i2b, 1) := by decide +kernel
theorem d31 : decode yB 31 = .ok (.bastore, 1) := by decide +kernel
theorem d32 : decode yB 32 = .ok (.iinc 1 1, 3) := by decide +kernel
theorem d35 : decode yB 35 = .ok (.iinc 3 1, 3) := by decide +kernel
theorem d38 : decode yB 38 = .ok (.iinc 5 1, 3) := by decide +kernel
theorem d41 : decode yB 41 = .ok (.goto (-38), 3) := by decide +kernel
theorem d44 : decode yB 44 = .ok (.iload 4, 2) := by decide +kernel
theorem d46 : decode yB 46 = .ok (.ireturn, 1) := by decide +kernel
def site : List Cond := []
def tab : Cond := tabOf yN yB 7 (some .int) site
def P (b : Addr) (A : Cell) (d : Addr) (B : Cell) (o q len : Nat) (args : Array Value) (s : State) : Prop := args = #[.ref b, .int (Int32.ofNat o), .ref d, .int (Int32.ofNat q), .int (Int32.ofNat len)] ∧ Ch b A s ∧ Arr .byte d B s ∧ b ≠ d ∧ o + len ≤ A.slots.size ∧ q + len ≤ B.slots.size ∧ ∀ i, i < len → ¬ 255 < cv A (o + i)
def E (b : Addr) (A : Cell) (d : Addr) (B : Cell) (o q len : Nat) (r : Option Value) (s u : State) : Prop := r = some (.int (Int32.ofNat len)) ∧ ∃ B', Put d B' s u ∧ Laid B B' q (q + len) (fun j => Value.int (lo8 (cv A (o + (j - q)))))
/-- no char of the range above 255: len; the places written hold each char's low byte -/
theorem law (l : Launch) (b : Addr) (A : Cell) (d : Addr) (B : Cell) (o q len : Nat) : Law l yN 5 5 0 0 yB 7 (some .int) site (P b A d B o q len) (E b A d B o q len) (copyLocs d q len) 0 0 := by
  refine Law.of_walk (plainFor_of_name (by decide +kernel)) (by decide +kernel) (by decide +kernel) (by decide) (fun _ _ h => by rw [h.1]; rfl) (fun _ U U' hal hh h => ⟨h.1, h.2.1.mv hal hh, h.2.2.1.mv hal hh, h.2.2.2⟩) (fun r U U' V V' h1 hal h2 h => ⟨h.1, h.2.elim fun B' q => ⟨B', q.1.mv h1 h2, q.2⟩⟩) ?_
  intro p e s m args below meth c s₁ X0 hexec hbytes hml hret hlk hnm hown hh0 W hP
  obtain ⟨rfl, hA, hB, hne, l1, l2, hp⟩ := hP
  have c1 : Steps p.tables e below (s₁.setTop (entryFrame m #[.ref b, .int (Int32.ofNat o), .ref d, .int (Int32.ofNat q), .int (Int32.ofNat len)] 7)) (s₁.setTop (mkF m 0 #[.val (.ref b), .val (.int (Int32.ofNat o)), .val (.ref d), .val (.int (Int32.ofNat q)), .val (.int (Int32.ofNat len)), .unset, .unset] [])) := entry rfl
  have hA0 := hA.1.mv X0.warmed.alike hh0
  have hB0 := hB.mv X0.warmed.alike hh0
  have a31 := hA.1.2.2.2
  have c2 : Steps p.tables e below (s₁.setTop (entryFrame m #[.ref b, .int (Int32.ofNat o), .ref d, .int (Int32.ofNat q), .int (Int32.ofNat len)] 7)) (s₁.setTop (mkF m 3 #[.val (.ref b), .val (.int (Int32.ofNat o)), .val (.ref d), .val (.int (Int32.ofNat q)), .val (.int (Int32.ofNat len)), .val (.int 0), .unset] [])) := c1.trans (by
    refine iconstV X0.here hexec rfl 0 (hb hbytes d0) (by decide) ?_
    refine XS.istore X0.here hexec rfl (hb hbytes d1) rfl rfl ?_
    exact Steps.refl _)
  have loop : ∀ (r i : Nat), i + r = len → ∀ (z : Slot), (z = .unset ∨ ∃ w, z = .val w ∧ w.category = 1) → ∀ (Tl : State) (Bk : Cell), Stand p l e { frames := 0, locals := 0, cells := 0, slots := 0 } s m #[.ref b, .int (Int32.ofNat o), .ref d, .int (Int32.ofNat q), .int (Int32.ofNat len)] below meth c Tl ([] ++ copyLocs d q i) 0 0 → Put d Bk s₁ Tl → Laid B Bk q (q + i) (fun j => Value.int (lo8 (cv A (o + (j - q))))) →
      Steps p.tables e below (s₁.setTop (entryFrame m #[.ref b, .int (Int32.ofNat o), .ref d, .int (Int32.ofNat q), .int (Int32.ofNat len)] 7)) (Tl.setTop (mkF m 3 #[.val (.ref b), .val (.int (Int32.ofNat (o + i))), .val (.ref d), .val (.int (Int32.ofNat (q + i))), .val (.int (Int32.ofNat len)), .val (.int (Int32.ofNat i)), z] [])) → ∃ (T' : State) (B' : Cell) (z' : Slot), Stand p l e { frames := 0, locals := 0, cells := 0, slots := 0 } s m #[.ref b, .int (Int32.ofNat o), .ref d, .int (Int32.ofNat q), .int (Int32.ofNat len)] below meth c T' ([] ++ copyLocs d q len) 0 0 ∧ Put d B' s₁ T' ∧ Laid B B' q (q + len) (fun j => Value.int (lo8 (cv A (o + (j - q))))) ∧
      Steps p.tables e below (s₁.setTop (entryFrame m #[.ref b, .int (Int32.ofNat o), .ref d, .int (Int32.ofNat q), .int (Int32.ofNat len)] 7)) (T'.setTop (mkF m 3 #[.val (.ref b), .val (.int (Int32.ofNat (o + len))), .val (.ref d), .val (.int (Int32.ofNat (q + len))), .val (.int (Int32.ofNat len)), .val (.int (Int32.ofNat len)), z'] [])) := by
    intro r
    induction r with
    | zero =>
      intro i hi z hz Tl Bk Xl pl fl cl
      have hil : i = len := by omega
      rw [hil] at Xl fl cl
      exact ⟨Tl, Bk, z, Xl, pl, fl, cl⟩
    | succ r ih =>
      intro i hi z hz Tl Bk Xl pl fl cl
      have all := X0.warmed.alike.symm.trans Xl.warmed.alike
      have hAl := hA0.keep all (pl.other hne hA0.1)
      have hBk := hB0.like all pl.1 fl.1 fl.2.1 fl.2.2.1
      have hlt : q + i < Bk.slots.size := by rw [fl.2.2.1]; omega
      have c3 : Steps p.tables e below (s₁.setTop (entryFrame m #[.ref b, .int (Int32.ofNat o), .ref d, .int (Int32.ofNat q), .int (Int32.ofNat len)] 7)) (Tl.setTop (mkF m 12 #[.val (.ref b), .val (.int (Int32.ofNat (o + i))), .val (.ref d), .val (.int (Int32.ofNat (q + i))), .val (.int (Int32.ofNat len)), .val (.int (Int32.ofNat i)), z] [.int (Int32.ofNat (o + i)), .ref b])) := cl.trans (by
        refine XS.iload Xl.here hexec rfl (hb hbytes d3) rfl ?_
        refine XS.iload Xl.here hexec rfl (hb hbytes d5) rfl ?_
        refine XS.icmpNo Xl.here hexec rfl (hb hbytes d7) rfl (ii_ge_f (lt32 (by omega) (by omega))) ?_
        refine XS.aloadN Xl.here hexec rfl (hb hbytes d10) rfl rfl ?_
        refine XS.iloadN Xl.here hexec rfl (hb hbytes d11) rfl ?_
        exact Steps.refl _)
      have c4 : Steps p.tables e below (s₁.setTop (entryFrame m #[.ref b, .int (Int32.ofNat o), .ref d, .int (Int32.ofNat q), .int (Int32.ofNat len)] 7)) (Tl.setTop (mkF m 13 #[.val (.ref b), .val (.int (Int32.ofNat (o + i))), .val (.ref d), .val (.int (Int32.ofNat (q + i))), .val (.int (Int32.ofNat len)), .val (.int (Int32.ofNat i)), z] [.int (cv A (o + i))])) := c3.trans (by
        refine Xl.aget hexec hAl rfl (hA.get (i := o + i) (by omega)) rfl rfl (hb hbytes d12) ?_
        exact Steps.refl _)
      have c5 : Steps p.tables e below (s₁.setTop (entryFrame m #[.ref b, .int (Int32.ofNat o), .ref d, .int (Int32.ofNat q), .int (Int32.ofNat len)] 7)) (Tl.setTop (mkF m 15 #[.val (.ref b), .val (.int (Int32.ofNat (o + i))), .val (.ref d), .val (.int (Int32.ofNat (q + i))), .val (.int (Int32.ofNat len)), .val (.int (Int32.ofNat i)), .val (.int (cv A (o + i)))] [])) := c4.trans (by
        refine XS.istoreS Xl.here hexec rfl (hb hbytes d13) rfl rfl hz ?_
        exact Steps.refl _)
      have c6 : Steps p.tables e below (s₁.setTop (entryFrame m #[.ref b, .int (Int32.ofNat o), .ref d, .int (Int32.ofNat q), .int (Int32.ofNat len)] 7)) (Tl.setTop (mkF m 31 #[.val (.ref b), .val (.int (Int32.ofNat (o + i))), .val (.ref d), .val (.int (Int32.ofNat (q + i))), .val (.int (Int32.ofNat len)), .val (.int (Int32.ofNat i)), .val (.int (cv A (o + i)))] [.int (lo8 (cv A (o + i))), .int (Int32.ofNat (q + i)), .ref d])) := c5.trans (by
        refine XS.iload Xl.here hexec rfl (hb hbytes d15) rfl ?_
        refine sipushV Xl.here hexec rfl 255 (hb hbytes d17) (by decide) ?_
        refine XS.icmpYes Xl.here hexec rfl (pc0 := 20) rfl (hb hbytes d20) rfl (ii_le_t (hp i (by omega))) (by decide) rfl ?_
        refine XS.aloadN Xl.here hexec rfl (hb hbytes d26) rfl rfl ?_
        refine XS.iloadN Xl.here hexec rfl (hb hbytes d27) rfl ?_
        refine XS.iload Xl.here hexec rfl (hb hbytes d28) rfl ?_
        refine i2b Xl.here hexec rfl (hb hbytes d30) rfl ?_
        exact Steps.refl _)
      obtain ⟨T7, X7, p7, st7⟩ := Xl.aput hexec hBk rfl hlt rfl (fits_lo8 (cv A (o + i))) (g := (mkF m 31 #[.val (.ref b), .val (.int (Int32.ofNat (o + i))), .val (.ref d), .val (.int (Int32.ofNat (q + i))), .val (.int (Int32.ofNat len)), .val (.int (Int32.ofNat i)), .val (.int (cv A (o + i)))] [.int (lo8 (cv A (o + i))), .int (Int32.ofNat (q + i)), .ref d])) rfl (rest := []) rfl (hb hbytes d31)
      have c8 : Steps p.tables e below (s₁.setTop (entryFrame m #[.ref b, .int (Int32.ofNat o), .ref d, .int (Int32.ofNat q), .int (Int32.ofNat len)] 7)) (T7.setTop (mkF m 32 #[.val (.ref b), .val (.int (Int32.ofNat (o + i))), .val (.ref d), .val (.int (Int32.ofNat (q + i))), .val (.int (Int32.ofNat len)), .val (.int (Int32.ofNat i)), .val (.int (cv A (o + i)))] [])) := c6.trans (st7 _ (Steps.refl _))
      have c9 : Steps p.tables e below (s₁.setTop (entryFrame m #[.ref b, .int (Int32.ofNat o), .ref d, .int (Int32.ofNat q), .int (Int32.ofNat len)] 7)) (T7.setTop (mkF m 3 #[.val (.ref b), .val (.int (Int32.ofNat (o + i) + 1)), .val (.ref d), .val (.int (Int32.ofNat (q + i) + 1)), .val (.int (Int32.ofNat len)), .val (.int (Int32.ofNat i + 1)), .val (.int (cv A (o + i)))] [])) := c8.trans (by
        refine iincV X7.here hexec rfl 1 (hb hbytes d32) (by decide) rfl rfl ?_
        refine iincV X7.here hexec rfl 1 (hb hbytes d35) (by decide) rfl rfl ?_
        refine iincV X7.here hexec rfl 1 (hb hbytes d38) (by decide) rfl rfl ?_
        refine XS.goto X7.here hexec rfl (pc0 := 41) rfl (hb hbytes d41) (by decide) rfl ?_
        exact Steps.refl _)
      have c10 : Steps p.tables e below (s₁.setTop (entryFrame m #[.ref b, .int (Int32.ofNat o), .ref d, .int (Int32.ofNat q), .int (Int32.ofNat len)] 7)) (T7.setTop (mkF m 3 #[.val (.ref b), .val (.int (Int32.ofNat (o + (i + 1)))), .val (.ref d), .val (.int (Int32.ofNat (q + (i + 1)))), .val (.int (Int32.ofNat len)), .val (.int (Int32.ofNat (i + 1))), .val (.int (cv A (o + i)))] [])) := by
        have := c9
        rw [succ32, succ32, succ32] at this
        exact this
      exact ih (i + 1) (by omega) _ (Or.inr ⟨_, rfl, rfl⟩) T7 _ (by rw [copyLocs_step, ← List.append_assoc]; exact X7) (pl.trans p7) (fl.step (by omega) hlt (by simp)) c10
  obtain ⟨T9, B9, z9, X9, p9, f9, g9⟩ := loop len 0 (by omega) .unset (Or.inl rfl) s₁ B (by simpa [copyLocs] using X0) ⟨hB0.1, fun _ _ => rfl, rfl⟩ (Laid.zero _ _ _) c2
  have c11 : Steps p.tables e below (s₁.setTop (entryFrame m #[.ref b, .int (Int32.ofNat o), .ref d, .int (Int32.ofNat q), .int (Int32.ofNat len)] 7)) (T9.setTop (mkF m 46 #[.val (.ref b), .val (.int (Int32.ofNat (o + len))), .val (.ref d), .val (.int (Int32.ofNat (q + len))), .val (.int (Int32.ofNat len)), .val (.int (Int32.ofNat len)), z9] [.int (Int32.ofNat len)])) := g9.trans (by
    refine XS.iload X9.here hexec rfl (hb hbytes d3) rfl ?_
    refine XS.iload X9.here hexec rfl (hb hbytes d5) rfl ?_
    refine XS.icmpYes X9.here hexec rfl (pc0 := 7) rfl (hb hbytes d7) rfl (ii_ge_t (nlt32 (by omega) (Nat.le_refl _))) (by decide) rfl ?_
    refine XS.iload X9.here hexec rfl (hb hbytes d44) rfl ?_
    exact Steps.refl _)
  exact ⟨T9, some (.int (Int32.ofNat len)), _, _, _, X9, by simp, rfl, rfl, (fun h => by cases h), ⟨rfl, B9, p9.from hh0, f9⟩, fun fs hl => c11.trans (X9.ireturnOut hexec hret rfl (Or.inl rfl) (hb hbytes d46) hl)⟩
end Cmp5
namespace Cmp3
def yN : MethodName := ⟨"java/lang/StringUTF16", "compress", "([CII)[B"⟩
abbrev yB : ByteArray := jdk_52_method_16_code
theorem d0 : decode yB 0 = .ok (.iload_n 2, 1) := by decide +kernel
theorem d1 : decode yB 1 = .ok (.newarray .byte, 2) := by decide +kernel
theorem d3 : decode yB 3 = .ok (.astore_n 3, 1) := by decide +kernel
theorem d4 : decode yB 4 = .ok (.aload_n 0, 1) := by decide +kernel
theorem d5 : decode yB 5 = .ok (.iload_n 1, 1) := by decide +kernel
theorem d6 : decode yB 6 = .ok (.aload_n 3, 1) := by decide +kernel
theorem d7 : decode yB 7 = .ok (.iconst 0, 1) := by decide +kernel
theorem d8 : decode yB 8 = .ok (.iload_n 2, 1) := by decide +kernel
theorem d9 : decode yB 9 = .ok (.invokestatic 115, 3) := by decide +kernel
theorem d12 : decode yB 12 = .ok (.istore 4, 2) := by decide +kernel
theorem d14 : decode yB 14 = .ok (.iload 4, 2) := by decide +kernel
theorem d16 : decode yB 16 = .ok (.iload_n 2, 1) := by decide +kernel
theorem d17 : decode yB 17 = .ok (.if_icmp (.eq) 40, 3) := by decide +kernel
theorem d57 : decode yB 57 = .ok (.aload_n 3, 1) := by decide +kernel
theorem d58 : decode yB 58 = .ok (.areturn, 1) := by decide +kernel
def site : List Cond := [.arrayClass .byte, Cmp5.tab] ++ staticW U16 115 Cmp5.yN
def tab : Cond := tabOf yN yB 6 (some (.array .byte)) site
def P (b : Addr) (A : Cell) (o len : Nat) (args : Array Value) (s : State) : Prop := args = #[.ref b, .int (Int32.ofNat o), .int (Int32.ofNat len)] ∧ Ch b A s ∧ o + len ≤ A.slots.size ∧ len ≤ 536870912 ∧ ∀ i, i < len → ¬ 255 < cv A (o + i)
def E (b : Addr) (A : Cell) (o len : Nat) (r : Option Value) (s u : State) : Prop := NewArr .byte "[B" len (fun j => .int (lo8 (cv A (o + j)))) r s u ∧ u.heap.size = s.heap.size + 1
/-- no char of the range above 255: a new byte[] of their low bytes -/
theorem law (l : Launch) (b : Addr) (A : Cell) (o len : Nat) : Law l yN 3 3 1 18 yB 6 (some (.array .byte)) site (P b A o len) (E b A o len) [] 1 len := by
  refine Law.of_walk (plainFor_of_name (by decide +kernel)) (by decide +kernel) (by decide +kernel) (by decide) (fun _ _ h => by rw [h.1]; rfl) (fun _ U U' hal hh h => ⟨h.1, h.2.1.mv hal hh, h.2.2⟩) (fun r U U' V V' h1 hal h2 h => ⟨NewArr.mv r U U' V V' h1 hal h2 h.1, by rw [h1, h2]; exact h.2⟩) ?_
  intro p e s m args below meth c s₁ X0 hexec hbytes hml hret hlk hnm hown hh0 W hP
  obtain ⟨rfl, hA, l1, l2, hp⟩ := hP
  have a31 := hA.1.2.2.2
  have c1 : Steps p.tables e below (s₁.setTop (entryFrame m #[.ref b, .int (Int32.ofNat o), .int (Int32.ofNat len)] 6)) (s₁.setTop (mkF m 0 #[.val (.ref b), .val (.int (Int32.ofNat o)), .val (.int (Int32.ofNat len)), .unset, .unset, .unset] [])) := entry rfl
  have c2 : Steps p.tables e below (s₁.setTop (entryFrame m #[.ref b, .int (Int32.ofNat o), .int (Int32.ofNat len)] 6)) (s₁.setTop (mkF m 1 #[.val (.ref b), .val (.int (Int32.ofNat o)), .val (.int (Int32.ofNat len)), .unset, .unset, .unset] [.int (Int32.ofNat len)])) := c1.trans (by
    refine XS.iloadN X0.here hexec rfl (hb hbytes d0) rfl ?_
    exact Steps.refl _)
  obtain ⟨T3, B3, X3, ba3, bs3, bv3, bh3, bf3, st3⟩ := X0.anew hexec (atype := .byte) (wk W (.arrayClass .byte)) rfl (by show len * 1 ≤ _; omega) (by omega) (g := (mkF m 1 #[.val (.ref b), .val (.int (Int32.ofNat o)), .val (.int (Int32.ofNat len)), .unset, .unset, .unset] [.int (Int32.ofNat len)])) rfl (hb hbytes d1) (rest := []) rfl (Nat.le_refl _) (by show 0 + len ≤ len; omega)
  rw [hh0] at ba3 st3
  have kp3 : XT.Kept s T3 := (XT.Kept.of_eq hh0).push bh3
  have hA3 := hA.keep X3.warmed.alike (kp3 _ _ hA.1.1)
  have hne : b ≠ s.heap.size := hA.1.ne
  have c4 : Steps p.tables e below (s₁.setTop (entryFrame m #[.ref b, .int (Int32.ofNat o), .int (Int32.ofNat len)] 6)) (T3.setTop (mkF m 3 #[.val (.ref b), .val (.int (Int32.ofNat o)), .val (.int (Int32.ofNat len)), .unset, .unset, .unset] [.ref s.heap.size])) := c2.trans (st3 _ (Steps.refl _))
  have c5 : Steps p.tables e below (s₁.setTop (entryFrame m #[.ref b, .int (Int32.ofNat o), .int (Int32.ofNat len)] 6)) (T3.setTop (mkF m 9 #[.val (.ref b), .val (.int (Int32.ofNat o)), .val (.int (Int32.ofNat len)), .val (.ref s.heap.size), .unset, .unset] [.int (Int32.ofNat len), .int 0, .ref s.heap.size, .int (Int32.ofNat o), .ref b])) := c4.trans (by
    refine XS.astoreN X3.here hexec rfl (hb hbytes d3) rfl rfl rfl ?_
    refine XS.aloadN X3.here hexec rfl (hb hbytes d4) rfl rfl ?_
    refine XS.iloadN X3.here hexec rfl (hb hbytes d5) rfl ?_
    refine XS.aloadN X3.here hexec rfl (hb hbytes d6) rfl rfl ?_
    refine iconstV X3.here hexec rfl 0 (hb hbytes d7) (by decide) ?_
    refine XS.iloadN X3.here hexec rfl (hb hbytes d8) rfl ?_
    exact Steps.refl _)
  obtain ⟨v6, T6, X6, E6, g6⟩ := X3.callS hexec (Cmp5.law l b A s.heap.size B3 o 0 len) hown (wks W (staticW U16 115 Cmp5.yN)) (wk W Cmp5.tab) (W := 0) (Nat.le_of_ble_eq_true rfl) (Nat.le_of_ble_eq_true rfl) (Nat.le_refl _) (by show 0 + len + 0 ≤ len; omega) (g := (mkF m 9 #[.val (.ref b), .val (.int (Int32.ofNat o)), .val (.int (Int32.ofNat len)), .val (.ref s.heap.size), .unset, .unset] [.int (Int32.ofNat len), .int (Int32.ofNat 0), .ref s.heap.size, .int (Int32.ofNat o), .ref b])) rfl (by rw [hml]; rfl) c5 (argsL := [.ref b, .int (Int32.ofNat o), .ref s.heap.size, .int (Int32.ofNat 0), .int (Int32.ofNat len)]) (rest := []) rfl rfl (by show 2 * 0 + 0 ≤ _; decide) (hb hbytes d9) (⟨rfl, hA3, ba3, hne, l1, by rw [bs3]; simp, hp⟩)
  obtain ⟨rfl, B6, p6, f6⟩ := E6
  have c7 : Steps p.tables e below (s₁.setTop (entryFrame m #[.ref b, .int (Int32.ofNat o), .int (Int32.ofNat len)] 6)) (T6.setTop (mkF m 12 #[.val (.ref b), .val (.int (Int32.ofNat o)), .val (.int (Int32.ofNat len)), .val (.ref s.heap.size), .unset, .unset] [.int (Int32.ofNat len)])) := g6
  have c8 : Steps p.tables e below (s₁.setTop (entryFrame m #[.ref b, .int (Int32.ofNat o), .int (Int32.ofNat len)] 6)) (T6.setTop (mkF m 58 #[.val (.ref b), .val (.int (Int32.ofNat o)), .val (.int (Int32.ofNat len)), .val (.ref s.heap.size), .val (.int (Int32.ofNat len)), .unset] [.ref s.heap.size])) := c7.trans (by
    refine XS.istore X6.here hexec rfl (hb hbytes d12) rfl rfl ?_
    refine XS.iload X6.here hexec rfl (hb hbytes d14) rfl ?_
    refine XS.iloadN X6.here hexec rfl (hb hbytes d16) rfl ?_
    refine XS.icmpYes X6.here hexec rfl (pc0 := 17) rfl (hb hbytes d17) rfl (ii_eq_t rfl) (by decide) rfl ?_
    refine XS.aloadN X6.here hexec rfl (hb hbytes d57) rfl rfl ?_
    exact Steps.refl _)
  have X8 := X6.wide (L' := []) (cells' := 1) (slots' := len) (fun x hx hlt => by
    simp only [List.nil_append, copyLocs, List.mem_map, List.mem_range] at hx
    obtain ⟨i, -, rfl⟩ := hx
    exact absurd hlt (Nat.lt_irrefl _)) (Nat.le_refl _) (by omega)
  exact ⟨T6, some (.ref s.heap.size), _, _, _, X8, rfl, rfl, rfl, (fun h => by cases h), ⟨⟨rfl, B6, ba3.like (X3.warmed.alike.symm.trans X6.warmed.alike) p6.1 f6.1 f6.2.1 f6.2.2.1, f6.2.1.trans bv3, by rw [X6.warmed.alike.findClass, f6.1]; exact bf3, by rw [f6.2.2.1, bs3]; simp, fun j hj => by rw [f6.2.2.2 j, if_pos (by omega)]; rfl, kp3.put p6 (Nat.le_refl _)⟩, by rw [p6.2.2, bh3, hh0]; simp⟩, fun fs hl => c8.trans (X8.areturnOut hexec rfl hret rfl (hb hbytes d58) hl)⟩
end Cmp3
namespace CodL
def yN : MethodName := ⟨"java/lang/StringUTF16", "coderFromArrayLen", "([BI)B"⟩
abbrev yB : ByteArray := jdk_52_method_15_code
theorem d0 : decode yB 0 = .ok (.iload_n 1, 1) := by decide +kernel
theorem d1 : decode yB 1 = .ok (.aload_n 0, 1) := by decide +kernel
theorem d2 : decode yB 2 = .ok (.arraylength, 1) := by decide +kernel
theorem d3 : decode yB 3 = .ok (.isub, 1) := by decide +kernel
theorem d4 : decode yB 4 = .ok (.bipush 31, 2) := by decide +kernel
theorem d6 : decode yB 6 = .ok (.iushr, 1) := by decide +kernel
theorem d7 : decode yB 7 = .ok (.i2b, 1) := by decide +kernel
theorem d8 : decode yB 8 = .ok (.ireturn, 1) := by decide +kernel
def site : List Cond := []
def tab : Cond := tabOf yN yB 2 (some .byte) site
def P (d : Addr) (B : Cell) (args : Array Value) (s : State) : Prop := args = #[.ref d, .int (Int32.ofNat B.slots.size)] ∧ Arr .byte d B s
def E (r : Option Value) (s u : State) : Prop := XT.PureE (some (.int 0)) r s u
/-- an array as long as the number of chars: LATIN1 -/
theorem law (l : Launch) (d : Addr) (B : Cell) : Law l yN 2 2 0 0 yB 2 (some .byte) site (P d B) E [] 0 0 := by
  refine Law.of_walk (plainFor_of_name (by decide +kernel)) (by decide +kernel) (by decide +kernel) (by decide) (fun _ _ h => by rw [h.1]; rfl) (fun _ U U' hal hh h => ⟨h.1, h.2.mv hal hh⟩) (fun r U U' V V' h1 hal h2 h => XT.PureE.mv r U U' V V' h1 hal h2 h) ?_
  intro p e s m args below meth c s₁ X0 hexec hbytes hml hret hlk hnm hown hh0 W hP
  obtain ⟨rfl, hB⟩ := hP
  have hB0 := hB.mv X0.warmed.alike hh0
  have c1 : Steps p.tables e below (s₁.setTop (entryFrame m #[.ref d, .int (Int32.ofNat B.slots.size)] 2)) (s₁.setTop (mkF m 0 #[.val (.ref d), .val (.int (Int32.ofNat B.slots.size))] [])) := entry rfl
  have c2 : Steps p.tables e below (s₁.setTop (entryFrame m #[.ref d, .int (Int32.ofNat B.slots.size)] 2)) (s₁.setTop (mkF m 2 #[.val (.ref d), .val (.int (Int32.ofNat B.slots.size))] [.ref d, .int (Int32.ofNat B.slots.size)])) := c1.trans (by
    refine XS.iloadN X0.here hexec rfl (hb hbytes d0) rfl ?_
    refine XS.aloadN X0.here hexec rfl (hb hbytes d1) rfl rfl ?_
    exact Steps.refl _)
  have c3 : Steps p.tables e below (s₁.setTop (entryFrame m #[.ref d, .int (Int32.ofNat B.slots.size)] 2)) (s₁.setTop (mkF m 8 #[.val (.ref d), .val (.int (Int32.ofNat B.slots.size))] [.int (lo8 (ushr (Int32.ofNat B.slots.size - Int32.ofNat B.slots.size) 31))])) := c2.trans (by
    refine X0.alen hexec hB0 rfl rfl (hb hbytes d2) ?_
    refine XS.isub X0.here hexec rfl (hb hbytes d3) rfl ?_
    refine bipushV X0.here hexec rfl 31 (hb hbytes d4) (by decide) ?_
    refine iushr X0.here hexec rfl (hb hbytes d6) rfl ?_
    refine i2b X0.here hexec rfl (hb hbytes d7) rfl ?_
    exact Steps.refl _)
  have e0 : lo8 (ushr (Int32.ofNat B.slots.size - Int32.ofNat B.slots.size) 31) = 0 := by rw [Int32.sub_self]; decide
  rw [e0] at c3
  exact ⟨s₁, some (.int 0), _, _, _, X0, rfl, rfl, rfl, (fun h => by cases h), ⟨rfl, hh0⟩, fun fs hl => c3.trans (X0.ireturnOut hexec hret rfl (Or.inr (Or.inr (Or.inl rfl))) (hb hbytes d8) hl)⟩
end CodL
/-- the String at a is Latin-1 over a new byte[] (the heap's one new cell): the low bytes of the len chars of A from o on; every cell but a is kept -/
def Got (a : Addr) (D : Cell) (fV fC : Field) (A : Cell) (o len : Nat) (r : Option Value) (s u : State) : Prop := r = none ∧ ∃ D' V : Cell, Blank "java/lang/String" a D' u ∧ Same D D' [fV.slot, fC.slot] ∧ D'.slots[fV.slot]? = some (.ref s.heap.size) ∧ D'.slots[fC.slot]? = some (.int 0) ∧ Arr .byte s.heap.size V u ∧ V.vm = .none ∧ u.vm.findClass "[B" = some V.cls ∧ V.slots.size = len ∧ (∀ j, j < len → V.slots[j]? = some (.int (lo8 (cv A (o + j))))) ∧ (∀ (y : Addr) (c : Cell), y ≠ a → s.heap[y]? = some c → u.heap[y]? = some c) ∧ u.heap.size = s.heap.size + 1
theorem Got.mv {a : Addr} {D A : Cell} {fV fC : Field} {o len : Nat} : ∀ r (U U' V V' : State), U'.heap = U.heap → V.vm.Alike V'.vm → V'.heap = V.heap → Got a D fV fC A o len r U V → Got a D fV fC A o len r U' V' :=
  fun r U U' V V' h1 hal h2 ⟨e0, D', X, a1, a2, a3, a4, a5, a6, a7, a8, a9, a10, a11⟩ => ⟨e0, D', X, a1.mv hal h2, a2, by rw [h1]; exact a3, a4, by rw [h1]; exact a5.mv hal h2, a6, by rw [hal.findClass]; exact a7, a8, a9, by rw [h1, h2]; exact a10, by rw [h1, h2]; exact a11⟩
namespace New4
def yN : MethodName := ⟨"java/lang/String", "<init>", "([CIILjava/lang/Void;)V"⟩
abbrev yB : ByteArray := jdk_42_method_149_code
theorem d0 : decode yB 0 = .ok (.aload_n 0, 1) := by decide +kernel
theorem d1 : decode yB 1 = .ok (.invokespecial 1, 3) := by decide +kernel
theorem d4 : decode yB 4 = .ok (.iload_n 3, 1) := by decide +kernel
theorem d5 : decode yB 5 = .ok (.ifCond (.ne) 22, 3) := by decide +kernel
theorem d27 : decode yB 27 = .ok (.getstatic 38, 3) := by decide +kernel
theorem d30 : decode yB 30 = .ok (.ifCond (.eq) 28, 3) := by decide +kernel
theorem d33 : decode yB 33 = .ok (.aload_n 1, 1) := by decide +kernel
theorem d34 : decode yB 34 = .ok (.iload_n 2, 1) := by decide +kernel
theorem d35 : decode yB 35 = .ok (.iload_n 3, 1) := by decide +kernel
theorem d36 : decode yB 36 = .ok (.invokestatic 177, 3) := by decide +kernel
theorem d39 : decode yB 39 = .ok (.astore 5, 2) := by decide +kernel
theorem d41 : decode yB 41 = .ok (.aload_n 0, 1) := by decide +kernel
theorem d42 : decode yB 42 = .ok (.aload 5, 2) := by decide +kernel
theorem d44 : decode yB 44 = .ok (.iload_n 3, 1) := by decide +kernel
theorem d45 : decode yB 45 = .ok (.invokestatic 47, 3) := by decide +kernel
theorem d48 : decode yB 48 = .ok (.putfield 15, 3) := by decide +kernel
theorem d51 : decode yB 51 = .ok (.aload_n 0, 1) := by decide +kernel
theorem d52 : decode yB 52 = .ok (.aload 5, 2) := by decide +kernel
theorem d54 : decode yB 54 = .ok (.putfield 9, 3) := by decide +kernel
theorem d57 : decode yB 57 = .ok (.return_, 1) := by decide +kernel
def site : List Cond := [.fieldLink "java/lang/String" 38 "java/lang/String" "COMPACT_STRINGS" "Z", Cmp3.tab, CodL.tab, .laysFinal "java/lang/String" "java/lang/String" "value" "[B", .fieldLink "java/lang/String" 9 "java/lang/String" "value" "[B", .laysFinal "java/lang/String" "java/lang/String" "coder" "B", .fieldLink "java/lang/String" 15 "java/lang/String" "coder" "B"] ++ objW "java/lang/String" 1 ++ staticW "java/lang/String" 177 Cmp3.yN ++ staticW "java/lang/String" 47 CodL.yN
def tab : Cond := tabOf yN yB 6 none site
def P (a : Addr) (D : Cell) (fV fC : Field) (b : Addr) (A : Cell) (z : Int32) (o len : Nat) (args : Array Value) (s : State) : Prop := args = #[.ref a, .ref b, .int (Int32.ofNat o), .int (Int32.ofNat len), .null] ∧ Blank "java/lang/String" a D s ∧ Found "java/lang/String" "value" "[B" fV s ∧ Found "java/lang/String" "coder" "B" fC s ∧ Ch b A s ∧ StaticIs s "java/lang/String" "COMPACT_STRINGS" "Z" (.int z) ∧ ¬ z = 0 ∧ 0 < len ∧ o + len ≤ A.slots.size ∧ len ≤ 536870912 ∧ ∀ i, i < len → ¬ 255 < cv A (o + i)
def E (a : Addr) (D : Cell) (fV fC : Field) (A : Cell) (o len : Nat) (r : Option Value) (s u : State) : Prop := Got a D fV fC A o len r s u
/-- len > 0, no char of the range above 255: a Latin-1 String of their low bytes -/
theorem law (l : Launch) (a : Addr) (D : Cell) (fV fC : Field) (b : Addr) (A : Cell) (z : Int32) (o len : Nat) : Law l yN 5 4 2 35 yB 6 none site (P a D fV fC b A z o len) (E a D fV fC A o len) [⟨a, fC.slot⟩, ⟨a, fV.slot⟩] 1 len := by
  refine Law.of_walk (plainFor_of_name (by decide +kernel)) (by decide +kernel) (by decide +kernel) (by decide) (fun _ _ h => by rw [h.1]; rfl) (fun _ U U' hal hh h => ⟨h.1, h.2.1.mv hal hh, h.2.2.1.al hal, h.2.2.2.1.al hal, h.2.2.2.2.1.mv hal hh, h.2.2.2.2.2.1.there hal hh, h.2.2.2.2.2.2⟩) (fun r U U' V V' h1 hal h2 h => Got.mv r U U' V V' h1 hal h2 h) ?_
  intro p e s m args below meth c s₁ X0 hexec hbytes hml hret hlk hnm hown hh0 W hP
  obtain ⟨rfl, hB, f1, f2, hA, s1, hz, l0, l1, l2, hp⟩ := hP
  have a31 := hA.1.2.2.2
  have c1 : Steps p.tables e below (s₁.setTop (entryFrame m #[.ref a, .ref b, .int (Int32.ofNat o), .int (Int32.ofNat len), .null] 6)) (s₁.setTop (mkF m 0 #[.val (.ref a), .val (.ref b), .val (.int (Int32.ofNat o)), .val (.int (Int32.ofNat len)), .val .null, .unset] [])) := entry rfl
  have c2 : Steps p.tables e below (s₁.setTop (entryFrame m #[.ref a, .ref b, .int (Int32.ofNat o), .int (Int32.ofNat len), .null] 6)) (s₁.setTop (mkF m 1 #[.val (.ref a), .val (.ref b), .val (.int (Int32.ofNat o)), .val (.int (Int32.ofNat len)), .val .null, .unset] [.ref a])) := c1.trans (by
    refine XS.aloadN X0.here hexec rfl (hb hbytes d0) rfl rfl ?_
    exact Steps.refl _)
  obtain ⟨T3, X3, q3, st3⟩ := X0.oinit hexec hown (wks W (objW "java/lang/String" 1)) (g := (mkF m 1 #[.val (.ref a), .val (.ref b), .val (.int (Int32.ofNat o)), .val (.int (Int32.ofNat len)), .val .null, .unset] [.ref a])) rfl (by rw [hml]; rfl) (rest := []) rfl (hb hbytes d1) (W := 0) (by show 2 * 0 + 0 ≤ _; decide) (Nat.le_of_ble_eq_true rfl) (Nat.le_of_ble_eq_true rfl)
  have hh3 := q3.trans hh0
  have c4 : Steps p.tables e below (s₁.setTop (entryFrame m #[.ref a, .ref b, .int (Int32.ofNat o), .int (Int32.ofNat len), .null] 6)) (T3.setTop (mkF m 27 #[.val (.ref a), .val (.ref b), .val (.int (Int32.ofNat o)), .val (.int (Int32.ofNat len)), .val .null, .unset] [])) := (c2.trans (st3 _ (Steps.refl _))).trans (by
    refine XS.iloadN X3.here hexec rfl (hb hbytes d4) rfl ?_
    refine XS.ifYes X3.here hexec rfl (pc0 := 5) rfl (hb hbytes d5) rfl (i0_ne_t (nz32 (by omega) l0)) (by decide) rfl ?_
    exact Steps.refl _)
  obtain ⟨T5, X5, q5, st5⟩ := X3.sget hexec hown (wk W (.fieldLink "java/lang/String" 38 "java/lang/String" "COMPACT_STRINGS" "Z")) s1 (fun _ _ h => by rw [hh3]; exact h) (g := (mkF m 27 #[.val (.ref a), .val (.ref b), .val (.int (Int32.ofNat o)), .val (.int (Int32.ofNat len)), .val .null, .unset] [])) rfl (hb hbytes d27)
  have hh5 := q5.trans hh3
  have c6 : Steps p.tables e below (s₁.setTop (entryFrame m #[.ref a, .ref b, .int (Int32.ofNat o), .int (Int32.ofNat len), .null] 6)) (T5.setTop (mkF m 30 #[.val (.ref a), .val (.ref b), .val (.int (Int32.ofNat o)), .val (.int (Int32.ofNat len)), .val .null, .unset] [.int z])) := c4.trans (st5 _ (Steps.refl _))
  have c7 : Steps p.tables e below (s₁.setTop (entryFrame m #[.ref a, .ref b, .int (Int32.ofNat o), .int (Int32.ofNat len), .null] 6)) (T5.setTop (mkF m 36 #[.val (.ref a), .val (.ref b), .val (.int (Int32.ofNat o)), .val (.int (Int32.ofNat len)), .val .null, .unset] [.int (Int32.ofNat len), .int (Int32.ofNat o), .ref b])) := c6.trans (by
    refine XS.ifNo X5.here hexec rfl (hb hbytes d30) rfl (i0_eq_f hz) ?_
    refine XS.aloadN X5.here hexec rfl (hb hbytes d33) rfl rfl ?_
    refine XS.iloadN X5.here hexec rfl (hb hbytes d34) rfl ?_
    refine XS.iloadN X5.here hexec rfl (hb hbytes d35) rfl ?_
    exact Steps.refl _)
  obtain ⟨v8, T8, X8, E8, g8⟩ := X5.callS hexec (Cmp3.law l b A o len) hown (wks W (staticW "java/lang/String" 177 Cmp3.yN)) (wk W Cmp3.tab) (W := 0) (Nat.le_of_ble_eq_true rfl) (Nat.le_of_ble_eq_true rfl) (Nat.le_refl _) (by show 0 + len ≤ len; omega) (g := (mkF m 36 #[.val (.ref a), .val (.ref b), .val (.int (Int32.ofNat o)), .val (.int (Int32.ofNat len)), .val .null, .unset] [.int (Int32.ofNat len), .int (Int32.ofNat o), .ref b])) rfl (by rw [hml]; rfl) c7 (argsL := [.ref b, .int (Int32.ofNat o), .int (Int32.ofNat len)]) (rest := []) rfl rfl (by show 2 * 0 + 0 ≤ _; decide) (hb hbytes d36) (⟨rfl, hA.mv X5.warmed.alike hh5, l1, l2, hp⟩)
  obtain ⟨e8, z8⟩ := E8
  obtain ⟨rfl, N, n1, n2, n3, n4, n5, n6⟩ := NewArr.mv _ T5 s _ _ hh5.symm (Vm.Alike.refl _) rfl e8
  rw [hh5] at z8
  have hB1 := hB.keep X8.warmed.alike (n6 _ _ hB.1)
  have hne : s.heap.size ≠ a := (Nat.ne_of_lt (Array.getElem?_eq_some_iff.mp hB.1).1).symm
  have c9 : Steps p.tables e below (s₁.setTop (entryFrame m #[.ref a, .ref b, .int (Int32.ofNat o), .int (Int32.ofNat len), .null] 6)) (T8.setTop (mkF m 39 #[.val (.ref a), .val (.ref b), .val (.int (Int32.ofNat o)), .val (.int (Int32.ofNat len)), .val .null, .unset] [.ref s.heap.size])) := g8
  have c10 : Steps p.tables e below (s₁.setTop (entryFrame m #[.ref a, .ref b, .int (Int32.ofNat o), .int (Int32.ofNat len), .null] 6)) (T8.setTop (mkF m 45 #[.val (.ref a), .val (.ref b), .val (.int (Int32.ofNat o)), .val (.int (Int32.ofNat len)), .val .null, .val (.ref s.heap.size)] [.int (Int32.ofNat N.slots.size), .ref s.heap.size, .ref a])) := by
    have hc : Steps p.tables e below (s₁.setTop (entryFrame m #[.ref a, .ref b, .int (Int32.ofNat o), .int (Int32.ofNat len), .null] 6)) (T8.setTop (mkF m 45 #[.val (.ref a), .val (.ref b), .val (.int (Int32.ofNat o)), .val (.int (Int32.ofNat len)), .val .null, .val (.ref s.heap.size)] [.int (Int32.ofNat len), .ref s.heap.size, .ref a])) := c9.trans (by
      refine XS.astore X8.here hexec rfl (hb hbytes d39) rfl rfl rfl ?_
      refine XS.aloadN X8.here hexec rfl (hb hbytes d41) rfl rfl ?_
      refine XS.aload X8.here hexec rfl (hb hbytes d42) rfl rfl ?_
      refine XS.iloadN X8.here hexec rfl (hb hbytes d44) rfl ?_
      exact Steps.refl _)
    rw [n4]; exact hc
  obtain ⟨v11, T11, X11, E11, g11⟩ := X8.callS hexec (CodL.law l s.heap.size N) hown (wks W (staticW "java/lang/String" 47 CodL.yN)) (wk W CodL.tab) (W := 1) (Nat.le_of_ble_eq_true rfl) (Nat.le_of_ble_eq_true rfl) (Nat.le_refl _) (by show 0 + len + 0 ≤ len; omega) (g := (mkF m 45 #[.val (.ref a), .val (.ref b), .val (.int (Int32.ofNat o)), .val (.int (Int32.ofNat len)), .val .null, .val (.ref s.heap.size)] [.int (Int32.ofNat N.slots.size), .ref s.heap.size, .ref a])) rfl (by rw [hml]; rfl) c10 (argsL := [.ref s.heap.size, .int (Int32.ofNat N.slots.size)]) (rest := [.ref a]) rfl rfl (by show 2 * 0 + (1 + 0) ≤ _; decide) (hb hbytes d45) (⟨rfl, n1⟩)
  obtain ⟨rfl, q11⟩ := E11
  have hB11 := hB1.mv (X8.warmed.alike.symm.trans X11.warmed.alike) q11
  have c12 : Steps p.tables e below (s₁.setTop (entryFrame m #[.ref a, .ref b, .int (Int32.ofNat o), .int (Int32.ofNat len), .null] 6)) (T11.setTop (mkF m 48 #[.val (.ref a), .val (.ref b), .val (.int (Int32.ofNat o)), .val (.int (Int32.ofNat len)), .val .null, .val (.ref s.heap.size)] [.int 0, .ref a])) := g11
  obtain ⟨T13, X13, p13, bl13, sl13, st13⟩ := X11.finit hexec hown (wk W (.fieldLink "java/lang/String" 15 "java/lang/String" "coder" "B")) (Or.inr ⟨_, (wk W (.laysFinal "java/lang/String" "java/lang/String" "coder" "B"))⟩) (Or.inl ⟨rfl, hnm⟩) f2 (Or.inl rfl) hB11 (t := .byte) (by decide +kernel) rfl (g := (mkF m 48 #[.val (.ref a), .val (.ref b), .val (.int (Int32.ofNat o)), .val (.int (Int32.ofNat len)), .val .null, .val (.ref s.heap.size)] [.int 0, .ref a])) rfl (rest := []) rfl (hb hbytes d48)
  have c14 : Steps p.tables e below (s₁.setTop (entryFrame m #[.ref a, .ref b, .int (Int32.ofNat o), .int (Int32.ofNat len), .null] 6)) (T13.setTop (mkF m 54 #[.val (.ref a), .val (.ref b), .val (.int (Int32.ofNat o)), .val (.int (Int32.ofNat len)), .val .null, .val (.ref s.heap.size)] [.ref s.heap.size, .ref a])) := (c12.trans (st13 _ (Steps.refl _))).trans (by
    refine XS.aloadN X13.here hexec rfl (hb hbytes d51) rfl rfl ?_
    refine XS.aload X13.here hexec rfl (hb hbytes d52) rfl rfl ?_
    exact Steps.refl _)
  obtain ⟨T15, X15, p15, bl15, sl15, st15⟩ := X13.finit hexec hown (wk W (.fieldLink "java/lang/String" 9 "java/lang/String" "value" "[B")) (Or.inr ⟨_, (wk W (.laysFinal "java/lang/String" "java/lang/String" "value" "[B"))⟩) (Or.inl ⟨rfl, hnm⟩) f1 (Or.inl rfl) bl13 (t := (.array .byte)) (by decide +kernel) rfl (g := (mkF m 54 #[.val (.ref a), .val (.ref b), .val (.int (Int32.ofNat o)), .val (.int (Int32.ofNat len)), .val .null, .val (.ref s.heap.size)] [.ref s.heap.size, .ref a])) rfl (rest := []) rfl (hb hbytes d54)
  have c16 : Steps p.tables e below (s₁.setTop (entryFrame m #[.ref a, .ref b, .int (Int32.ofNat o), .int (Int32.ofNat len), .null] 6)) (T15.setTop (mkF m 57 #[.val (.ref a), .val (.ref b), .val (.int (Int32.ofNat o)), .val (.int (Int32.ofNat len)), .val .null, .val (.ref s.heap.size)] [])) := c14.trans (st15 _ (Steps.refl _))
  have ap := apart (Or.inr ⟨_, (wk W (.laysFinal "java/lang/String" "java/lang/String" "value" "[B"))⟩) (Or.inr ⟨_, (wk W (.laysFinal "java/lang/String" "java/lang/String" "coder" "B"))⟩) f1 f2 (t₁ := .array .byte) (t₂ := .byte) (by decide +kernel) (by decide +kernel) (by decide)
  have al := X8.warmed.alike.symm.trans X15.warmed.alike
  have n7 : T11.heap[s.heap.size]? = some N := by rw [q11]; exact n1.1
  exact ⟨T15, none, _, _, _, X15, by simp, rfl, by omega, (fun _ => rfl), ⟨rfl, _, N, bl15, ((Same.refl D _).set _ (by simp)).set _ (by simp), sl15, (Cell.slots_setSlot_ne _ ap).trans sl13, n1.keep al (p15.other hne (p13.other hne n7)), n2, by rw [al.findClass]; exact n3, n4, n5, fun y c h1 h2 => p15.other h1 (p13.other h1 (by rw [q11]; exact n6 y c h2)), by rw [p15.2.2, p13.2.2, q11]; exact z8⟩, fun fs hl => c16.trans (X15.returnOut hexec hret (hb hbytes d57) hl)⟩
end New4
namespace New1
def yN : MethodName := ⟨"java/lang/String", "<init>", "([C)V"⟩
abbrev yB : ByteArray := jdk_42_method_3_code
theorem d0 : decode yB 0 = .ok (.aload_n 0, 1) := by decide +kernel
theorem d1 : decode yB 1 = .ok (.aload_n 1, 1) := by decide +kernel
theorem d2 : decode yB 2 = .ok (.iconst 0, 1) := by decide +kernel
theorem d3 : decode yB 3 = .ok (.aload_n 1, 1) := by decide +kernel
theorem d4 : decode yB 4 = .ok (.arraylength, 1) := by decide +kernel
theorem d5 : decode yB 5 = .ok (.aconst_null, 1) := by decide +kernel
theorem d6 : decode yB 6 = .ok (.invokespecial 27, 3) := by decide +kernel
theorem d9 : decode yB 9 = .ok (.return_, 1) := by decide +kernel
def site : List Cond := [New4.tab] ++ initW "java/lang/String" 27 New4.yN
def tab : Cond := tabOf yN yB 2 none site
def P (a : Addr) (D : Cell) (fV fC : Field) (b : Addr) (A : Cell) (z : Int32) (args : Array Value) (s : State) : Prop := args = #[.ref a, .ref b] ∧ Blank "java/lang/String" a D s ∧ Found "java/lang/String" "value" "[B" fV s ∧ Found "java/lang/String" "coder" "B" fC s ∧ Ch b A s ∧ StaticIs s "java/lang/String" "COMPACT_STRINGS" "Z" (.int z) ∧ ¬ z = 0 ∧ 0 < A.slots.size ∧ A.slots.size ≤ 536870912 ∧ ∀ i, i < A.slots.size → ¬ 255 < cv A i
def E (a : Addr) (D : Cell) (fV fC : Field) (A : Cell) (r : Option Value) (s u : State) : Prop := Got a D fV fC A 0 A.slots.size r s u
/-- new String(chars), not empty, no char above 255: a Latin-1 String of their low bytes -/
theorem law (l : Launch) (a : Addr) (D : Cell) (fV fC : Field) (b : Addr) (A : Cell) (z : Int32) : Law l yN 2 1 3 52 yB 2 none site (P a D fV fC b A z) (E a D fV fC A) [⟨a, fC.slot⟩, ⟨a, fV.slot⟩] 1 A.slots.size := by
  refine Law.of_walk (plainFor_of_name (by decide +kernel)) (by decide +kernel) (by decide +kernel) (by decide) (fun _ _ h => by rw [h.1]; rfl) (fun _ U U' hal hh h => ⟨h.1, h.2.1.mv hal hh, h.2.2.1.al hal, h.2.2.2.1.al hal, h.2.2.2.2.1.mv hal hh, h.2.2.2.2.2.1.there hal hh, h.2.2.2.2.2.2⟩) (fun r U U' V V' h1 hal h2 h => Got.mv r U U' V V' h1 hal h2 h) ?_
  intro p e s m args below meth c s₁ X0 hexec hbytes hml hret hlk hnm hown hh0 W hP
  obtain ⟨rfl, hB, f1, f2, hA, s1, hz, l0, l2, hp⟩ := hP
  have c1 : Steps p.tables e below (s₁.setTop (entryFrame m #[.ref a, .ref b] 2)) (s₁.setTop (mkF m 0 #[.val (.ref a), .val (.ref b)] [])) := entry rfl
  have c2 : Steps p.tables e below (s₁.setTop (entryFrame m #[.ref a, .ref b] 2)) (s₁.setTop (mkF m 6 #[.val (.ref a), .val (.ref b)] [.null, .int (Int32.ofNat A.slots.size), .int 0, .ref b, .ref a])) := c1.trans (by
    refine XS.aloadN X0.here hexec rfl (hb hbytes d0) rfl rfl ?_
    refine XS.aloadN X0.here hexec rfl (hb hbytes d1) rfl rfl ?_
    refine iconstV X0.here hexec rfl 0 (hb hbytes d2) (by decide) ?_
    refine XS.aloadN X0.here hexec rfl (hb hbytes d3) rfl rfl ?_
    refine X0.alen hexec (hA.1.mv X0.warmed.alike hh0) rfl rfl (hb hbytes d4) ?_
    refine XS.aconstNull X0.here hexec rfl (hb hbytes d5) ?_
    exact Steps.refl _)
  obtain ⟨v3, T3, X3, E3, g3⟩ := X0.callN hexec (New4.law l a D fV fC b A z 0 A.slots.size) rfl hown (wks W (initW "java/lang/String" 27 New4.yN)) (W New4.tab (by simp only [site, List.mem_cons, List.mem_append, true_or, or_true])) (W := 0) (Nat.le_of_ble_eq_true rfl) (Nat.le_of_ble_eq_true rfl) (Nat.le_refl _) (by show 0 + A.slots.size ≤ A.slots.size; omega) (g := (mkF m 6 #[.val (.ref a), .val (.ref b)] [.null, .int (Int32.ofNat A.slots.size), .int (Int32.ofNat 0), .ref b, .ref a])) rfl (by rw [hml]; rfl) c2 (argsL := [.ref b, .int (Int32.ofNat 0), .int (Int32.ofNat A.slots.size), .null]) (rest := []) rfl rfl (by show 2 * 0 + 0 ≤ _; decide) (hb hbytes d6) (⟨rfl, hB.mv X0.warmed.alike hh0, f1.al X0.warmed.alike, f2.al X0.warmed.alike, hA.mv X0.warmed.alike hh0, s1.there X0.warmed.alike hh0, hz, l0, by omega, l2, fun i hi => by rw [Nat.zero_add]; exact hp i hi⟩)
  have e0 := Got.mv _ s₁ s _ _ hh0.symm (Vm.Alike.refl _) rfl E3
  obtain rfl := e0.1
  have c4 : Steps p.tables e below (s₁.setTop (entryFrame m #[.ref a, .ref b] 2)) (T3.setTop (mkF m 9 #[.val (.ref a), .val (.ref b)] [])) := g3
  exact ⟨T3, none, _, _, _, X3, by simp, rfl, by omega, (fun _ => rfl), e0, fun fs hl => c4.trans (X3.returnOut hexec hret (hb hbytes d9) hl)⟩
theorem pays {l : Launch} {R : Room} {p : Program} {e : Env} {below : List Frame} {s : State} {sargs : Array Value} {len W : Nat} (a : Addr) (D : Cell) (fV fC : Field) (b : Addr) (A : Cell) (z : Int32) (htab : tab.before sargs s = true) (hfr : 4 ≤ R.frames) (hlo : W + 65 ≤ R.locals) :
    Back l R p e below s sargs yN len W (fun A₁ a₁ => A₁.cells + 1 ≤ R.cells ∧ A₁.slots + A.slots.size ≤ R.slots ∧ P a D fV fC b A z a₁ A₁.U) (fun A₁ _ v₁ B₁ => E a D fV fC A v₁ A₁.U B₁.U ∧ B₁.locs = A₁.locs ++ [⟨a, fC.slot⟩, ⟨a, fV.slot⟩] ∧ B₁.cells = A₁.cells + 1 ∧ B₁.slots = A₁.slots + A.slots.size) :=
  (law l a D fV fC b A z).pays htab hfr (by omega)
end New1
end StrChars
namespace StrChars.Road
open Jvm Sem ClassFile Op Lib Jvm.Stand Jvm.Free Jvm.Free.XT
open Jvm.Lib.Cold (StaticIs)
abbrev ST : String := "java/lang/String"
/-- every table word that New1's law asks, flat -/
abbrev words : List Jvm.Cond := [.code New1.yN New1.yB 2 none, .initialized ST, .methodLink ST 27 New4.yN, .instanceMethod New4.yN,
  .code New4.yN New4.yB 6 none, .fieldLink ST 38 ST "COMPACT_STRINGS" "Z", .laysFinal ST ST "value" "[B", .fieldLink ST 9 ST "value" "[B", .laysFinal ST ST "coder" "B", .fieldLink ST 15 ST "coder" "B",
  .methodLink ST 1 Lib.objectInit, .instanceMethod Lib.objectInit, .code Lib.objectInit ⟨#[0xb1]⟩ 1 none, .methodLink ST 177 Cmp3.yN, .static Cmp3.yN, .methodLink ST 47 CodL.yN, .static CodL.yN,
  .code Cmp3.yN Cmp3.yB 6 (some (.array .byte)), .initialized U16, .arrayClass .byte, .methodLink U16 115 Cmp5.yN, .static Cmp5.yN, .code Cmp5.yN Cmp5.yB 7 (some .int), .code CodL.yN CodL.yB 2 (some .byte)]
theorem tab_of {a : Array Value} {s : State} (h : ∀ w ∈ words, w.before a s = true) : New1.tab.before a s = true := by
  have h5 : Cmp5.tab.before a s = true := unparts (wk h (.code Cmp5.yN Cmp5.yB 7 (some .int))) (wks h (.initialized Cmp5.yN.cls :: Cmp5.site))
  have hc : CodL.tab.before a s = true := unparts (wk h (.code CodL.yN CodL.yB 2 (some .byte))) (wks h (.initialized CodL.yN.cls :: CodL.site))
  have q5 : ∀ w ∈ Cmp5.tab :: words, w.before a s = true := fun w hw => (List.mem_cons.mp hw).elim (fun e => e ▸ h5) (h w)
  have h3 : Cmp3.tab.before a s = true := unparts (wk q5 (.code Cmp3.yN Cmp3.yB 6 (some (.array .byte)))) (wks q5 (.initialized Cmp3.yN.cls :: Cmp3.site))
  have q3 : ∀ w ∈ Cmp3.tab :: CodL.tab :: words, w.before a s = true := fun w hw => (List.mem_cons.mp hw).elim (fun e => e ▸ h3) fun hw => (List.mem_cons.mp hw).elim (fun e => e ▸ hc) (h w)
  have h4 : New4.tab.before a s = true := unparts (wk q3 (.code New4.yN New4.yB 6 none)) (wks q3 (.initialized New4.yN.cls :: New4.site))
  have q4 : ∀ w ∈ New4.tab :: words, w.before a s = true := fun w hw => (List.mem_cons.mp hw).elim (fun e => e ▸ h4) (h w)
  exact unparts (wk q4 (.code New1.yN New1.yB 2 none)) (wks q4 (.initialized New1.yN.cls :: New1.site))
/-- the words ride from the start Z to the walk's own state -/
theorem moved {Z s : State} {a0 args : Array Value} (hZ : Z.Warmed39 s.vm) (hw : ∀ d ∈ words, d.before a0 Z = true) : ∀ d ∈ words, d.before args s = true := fun d hd => by
  have q := hw d hd
  have t : ∀ d ∈ words, d = .arrayClass .byte ∨ (d.onTables && d.keepsFace) = true := by decide +kernel
  rcases t d hd with rfl | t
  · exact RoadKit.mvA hZ q
  · exact RoadKit.mv hZ q t
/-- WHAT COMES BACK, over the tables of the start Z: h the heap at the call, h' behind it -/
def Q (Z : State) (x : Addr) (A : Cell) (h : Heap) (v : Option Value) (h' : Heap) (L : List Loc) : Prop := v = none ∧ (∀ y ∈ L, y.base = x) ∧ RoadKit.Keep h h' [x] ∧ h'.size = h.size + 1 ∧ RoadKit.Exa Z h' x ST ∧ RoadKit.Fld Z h' x ST "value" "[B" (.ref h.size) ∧ RoadKit.Fld Z h' x ST "coder" "B" (.int 0) ∧
  (∃ V : Cell, RoadKit.Arr Z h' h.size V .byte ∧ V.vm = .none ∧ Z.vm.findClass "[B" = some V.cls ∧ V.slots.size = A.slots.size ∧ ∀ j, j < A.slots.size → V.slots[j]? = some (.int (lo8 (cv A j)))) ∧
  ∀ (O n d : String) (w : Value), RoadKit.Fld Z h x O n d w → RoadKit.slotOf Z O n d ≠ RoadKit.slotOf Z ST "value" "[B" → RoadKit.slotOf Z O n d ≠ RoadKit.slotOf Z ST "coder" "B" → RoadKit.Fld Z h' x O n d w
/-- **new String(chars) AT A CALL, IN THE ROAD'S FORM**: for specialBack behind newO: x the fresh String, b the char[] with the cell A -/
theorem back {p : Program} {l : Launch} {e : Env} {R : Room} {s : State} {args : Array Value} {below : List Frame} {len W : Nat} {Z : State} {a0 : Array Value} {h : Heap} (hZ : Z.Warmed39 s.vm) (hw : ∀ d ∈ words, d.before a0 Z = true) {kI : Nat} (wi : (Jvm.Cond.instantiable ST kI).before a0 Z = true)
    {x b : Addr} {A : Cell} {z : Int32} {v0 c0 : Value} (E : RoadKit.Exa Z h x ST) (V : RoadKit.Fld Z h x ST "value" "[B" v0) (C : RoadKit.Fld Z h x ST "coder" "B" c0) (K : RoadKit.Arr Z h b A .char) (hty : Typed .char A) (S : RoadKit.Sta Z h ST "COMPACT_STRINGS" "Z" (.int z)) (hz : ¬ z = 0)
    (l0 : 0 < A.slots.size) (l2 : A.slots.size ≤ 536870912) (hp : ∀ i, i < A.slots.size → ¬ 255 < cv A i) (hfr : 4 ≤ R.frames) (hlo : W + 65 ≤ R.locals) :
    Back l R p e below s args New1.yN len W (fun P a => a = #[.ref x, .ref b] ∧ P.U.heap = h ∧ P.cells + 1 ≤ R.cells ∧ P.slots + A.slots.size ≤ R.slots)
      (fun P _ v B => ∃ L, Q Z x A h v B.U.heap L ∧ B.locs = P.locs ++ L ∧ B.cells = P.cells + 1 ∧ B.slots = P.slots + A.slots.size) := by
  intro m meth c P g ig mk a X hg hsize hdg hW hn hp'
  obtain ⟨rfl, rfl, r1, r2⟩ := hp'
  have al : Z.vm.Alike P.U.vm := hZ.alike.trans X.warmed.alike
  obtain ⟨D, cfV, kV, iV, fV, hD, gV, stV, knV, obV, asV, slV⟩ := id V
  obtain ⟨D', cfC, kC, iC, fC, hD', gC, stC, -, -, asC, slC⟩ := id C
  cases hD.symm.trans hD'
  obtain ⟨D2, kD, e1, e2, e3, e4, e5⟩ := id E
  cases hD.symm.trans e1
  obtain ⟨c2, k2, i1, i2, i3, -⟩ := Cond.instantiable_spec wi
  cases e2.symm.trans i1
  cases e3.symm.trans i2
  obtain ⟨kU, u1, u2⟩ := al.2.2 _ _ e3
  have hB : Blank ST x D P.U := ⟨hD, ⟨knV, fun q hq => by rw [hq] at obV; cases obV⟩, by rw [al.findClass]; exact e2, kU, u1, by rw [u2]; exact i3, by rw [u2]; exact e5 i3⟩
  have F1 : Found ST "value" "[B" fV P.U := ⟨SBG.found_only al ⟨cfV, kV, iV, gV⟩, stV⟩
  have F2 : Found ST "coder" "B" fC P.U := ⟨SBG.found_only al ⟨cfC, kC, iC, gC⟩, stC⟩
  have hA : Ch b A P.U := ⟨⟨K.1, State.isArrayOf_alike al K.2.1, K.2.2, by omega⟩, hty⟩
  have hS : StaticIs P.U ST "COMPACT_STRINGS" "Z" (.int z) := by
    obtain ⟨cfS, iS, kS, fS, st, cS, t1, t2, t3, t4, t5, t6, t7⟩ := S
    exact StaticIs.there (s := { Z with heap := P.U.heap }) ⟨cfS, iS, kS, fS, st, cS, t1, t2, t3, t4, t5, (fun q => by rw [q] at t6; cases t6), t7⟩ al rfl
  obtain ⟨v, B, X', ⟨⟨hv, E', V', q1, q2, q3, q4, q5, q6, q7, q8, q9, q10, q11⟩, hl, hc, hs⟩, st⟩ := New1.pays x D fV fC b A z (tab_of (moved hZ hw)) hfr hlo m meth c P g ig mk _ X hg hsize hdg hW hn ⟨r1, r2, rfl, hB, F1, F2, hA, hS, hz, l0, l2, hp⟩
  have al' : Z.vm.Alike B.U.vm := hZ.alike.trans X'.warmed.alike
  have hsz : E'.slots.size = D.slots.size := by
    obtain ⟨-, -, -, kB, w1, w2, w3⟩ := q1
    obtain ⟨kB', y1, y2⟩ := al'.2.2 _ _ e3
    rw [q2.2.1] at w1
    cases w1.symm.trans y1
    rw [w3, e5 i3, y2]
  refine ⟨v, B, X', ⟨_, ⟨hv, ?_, ⟨by omega, fun y cy hy hn' => q10 y cy (by simpa using hn') hy, fun y cy hy => ?_⟩, q11, ⟨E', _, q1.1, by rw [q2.2.1]; exact e2, by rw [q2.2.1]; exact e3, by rw [q2.1]; exact obV, fun _ => by rw [hsz]; exact e5 i3⟩,
    ⟨E', cfV, kV, iV, fV, q1.1, gV, stV, by rw [q2.1]; exact knV, by rw [q2.1]; exact obV, by rw [q2.2.1]; exact asV, q3⟩, ⟨E', cfC, kC, iC, fC, q1.1, gC, stC, by rw [q2.1]; exact knV, by rw [q2.1]; exact obV, by rw [q2.2.1]; exact asC, q4⟩,
    ⟨V', ⟨q5.1, State.isArrayOf_alike al'.symm q5.2.1, q5.2.2.1⟩, q6, by rw [← al'.findClass]; exact q7, q8, fun j hj => by have := q9 j hj; rwa [Nat.zero_add] at this⟩, fun O n d w F n1 n2 => ?_⟩, hl, hc, hs⟩, st⟩
  · intro y hy
    simp only [List.mem_cons, List.not_mem_nil, or_false] at hy
    rcases hy with rfl | rfl <;> rfl
  · by_cases q : y = x
    · subst q
      cases hD.symm.trans hy
      exact ⟨E', q1.1, q2.2.1, q2.1, hsz⟩
    · exact ⟨cy, q10 y cy q hy, rfl, rfl, rfl⟩
  · obtain ⟨D3, cf, k, i, f, g1, g2, g3, g4, g5, g6, g7⟩ := F
    cases hD.symm.trans g1
    simp only [RoadKit.slotOf, g2, gV, gC, Option.map_some, Option.getD_some] at n1 n2
    exact ⟨E', cf, k, i, f, q1.1, g2, g3, by rw [q2.1]; exact g4, by rw [q2.1]; exact g5, by rw [q2.2.1]; exact g6, by rw [q2.2.2 f.slot (by simp [n1, n2])]; exact g7⟩
end StrChars.Road
namespace StrChars.Road
open Jvm Sem ClassFile Op Lib Jvm.Stand Jvm.Free Jvm.Free.XT
/-- WHAT COMES BACK, the byte[] as a list of values -/
def QA (Z : State) (x : Addr) (zn : Int32) (cs : List Int32) (h : Heap) (v : Option Value) (h' : Heap) (L : List Loc) : Prop := v = none ∧ (∀ y ∈ L, y.base = x) ∧ RoadKit.Keep h h' [x] ∧ h'.size = h.size + 1 ∧ RoadKit.Exa Z h' x ST ∧ RoadKit.Fld Z h' x ST "value" "[B" (.ref h.size) ∧ RoadKit.Fld Z h' x ST "coder" "B" (.int 0) ∧
  (∃ kb, Z.vm.findClass "[B" = some kb ∧ RoadKit.Arv Z h' h.size kb .byte zn (cs.map fun c => .int (lo8 c)) (.int 0)) ∧
  ∀ (O n d : String) (w : Value), RoadKit.Fld Z h x O n d w → RoadKit.slotOf Z O n d ≠ RoadKit.slotOf Z ST "value" "[B" → RoadKit.slotOf Z O n d ≠ RoadKit.slotOf Z ST "coder" "B" → RoadKit.Fld Z h' x O n d w
/-- **new String(chars) AT A CALL, THE ARRAYS AS LISTS**: the char[] at b holds cs, not empty, no char above 255 -/
theorem backArv {p : Program} {l : Launch} {e : Env} {R : Room} {s : State} {args : Array Value} {below : List Frame} {len W : Nat} {Z : State} {a0 : Array Value} {h : Heap} (hZ : Z.Warmed39 s.vm) (hw : ∀ d ∈ words, d.before a0 Z = true) {kI : Nat} (wi : (Jvm.Cond.instantiable ST kI).before a0 Z = true)
    {x b : Addr} {k : ClassId} {zn z : Int32} {cs : List Int32} {dv v0 c0 : Value} (E : RoadKit.Exa Z h x ST) (V : RoadKit.Fld Z h x ST "value" "[B" v0) (C : RoadKit.Fld Z h x ST "coder" "B" c0) (K : RoadKit.Arv Z h b k .char zn (cs.map Value.int) dv) (S : RoadKit.Sta Z h ST "COMPACT_STRINGS" "Z" (.int z)) (hz : ¬ z = 0)
    (hlen : zn.toNatClampNeg = cs.length) (h0 : 0 < cs.length) (hbig : cs.length ≤ 536870912) (hall : ∀ c ∈ cs, ¬ 255 < c) (hfr : 4 ≤ R.frames) (hlo : W + 65 ≤ R.locals) :
    Back l R p e below s args New1.yN len W (fun P a => a = #[.ref x, .ref b] ∧ P.U.heap = h ∧ P.cells + 1 ≤ R.cells ∧ P.slots + cs.length ≤ R.slots)
      (fun P _ v B => ∃ L, QA Z x zn cs h v B.U.heap L ∧ B.locs = P.locs ++ L ∧ B.cells = P.cells + 1 ∧ B.slots = P.slots + cs.length) := by
  obtain ⟨A, K1, K2, K3, K4, K5, K6⟩ := K
  have e : A.slots.size = cs.length := K3.trans hlen
  have hat : ∀ (i : Nat) (hi : i < cs.length), A.slots[i]? = some (.int cs[i]) := fun i hi => by rw [K5 i (by omega)]; simp [List.getD_eq_getElem?_getD, hi]
  have hcv : ∀ (i : Nat) (hi : i < cs.length), cv A i = cs[i] := fun i hi => by unfold cv; rw [hat i hi]
  have hty : Typed .char A := fun i v hv => by
    have hi : i < A.slots.size := (Array.getElem?_eq_some_iff.mp hv).1
    have q := K5 i hi
    rw [hv] at q
    rw [Option.some.inj q]
    exact K6 i hi
  refine Back.mono (back hZ hw wi E V C K1 hty S hz (by omega) (by omega) (fun i hi => by rw [hcv i (by omega)]; exact hall _ (List.getElem_mem _)) hfr hlo) (fun P a hp => ⟨hp.1, hp.2.1, hp.2.2.1, by rw [e]; exact hp.2.2.2⟩) (fun P a v B hp hq => ?_)
  obtain ⟨L, ⟨q1, q2, q3, q4, q5, q6, q7, ⟨V', v1, v2, v3, v4, v5⟩, q9⟩, hl, hc, hs⟩ := hq
  refine ⟨L, ⟨q1, q2, q3, q4, q5, q6, q7, ⟨V'.cls, v3, V', v1, rfl, by rw [v4, e, hlen], K4, fun i hi => ?_, fun i hi => ?_⟩, q9⟩, hl, hc, by rw [hs, e]⟩
  · have hi' : i < cs.length := by omega
    rw [v5 i (by omega), hcv i hi']; simp [List.getD_eq_getElem?_getD, hi']
  · have hi' : i < cs.length := by omega
    simp only [List.getD_eq_getElem?_getD, List.getElem?_map, List.getElem?_eq_getElem hi', Option.map_some, Option.getD_some]
    exact fits_lo8 _
end StrChars.Road
namespace StrChars.Road
open Jvm Sem ClassFile Op Lib Jvm.Stand Jvm.Free Jvm.Free.XT
/-- WHAT COMES BACK, in the writer's own shape -/
def QV (Z : State) (x : Addr) (N : Int32) (bs : List Int32) (h : Heap) (n0 : Nat) (v : Option Value) (h' : Heap) (L : List Loc) : Prop := v = none ∧ RoadKit.Fr n0 L ∧ RoadKit.Keep h h' [x] ∧ RoadKit.Exa Z h' x ST ∧ RoadKit.Fld Z h' x ST "coder" "B" (.int 0) ∧
  ∃ (t : Addr) (kb : ClassId), n0 ≤ t ∧ h.size ≤ t ∧ ¬ t = x ∧ RoadKit.Fld Z h' x ST "value" "[B" (.ref t) ∧ RoadKit.Arv Z h' t kb .byte N (bs.map Value.int) (.int 0)
/-- **new String(chars) AT A CALL, FOR THE WRITER**: a char[] of n known ints, each 0 to 255 -/
theorem backV {p : Program} {l : Launch} {e : Env} {R : Room} {s : State} {args : Array Value} {below : List Frame} {len W : Nat} {Z : State} {a0 : Array Value} {h : Heap} (hZ : Z.Warmed39 s.vm) (hw : ∀ d ∈ words, d.before a0 Z = true) {kI : Nat} (wi : (Jvm.Cond.instantiable ST kI).before a0 Z = true)
    {x b : Addr} {kC : ClassId} {cs bs : List Int32} {d v0 c0 : Value} {z N : Int32} {n n0 : Nat} (hx0 : n0 ≤ x) (hh0 : n0 ≤ h.size) (E : RoadKit.Exa Z h x ST) (V : RoadKit.Fld Z h x ST "value" "[B" v0) (C : RoadKit.Fld Z h x ST "coder" "B" c0) (K : RoadKit.Arv Z h b kC .char N (cs.map Value.int) d) (S : RoadKit.Sta Z h ST "COMPACT_STRINGS" "Z" (.int z)) (hz : ¬ z = 0)
    (hn : cs.length = n) (hN : N = Int32.ofNat n) (l0 : 0 < n) (l2 : n ≤ 4000) (hp : ∀ c ∈ cs, ¬ c < 0 ∧ ¬ (255 : Int32) < c) (hb : bs = cs.map (fun c => c.toInt8.toInt32)) (hfr : 4 ≤ R.frames) (hlo : W + 65 ≤ R.locals) :
    Back l R p e below s args (⟨"java/lang/String", "<init>", "([C)V"⟩ : MethodName) len W (fun P a => a = #[.ref x, .ref b] ∧ P.U.heap = h ∧ P.cells + 1 ≤ R.cells ∧ P.slots + n ≤ R.slots)
      (fun P _ v B => ∃ L, QV Z x N bs h n0 v B.U.heap L ∧ B.locs = P.locs ++ L ∧ B.cells = P.cells + 1 ∧ B.slots = P.slots + n) := by
  subst hn hN hb
  refine Back.mono (backArv hZ hw wi E V C K S hz (n32 (by omega)) l0 (by omega) (fun c hc => (hp c hc).2) hfr hlo) (fun P a hp => hp) (fun P a v B hp hq => ?_)
  obtain ⟨L, ⟨q1, q2, q3, q4, q5, q6, q7, ⟨kb, v1, v2⟩, q9⟩, hl, hc, hs⟩ := hq
  exact ⟨L, ⟨q1, fun y hy => by rw [q2 y hy]; exact hx0, q3, q5, q7, h.size, kb, hh0, Nat.le_refl _, Nat.ne_of_gt E.lt, q6, by rw [List.map_map]; exact v2⟩, hl, hc, hs⟩
end StrChars.Road
end Jvm.Pilot.@@N@@
namespace Jvm.Pilot.@@N@@
open Jvm Jvm.ClassFile Sem Op Lib Jvm.Free Jvm.Stand Jvm.LawKit Jvm.RoadKit Bundle Jvm.Pilot.@@N@@.Jvm.D
theorem d7_0 : decode jdk_42_method_139_code 0 = .ok (.getstatic 38, 3) := by decide +kernel
theorem d7_3 : decode jdk_42_method_139_code 3 = .ok (.ifCond .eq 23, 3) := by decide +kernel
theorem d7_6 : decode jdk_42_method_139_code 6 = .ok (.iload_n 0, 1) := by decide +kernel
theorem d7_7 : decode jdk_42_method_139_code 7 = .ok (.invokestatic 1015, 3) := by decide +kernel
theorem d7_10 : decode jdk_42_method_139_code 10 = .ok (.ifCond .eq 16, 3) := by decide +kernel
theorem d7_13 : decode jdk_42_method_139_code 13 = .ok (.new 10, 3) := by decide +kernel
theorem d7_16 : decode jdk_42_method_139_code 16 = .ok (.dup, 1) := by decide +kernel
theorem d7_17 : decode jdk_42_method_139_code 17 = .ok (.iload_n 0, 1) := by decide +kernel
theorem d7_18 : decode jdk_42_method_139_code 18 = .ok (.invokestatic 1018, 3) := by decide +kernel
theorem d7_21 : decode jdk_42_method_139_code 21 = .ok (.iconst 0, 1) := by decide +kernel
theorem d7_22 : decode jdk_42_method_139_code 22 = .ok (.invokespecial 209, 3) := by decide +kernel
theorem d7_25 : decode jdk_42_method_139_code 25 = .ok (.areturn, 1) := by decide +kernel
theorem d8_0 : decode jdk_43_method_3_code 0 = .ok (.iload_n 0, 1) := by decide +kernel
theorem d8_1 : decode jdk_43_method_3_code 1 = .ok (.sipush 255, 3) := by decide +kernel
theorem d8_4 : decode jdk_43_method_3_code 4 = .ok (.if_icmp .gt 7, 3) := by decide +kernel
theorem d8_7 : decode jdk_43_method_3_code 7 = .ok (.iconst 1, 1) := by decide +kernel
theorem d8_8 : decode jdk_43_method_3_code 8 = .ok (.goto 4, 3) := by decide +kernel
theorem d8_12 : decode jdk_43_method_3_code 12 = .ok (.ireturn, 1) := by decide +kernel
theorem d9_0 : decode jdk_43_method_46_code 0 = .ok (.iconst 1, 1) := by decide +kernel
theorem d9_1 : decode jdk_43_method_46_code 1 = .ok (.newarray .byte, 2) := by decide +kernel
theorem d9_3 : decode jdk_43_method_46_code 3 = .ok (.dup, 1) := by decide +kernel
theorem d9_4 : decode jdk_43_method_46_code 4 = .ok (.iconst 0, 1) := by decide +kernel
theorem d9_5 : decode jdk_43_method_46_code 5 = .ok (.iload_n 0, 1) := by decide +kernel
theorem d9_6 : decode jdk_43_method_46_code 6 = .ok (.i2b, 1) := by decide +kernel
theorem d9_7 : decode jdk_43_method_46_code 7 = .ok (.bastore, 1) := by decide +kernel
theorem d9_8 : decode jdk_43_method_46_code 8 = .ok (.areturn, 1) := by decide +kernel
theorem d10_0 : decode jdk_42_method_151_code 0 = .ok (.aload_n 0, 1) := by decide +kernel
theorem d10_1 : decode jdk_42_method_151_code 1 = .ok (.invokespecial 1, 3) := by decide +kernel
theorem d10_4 : decode jdk_42_method_151_code 4 = .ok (.aload_n 0, 1) := by decide +kernel
theorem d10_5 : decode jdk_42_method_151_code 5 = .ok (.aload_n 1, 1) := by decide +kernel
theorem d10_6 : decode jdk_42_method_151_code 6 = .ok (.putfield 9, 3) := by decide +kernel
theorem d10_9 : decode jdk_42_method_151_code 9 = .ok (.aload_n 0, 1) := by decide +kernel
theorem d10_10 : decode jdk_42_method_151_code 10 = .ok (.iload_n 2, 1) := by decide +kernel
theorem d10_11 : decode jdk_42_method_151_code 11 = .ok (.putfield 15, 3) := by decide +kernel
theorem d10_14 : decode jdk_42_method_151_code 14 = .ok (.return_, 1) := by decide +kernel
theorem d11_0 : decode prog_41_method_3_code 0 = .ok (.new 2, 3) := by decide +kernel
theorem d11_3 : decode prog_41_method_3_code 3 = .ok (.dup, 1) := by decide +kernel
theorem d11_4 : decode prog_41_method_3_code 4 = .ok (.getstatic 30, 3) := by decide +kernel
theorem d11_7 : decode prog_41_method_3_code 7 = .ok (.aconst_null, 1) := by decide +kernel
theorem d11_8 : decode prog_41_method_3_code 8 = .ok (.aconst_null, 1) := by decide +kernel
theorem d11_9 : decode prog_41_method_3_code 9 = .ok (.aload_n 0, 1) := by decide +kernel
theorem d11_10 : decode prog_41_method_3_code 10 = .ok (.invokespecial 35, 3) := by decide +kernel
theorem d11_13 : decode prog_41_method_3_code 13 = .ok (.areturn, 1) := by decide +kernel
theorem d12_0 : decode prog_41_method_1_code 0 = .ok (.aload_n 0, 1) := by decide +kernel
theorem d12_1 : decode prog_41_method_1_code 1 = .ok (.aload_n 1, 1) := by decide +kernel
theorem d12_2 : decode prog_41_method_1_code 2 = .ok (.aload_n 2, 1) := by decide +kernel
theorem d12_3 : decode prog_41_method_1_code 3 = .ok (.aload_n 3, 1) := by decide +kernel
theorem d12_4 : decode prog_41_method_1_code 4 = .ok (.aload 4, 2) := by decide +kernel
theorem d12_6 : decode prog_41_method_1_code 6 = .ok (.aconst_null, 1) := by decide +kernel
theorem d12_7 : decode prog_41_method_1_code 7 = .ok (.invokespecial 1, 3) := by decide +kernel
theorem d12_10 : decode prog_41_method_1_code 10 = .ok (.return_, 1) := by decide +kernel
theorem d13_0 : decode prog_41_method_2_code 0 = .ok (.aload_n 0, 1) := by decide +kernel
theorem d13_1 : decode prog_41_method_2_code 1 = .ok (.invokespecial 7, 3) := by decide +kernel
theorem d13_4 : decode prog_41_method_2_code 4 = .ok (.aload_n 0, 1) := by decide +kernel
theorem d13_5 : decode prog_41_method_2_code 5 = .ok (.aload_n 1, 1) := by decide +kernel
theorem d13_6 : decode prog_41_method_2_code 6 = .ok (.putfield 12, 3) := by decide +kernel
theorem d13_9 : decode prog_41_method_2_code 9 = .ok (.aload_n 0, 1) := by decide +kernel
theorem d13_10 : decode prog_41_method_2_code 10 = .ok (.aload_n 2, 1) := by decide +kernel
theorem d13_11 : decode prog_41_method_2_code 11 = .ok (.putfield 16, 3) := by decide +kernel
theorem d13_14 : decode prog_41_method_2_code 14 = .ok (.aload_n 0, 1) := by decide +kernel
theorem d13_15 : decode prog_41_method_2_code 15 = .ok (.aload_n 3, 1) := by decide +kernel
theorem d13_16 : decode prog_41_method_2_code 16 = .ok (.putfield 20, 3) := by decide +kernel
theorem d13_19 : decode prog_41_method_2_code 19 = .ok (.aload_n 0, 1) := by decide +kernel
theorem d13_20 : decode prog_41_method_2_code 20 = .ok (.aload 4, 2) := by decide +kernel
theorem d13_22 : decode prog_41_method_2_code 22 = .ok (.putfield 23, 3) := by decide +kernel
theorem d13_25 : decode prog_41_method_2_code 25 = .ok (.aload_n 0, 1) := by decide +kernel
theorem d13_26 : decode prog_41_method_2_code 26 = .ok (.aload 5, 2) := by decide +kernel
theorem d13_28 : decode prog_41_method_2_code 28 = .ok (.putfield 26, 3) := by decide +kernel
theorem d13_31 : decode prog_41_method_2_code 31 = .ok (.return_, 1) := by decide +kernel
theorem d14_0 : decode prog_6_method_2_code 0 = .ok (.new 8, 3) := by decide +kernel
theorem d14_3 : decode prog_6_method_2_code 3 = .ok (.dup, 1) := by decide +kernel
theorem d14_4 : decode prog_6_method_2_code 4 = .ok (.getstatic 27, 3) := by decide +kernel
theorem d14_7 : decode prog_6_method_2_code 7 = .ok (.aload_n 0, 1) := by decide +kernel
theorem d14_8 : decode prog_6_method_2_code 8 = .ok (.invokestatic 32, 3) := by decide +kernel
theorem d14_11 : decode prog_6_method_2_code 11 = .ok (.invokespecial 36, 3) := by decide +kernel
theorem d14_14 : decode prog_6_method_2_code 14 = .ok (.areturn, 1) := by decide +kernel
theorem d15_0 : decode jdk_40_method_36_code 0 = .ok (.getstatic 90, 3) := by decide +kernel
theorem d15_3 : decode jdk_40_method_36_code 3 = .ok (.areturn, 1) := by decide +kernel
theorem d16_0 : decode prog_6_method_1_code 0 = .ok (.aload_n 0, 1) := by decide +kernel
theorem d16_1 : decode prog_6_method_1_code 1 = .ok (.invokespecial 1, 3) := by decide +kernel
theorem d16_4 : decode prog_6_method_1_code 4 = .ok (.aload_n 0, 1) := by decide +kernel
theorem d16_5 : decode prog_6_method_1_code 5 = .ok (.aload_n 1, 1) := by decide +kernel
theorem d16_6 : decode prog_6_method_1_code 6 = .ok (.putfield 7, 3) := by decide +kernel
theorem d16_9 : decode prog_6_method_1_code 9 = .ok (.aload_n 0, 1) := by decide +kernel
theorem d16_10 : decode prog_6_method_1_code 10 = .ok (.aload_n 2, 1) := by decide +kernel
theorem d16_11 : decode prog_6_method_1_code 11 = .ok (.putfield 13, 3) := by decide +kernel
theorem d16_14 : decode prog_6_method_1_code 14 = .ok (.aload_n 0, 1) := by decide +kernel
theorem d16_15 : decode prog_6_method_1_code 15 = .ok (.aload_n 3, 1) := by decide +kernel
theorem d16_16 : decode prog_6_method_1_code 16 = .ok (.invokestatic 17, 3) := by decide +kernel
theorem d16_19 : decode prog_6_method_1_code 19 = .ok (.putfield 23, 3) := by decide +kernel
theorem d16_22 : decode prog_6_method_1_code 22 = .ok (.return_, 1) := by decide +kernel
theorem d17_0 : decode jdk_40_method_48_code 0 = .ok (.aload_n 0, 1) := by decide +kernel
theorem d17_1 : decode jdk_40_method_48_code 1 = .ok (.invokestatic 112, 3) := by decide +kernel
theorem d17_4 : decode jdk_40_method_48_code 4 = .ok (.areturn, 1) := by decide +kernel
theorem d18_0 : decode jdk_56_method_3_code 0 = .ok (.aload_n 0, 1) := by decide +kernel
theorem d18_1 : decode jdk_56_method_3_code 1 = .ok (.instanceof 10, 3) := by decide +kernel
theorem d18_4 : decode jdk_56_method_3_code 4 = .ok (.ifCond .ne 22, 3) := by decide +kernel
theorem d18_7 : decode jdk_56_method_3_code 7 = .ok (.aload_n 0, 1) := by decide +kernel
theorem d18_8 : decode jdk_56_method_3_code 8 = .ok (.instanceof 12, 3) := by decide +kernel
theorem d18_11 : decode jdk_56_method_3_code 11 = .ok (.ifCond .eq 20, 3) := by decide +kernel
theorem d18_14 : decode jdk_56_method_3_code 14 = .ok (.aload_n 0, 1) := by decide +kernel
theorem d18_15 : decode jdk_56_method_3_code 15 = .ok (.checkcast 12, 3) := by decide +kernel
theorem d18_18 : decode jdk_56_method_3_code 18 = .ok (.astore_n 1, 1) := by decide +kernel
theorem d18_19 : decode jdk_56_method_3_code 19 = .ok (.aload_n 1, 1) := by decide +kernel
theorem d18_20 : decode jdk_56_method_3_code 20 = .ok (.getfield 14, 3) := by decide +kernel
theorem d18_23 : decode jdk_56_method_3_code 23 = .ok (.ifCond .ne 8, 3) := by decide +kernel
theorem d18_26 : decode jdk_56_method_3_code 26 = .ok (.aload_n 0, 1) := by decide +kernel
theorem d18_27 : decode jdk_56_method_3_code 27 = .ok (.checkcast 18, 3) := by decide +kernel
theorem d18_30 : decode jdk_56_method_3_code 30 = .ok (.areturn, 1) := by decide +kernel
theorem d19_0 : decode prog_20_method_1_code 0 = .ok (.aload_n 0, 1) := by decide +kernel
theorem d19_1 : decode prog_20_method_1_code 1 = .ok (.invokespecial 1, 3) := by decide +kernel
theorem d19_4 : decode prog_20_method_1_code 4 = .ok (.aload_n 0, 1) := by decide +kernel
theorem d19_5 : decode prog_20_method_1_code 5 = .ok (.new 7, 3) := by decide +kernel
theorem d19_8 : decode prog_20_method_1_code 8 = .ok (.dup, 1) := by decide +kernel
theorem d19_9 : decode prog_20_method_1_code 9 = .ok (.invokespecial 9, 3) := by decide +kernel
theorem d19_12 : decode prog_20_method_1_code 12 = .ok (.putfield 10, 3) := by decide +kernel
theorem d19_15 : decode prog_20_method_1_code 15 = .ok (.aload_n 0, 1) := by decide +kernel
theorem d19_16 : decode prog_20_method_1_code 16 = .ok (.new 7, 3) := by decide +kernel
theorem d19_19 : decode prog_20_method_1_code 19 = .ok (.dup, 1) := by decide +kernel
theorem d19_20 : decode prog_20_method_1_code 20 = .ok (.invokespecial 9, 3) := by decide +kernel
theorem d19_23 : decode prog_20_method_1_code 23 = .ok (.putfield 16, 3) := by decide +kernel
theorem d19_26 : decode prog_20_method_1_code 26 = .ok (.aload_n 0, 1) := by decide +kernel
theorem d19_27 : decode prog_20_method_1_code 27 = .ok (.new 7, 3) := by decide +kernel
theorem d19_30 : decode prog_20_method_1_code 30 = .ok (.dup, 1) := by decide +kernel
theorem d19_31 : decode prog_20_method_1_code 31 = .ok (.invokespecial 9, 3) := by decide +kernel
theorem d19_34 : decode prog_20_method_1_code 34 = .ok (.putfield 19, 3) := by decide +kernel
theorem d19_37 : decode prog_20_method_1_code 37 = .ok (.aload_n 0, 1) := by decide +kernel
theorem d19_38 : decode prog_20_method_1_code 38 = .ok (.new 22, 3) := by decide +kernel
theorem d19_41 : decode prog_20_method_1_code 41 = .ok (.dup, 1) := by decide +kernel
theorem d19_42 : decode prog_20_method_1_code 42 = .ok (.invokespecial 24, 3) := by decide +kernel
theorem d19_45 : decode prog_20_method_1_code 45 = .ok (.putfield 25, 3) := by decide +kernel
theorem d19_48 : decode prog_20_method_1_code 48 = .ok (.aload_n 0, 1) := by decide +kernel
theorem d19_49 : decode prog_20_method_1_code 49 = .ok (.new 7, 3) := by decide +kernel
theorem d19_52 : decode prog_20_method_1_code 52 = .ok (.dup, 1) := by decide +kernel
theorem d19_53 : decode prog_20_method_1_code 53 = .ok (.invokespecial 9, 3) := by decide +kernel
theorem d19_56 : decode prog_20_method_1_code 56 = .ok (.putfield 29, 3) := by decide +kernel
theorem d19_59 : decode prog_20_method_1_code 59 = .ok (.aload_n 0, 1) := by decide +kernel
theorem d19_60 : decode prog_20_method_1_code 60 = .ok (.new 7, 3) := by decide +kernel
theorem d19_63 : decode prog_20_method_1_code 63 = .ok (.dup, 1) := by decide +kernel
theorem d19_64 : decode prog_20_method_1_code 64 = .ok (.invokespecial 9, 3) := by decide +kernel
theorem d19_67 : decode prog_20_method_1_code 67 = .ok (.putfield 32, 3) := by decide +kernel
theorem d19_70 : decode prog_20_method_1_code 70 = .ok (.aload_n 0, 1) := by decide +kernel
theorem d19_71 : decode prog_20_method_1_code 71 = .ok (.aload_n 1, 1) := by decide +kernel
theorem d19_72 : decode prog_20_method_1_code 72 = .ok (.putfield 35, 3) := by decide +kernel
theorem d19_75 : decode prog_20_method_1_code 75 = .ok (.return_, 1) := by decide +kernel
theorem d20_0 : decode jdk_69_method_7_code 0 = .ok (.aload_n 0, 1) := by decide +kernel
theorem d20_1 : decode jdk_69_method_7_code 1 = .ok (.invokespecial 43, 3) := by decide +kernel
theorem d20_4 : decode jdk_69_method_7_code 4 = .ok (.aload_n 0, 1) := by decide +kernel
theorem d20_5 : decode jdk_69_method_7_code 5 = .ok (.ldc 92, 2) := by decide +kernel
theorem d20_7 : decode jdk_69_method_7_code 7 = .ok (.putfield 81, 3) := by decide +kernel
theorem d20_10 : decode jdk_69_method_7_code 10 = .ok (.return_, 1) := by decide +kernel
theorem d21_0 : decode jdk_71_method_1_code 0 = .ok (.aload_n 0, 1) := by decide +kernel
theorem d21_1 : decode jdk_71_method_1_code 1 = .ok (.invokespecial 1, 3) := by decide +kernel
theorem d21_4 : decode jdk_71_method_1_code 4 = .ok (.return_, 1) := by decide +kernel
theorem d22_0 : decode jdk_93_method_1_code 0 = .ok (.aload_n 0, 1) := by decide +kernel
theorem d22_1 : decode jdk_93_method_1_code 1 = .ok (.invokespecial 1, 3) := by decide +kernel
theorem d22_4 : decode jdk_93_method_1_code 4 = .ok (.aload_n 0, 1) := by decide +kernel
theorem d22_5 : decode jdk_93_method_1_code 5 = .ok (.new 7, 3) := by decide +kernel
theorem d22_8 : decode jdk_93_method_1_code 8 = .ok (.dup, 1) := by decide +kernel
theorem d22_9 : decode jdk_93_method_1_code 9 = .ok (.invokespecial 9, 3) := by decide +kernel
theorem d22_12 : decode jdk_93_method_1_code 12 = .ok (.putfield 10, 3) := by decide +kernel
theorem d22_15 : decode jdk_93_method_1_code 15 = .ok (.return_, 1) := by decide +kernel
theorem d23_0 : decode jdk_91_method_1_code 0 = .ok (.aload_n 0, 1) := by decide +kernel
theorem d23_1 : decode jdk_91_method_1_code 1 = .ok (.invokespecial 1, 3) := by decide +kernel
theorem d23_4 : decode jdk_91_method_1_code 4 = .ok (.return_, 1) := by decide +kernel
theorem d24_0 : decode jdk_22_method_1_code 0 = .ok (.aload_n 0, 1) := by decide +kernel
theorem d24_1 : decode jdk_22_method_1_code 1 = .ok (.invokespecial 1, 3) := by decide +kernel
theorem d24_4 : decode jdk_22_method_1_code 4 = .ok (.return_, 1) := by decide +kernel
theorem d25_0 : decode prog_20_method_10_code 0 = .ok (.aload_n 0, 1) := by decide +kernel
theorem d25_1 : decode prog_20_method_10_code 1 = .ok (.getfield 49, 3) := by decide +kernel
theorem d25_4 : decode prog_20_method_10_code 4 = .ok (.ifnull 7, 3) := by decide +kernel
theorem d25_7 : decode prog_20_method_10_code 7 = .ok (.iconst 1, 1) := by decide +kernel
theorem d25_8 : decode prog_20_method_10_code 8 = .ok (.goto 4, 3) := by decide +kernel
theorem d25_11 : decode prog_20_method_10_code 11 = .ok (.iconst 0, 1) := by decide +kernel
theorem d25_12 : decode prog_20_method_10_code 12 = .ok (.ireturn, 1) := by decide +kernel
theorem d26_0 : decode prog_20_method_9_code 0 = .ok (.aload_n 0, 1) := by decide +kernel
theorem d26_1 : decode prog_20_method_9_code 1 = .ok (.getfield 16, 3) := by decide +kernel
theorem d26_4 : decode prog_20_method_9_code 4 = .ok (.aload_n 1, 1) := by decide +kernel
theorem d26_5 : decode prog_20_method_9_code 5 = .ok (.invokeinterface 71 2, 5) := by decide +kernel
theorem d26_10 : decode prog_20_method_9_code 10 = .ok (.checkcast 104, 3) := by decide +kernel
theorem d26_13 : decode prog_20_method_9_code 13 = .ok (.astore_n 2, 1) := by decide +kernel
theorem d26_14 : decode prog_20_method_9_code 14 = .ok (.aload_n 2, 1) := by decide +kernel
theorem d26_15 : decode prog_20_method_9_code 15 = .ok (.ifnonnull 21, 3) := by decide +kernel
theorem d26_18 : decode prog_20_method_9_code 18 = .ok (.aload_n 0, 1) := by decide +kernel
theorem d26_19 : decode prog_20_method_9_code 19 = .ok (.getfield 10, 3) := by decide +kernel
theorem d26_22 : decode prog_20_method_9_code 22 = .ok (.aload_n 1, 1) := by decide +kernel
theorem d26_23 : decode prog_20_method_9_code 23 = .ok (.invokeinterface 39 2, 5) := by decide +kernel
theorem d26_28 : decode prog_20_method_9_code 28 = .ok (.ifCond .ne 8, 3) := by decide +kernel
theorem d26_31 : decode prog_20_method_9_code 31 = .ok (.aload_n 0, 1) := by decide +kernel
theorem d26_32 : decode prog_20_method_9_code 32 = .ok (.getfield 49, 3) := by decide +kernel
theorem d26_35 : decode prog_20_method_9_code 35 = .ok (.astore_n 2, 1) := by decide +kernel
theorem d26_36 : decode prog_20_method_9_code 36 = .ok (.aload_n 2, 1) := by decide +kernel
theorem d26_37 : decode prog_20_method_9_code 37 = .ok (.areturn, 1) := by decide +kernel
theorem d27_0 : decode jdk_69_method_12_code 0 = .ok (.aload_n 0, 1) := by decide +kernel
theorem d27_1 : decode jdk_69_method_12_code 1 = .ok (.aload_n 1, 1) := by decide +kernel
theorem d27_2 : decode jdk_69_method_12_code 2 = .ok (.invokevirtual 158, 3) := by decide +kernel
theorem d27_5 : decode jdk_69_method_12_code 5 = .ok (.dup, 1) := by decide +kernel
theorem d27_6 : decode jdk_69_method_12_code 6 = .ok (.astore_n 2, 1) := by decide +kernel
theorem d27_7 : decode jdk_69_method_12_code 7 = .ok (.ifnonnull 7, 3) := by decide +kernel
theorem d27_10 : decode jdk_69_method_12_code 10 = .ok (.aconst_null, 1) := by decide +kernel
theorem d27_11 : decode jdk_69_method_12_code 11 = .ok (.goto 7, 3) := by decide +kernel
theorem d27_14 : decode jdk_69_method_12_code 14 = .ok (.aload_n 2, 1) := by decide +kernel
theorem d27_15 : decode jdk_69_method_12_code 15 = .ok (.getfield 162, 3) := by decide +kernel
theorem d27_18 : decode jdk_69_method_12_code 18 = .ok (.areturn, 1) := by decide +kernel
theorem d28_0 : decode jdk_69_method_13_code 0 = .ok (.aload_n 0, 1) := by decide +kernel
theorem d28_1 : decode jdk_69_method_13_code 1 = .ok (.getfield 105, 3) := by decide +kernel
theorem d28_4 : decode jdk_69_method_13_code 4 = .ok (.dup, 1) := by decide +kernel
theorem d28_5 : decode jdk_69_method_13_code 5 = .ok (.astore_n 2, 1) := by decide +kernel
theorem d28_6 : decode jdk_69_method_13_code 6 = .ok (.ifnull 142, 3) := by decide +kernel
theorem d28_9 : decode jdk_69_method_13_code 9 = .ok (.aload_n 2, 1) := by decide +kernel
theorem d28_10 : decode jdk_69_method_13_code 10 = .ok (.arraylength, 1) := by decide +kernel
theorem d28_11 : decode jdk_69_method_13_code 11 = .ok (.dup, 1) := by decide +kernel
theorem d28_12 : decode jdk_69_method_13_code 12 = .ok (.istore 5, 2) := by decide +kernel
theorem d28_14 : decode jdk_69_method_13_code 14 = .ok (.ifCond .le 134, 3) := by decide +kernel
theorem d28_17 : decode jdk_69_method_13_code 17 = .ok (.aload_n 2, 1) := by decide +kernel
theorem d28_18 : decode jdk_69_method_13_code 18 = .ok (.iload 5, 2) := by decide +kernel
theorem d28_20 : decode jdk_69_method_13_code 20 = .ok (.iconst 1, 1) := by decide +kernel
theorem d28_21 : decode jdk_69_method_13_code 21 = .ok (.isub, 1) := by decide +kernel
theorem d28_22 : decode jdk_69_method_13_code 22 = .ok (.aload_n 1, 1) := by decide +kernel
theorem d28_23 : decode jdk_69_method_13_code 23 = .ok (.invokestatic 149, 3) := by decide +kernel
theorem d28_26 : decode jdk_69_method_13_code 26 = .ok (.dup, 1) := by decide +kernel
theorem d28_27 : decode jdk_69_method_13_code 27 = .ok (.istore 6, 2) := by decide +kernel
theorem d28_29 : decode jdk_69_method_13_code 29 = .ok (.iand, 1) := by decide +kernel
theorem d28_30 : decode jdk_69_method_13_code 30 = .ok (.aaload, 1) := by decide +kernel
theorem d28_31 : decode jdk_69_method_13_code 31 = .ok (.dup, 1) := by decide +kernel
theorem d28_32 : decode jdk_69_method_13_code 32 = .ok (.astore_n 3, 1) := by decide +kernel
theorem d28_33 : decode jdk_69_method_13_code 33 = .ok (.ifnull 115, 3) := by decide +kernel
theorem d28_36 : decode jdk_69_method_13_code 36 = .ok (.aload_n 3, 1) := by decide +kernel
theorem d28_37 : decode jdk_69_method_13_code 37 = .ok (.getfield 168, 3) := by decide +kernel
theorem d28_40 : decode jdk_69_method_13_code 40 = .ok (.iload 6, 2) := by decide +kernel
theorem d28_42 : decode jdk_69_method_13_code 42 = .ok (.if_icmp .ne 29, 3) := by decide +kernel
theorem d28_45 : decode jdk_69_method_13_code 45 = .ok (.aload_n 3, 1) := by decide +kernel
theorem d28_46 : decode jdk_69_method_13_code 46 = .ok (.getfield 170, 3) := by decide +kernel
theorem d28_49 : decode jdk_69_method_13_code 49 = .ok (.dup, 1) := by decide +kernel
theorem d28_50 : decode jdk_69_method_13_code 50 = .ok (.astore 7, 2) := by decide +kernel
theorem d28_52 : decode jdk_69_method_13_code 52 = .ok (.aload_n 1, 1) := by decide +kernel
theorem d28_53 : decode jdk_69_method_13_code 53 = .ok (.if_acmp .eq 16, 3) := by decide +kernel
theorem d28_56 : decode jdk_69_method_13_code 56 = .ok (.aload_n 1, 1) := by decide +kernel
theorem d28_57 : decode jdk_69_method_13_code 57 = .ok (.ifnull 14, 3) := by decide +kernel
theorem d28_60 : decode jdk_69_method_13_code 60 = .ok (.aload_n 1, 1) := by decide +kernel
theorem d28_61 : decode jdk_69_method_13_code 61 = .ok (.aload 7, 2) := by decide +kernel
theorem d28_63 : decode jdk_69_method_13_code 63 = .ok (.invokevirtual 173, 3) := by decide +kernel
theorem d28_66 : decode jdk_69_method_13_code 66 = .ok (.ifCond .eq 5, 3) := by decide +kernel
theorem d28_69 : decode jdk_69_method_13_code 69 = .ok (.aload_n 3, 1) := by decide +kernel
theorem d28_70 : decode jdk_69_method_13_code 70 = .ok (.areturn, 1) := by decide +kernel
theorem d28_71 : decode jdk_69_method_13_code 71 = .ok (.aload_n 3, 1) := by decide +kernel
theorem d28_72 : decode jdk_69_method_13_code 72 = .ok (.getfield 177, 3) := by decide +kernel
theorem d28_75 : decode jdk_69_method_13_code 75 = .ok (.dup, 1) := by decide +kernel
theorem d28_76 : decode jdk_69_method_13_code 76 = .ok (.astore 4, 2) := by decide +kernel
theorem d28_78 : decode jdk_69_method_13_code 78 = .ok (.ifnull 70, 3) := by decide +kernel
theorem d28_148 : decode jdk_69_method_13_code 148 = .ok (.aconst_null, 1) := by decide +kernel
theorem d28_149 : decode jdk_69_method_13_code 149 = .ok (.areturn, 1) := by decide +kernel
theorem d29_0 : decode jdk_69_method_14_code 0 = .ok (.aload_n 0, 1) := by decide +kernel
theorem d29_1 : decode jdk_69_method_14_code 1 = .ok (.aload_n 1, 1) := by decide +kernel
theorem d29_2 : decode jdk_69_method_14_code 2 = .ok (.invokevirtual 158, 3) := by decide +kernel
theorem d29_5 : decode jdk_69_method_14_code 5 = .ok (.ifnull 7, 3) := by decide +kernel
theorem d29_12 : decode jdk_69_method_14_code 12 = .ok (.iconst 0, 1) := by decide +kernel
theorem d29_13 : decode jdk_69_method_14_code 13 = .ok (.ireturn, 1) := by decide +kernel
theorem d30_0 : decode prog_20_method_16_code 0 = .ok (.aload_n 0, 1) := by decide +kernel
theorem d30_1 : decode prog_20_method_16_code 1 = .ok (.getfield 16, 3) := by decide +kernel
theorem d30_4 : decode prog_20_method_16_code 4 = .ok (.aload_n 1, 1) := by decide +kernel
theorem d30_5 : decode prog_20_method_16_code 5 = .ok (.aload_n 2, 1) := by decide +kernel
theorem d30_6 : decode prog_20_method_16_code 6 = .ok (.invokeinterface 134 3, 5) := by decide +kernel
theorem d30_11 : decode prog_20_method_16_code 11 = .ok (.pop, 1) := by decide +kernel
theorem d30_12 : decode prog_20_method_16_code 12 = .ok (.return_, 1) := by decide +kernel
theorem d31_0 : decode jdk_69_method_15_code 0 = .ok (.aload_n 0, 1) := by decide +kernel
theorem d31_1 : decode jdk_69_method_15_code 1 = .ok (.aload_n 1, 1) := by decide +kernel
theorem d31_2 : decode jdk_69_method_15_code 2 = .ok (.invokestatic 149, 3) := by decide +kernel
theorem d31_5 : decode jdk_69_method_15_code 5 = .ok (.aload_n 1, 1) := by decide +kernel
theorem d31_6 : decode jdk_69_method_15_code 6 = .ok (.aload_n 2, 1) := by decide +kernel
theorem d31_7 : decode jdk_69_method_15_code 7 = .ok (.iconst 0, 1) := by decide +kernel
theorem d31_8 : decode jdk_69_method_15_code 8 = .ok (.iconst 1, 1) := by decide +kernel
theorem d31_9 : decode jdk_69_method_15_code 9 = .ok (.invokevirtual 152, 3) := by decide +kernel
theorem d31_12 : decode jdk_69_method_15_code 12 = .ok (.areturn, 1) := by decide +kernel
theorem d32_0 : decode jdk_69_method_1_code 0 = .ok (.aload_n 0, 1) := by decide +kernel
theorem d32_1 : decode jdk_69_method_1_code 1 = .ok (.ifnonnull 7, 3) := by decide +kernel
theorem d32_8 : decode jdk_69_method_1_code 8 = .ok (.aload_n 0, 1) := by decide +kernel
theorem d32_9 : decode jdk_69_method_1_code 9 = .ok (.invokevirtual 1, 3) := by decide +kernel
theorem d32_12 : decode jdk_69_method_1_code 12 = .ok (.dup, 1) := by decide +kernel
theorem d32_13 : decode jdk_69_method_1_code 13 = .ok (.istore_n 1, 1) := by decide +kernel
theorem d32_14 : decode jdk_69_method_1_code 14 = .ok (.iload_n 1, 1) := by decide +kernel
theorem d32_15 : decode jdk_69_method_1_code 15 = .ok (.bipush 16, 2) := by decide +kernel
theorem d32_17 : decode jdk_69_method_1_code 17 = .ok (.iushr, 1) := by decide +kernel
theorem d32_18 : decode jdk_69_method_1_code 18 = .ok (.ixor, 1) := by decide +kernel
theorem d32_19 : decode jdk_69_method_1_code 19 = .ok (.ireturn, 1) := by decide +kernel
theorem d33_0 : decode jdk_42_method_78_code 0 = .ok (.aload_n 0, 1) := by decide +kernel
theorem d33_1 : decode jdk_42_method_78_code 1 = .ok (.getfield 19, 3) := by decide +kernel
theorem d33_4 : decode jdk_42_method_78_code 4 = .ok (.istore_n 1, 1) := by decide +kernel
theorem d33_5 : decode jdk_42_method_78_code 5 = .ok (.iload_n 1, 1) := by decide +kernel
theorem d33_6 : decode jdk_42_method_78_code 6 = .ok (.ifCond .ne 52, 3) := by decide +kernel
theorem d33_9 : decode jdk_42_method_78_code 9 = .ok (.aload_n 0, 1) := by decide +kernel
theorem d33_10 : decode jdk_42_method_78_code 10 = .ok (.getfield 23, 3) := by decide +kernel
theorem d33_13 : decode jdk_42_method_78_code 13 = .ok (.ifCond .ne 45, 3) := by decide +kernel
theorem d33_16 : decode jdk_42_method_78_code 16 = .ok (.aload_n 0, 1) := by decide +kernel
theorem d33_17 : decode jdk_42_method_78_code 17 = .ok (.invokevirtual 492, 3) := by decide +kernel
theorem d33_20 : decode jdk_42_method_78_code 20 = .ok (.ifCond .eq 13, 3) := by decide +kernel
theorem d33_23 : decode jdk_42_method_78_code 23 = .ok (.aload_n 0, 1) := by decide +kernel
theorem d33_24 : decode jdk_42_method_78_code 24 = .ok (.getfield 9, 3) := by decide +kernel
theorem d33_27 : decode jdk_42_method_78_code 27 = .ok (.invokestatic 628, 3) := by decide +kernel
theorem d33_30 : decode jdk_42_method_78_code 30 = .ok (.goto 10, 3) := by decide +kernel
theorem d33_40 : decode jdk_42_method_78_code 40 = .ok (.istore_n 1, 1) := by decide +kernel
theorem d33_41 : decode jdk_42_method_78_code 41 = .ok (.iload_n 1, 1) := by decide +kernel
theorem d33_42 : decode jdk_42_method_78_code 42 = .ok (.ifCond .ne 11, 3) := by decide +kernel
theorem d33_45 : decode jdk_42_method_78_code 45 = .ok (.aload_n 0, 1) := by decide +kernel
theorem d33_46 : decode jdk_42_method_78_code 46 = .ok (.iconst 1, 1) := by decide +kernel
theorem d33_47 : decode jdk_42_method_78_code 47 = .ok (.putfield 23, 3) := by decide +kernel
theorem d33_50 : decode jdk_42_method_78_code 50 = .ok (.goto 8, 3) := by decide +kernel
theorem d33_53 : decode jdk_42_method_78_code 53 = .ok (.aload_n 0, 1) := by decide +kernel
theorem d33_54 : decode jdk_42_method_78_code 54 = .ok (.iload_n 1, 1) := by decide +kernel
theorem d33_55 : decode jdk_42_method_78_code 55 = .ok (.putfield 19, 3) := by decide +kernel
theorem d33_58 : decode jdk_42_method_78_code 58 = .ok (.iload_n 1, 1) := by decide +kernel
theorem d33_59 : decode jdk_42_method_78_code 59 = .ok (.ireturn, 1) := by decide +kernel
theorem d34_0 : decode jdk_42_method_154_code 0 = .ok (.getstatic 38, 3) := by decide +kernel
theorem d34_3 : decode jdk_42_method_154_code 3 = .ok (.ifCond .eq 14, 3) := by decide +kernel
theorem d34_6 : decode jdk_42_method_154_code 6 = .ok (.aload_n 0, 1) := by decide +kernel
theorem d34_7 : decode jdk_42_method_154_code 7 = .ok (.getfield 15, 3) := by decide +kernel
theorem d34_10 : decode jdk_42_method_154_code 10 = .ok (.ifCond .ne 7, 3) := by decide +kernel
theorem d34_13 : decode jdk_42_method_154_code 13 = .ok (.iconst 1, 1) := by decide +kernel
theorem d34_14 : decode jdk_42_method_154_code 14 = .ok (.goto 4, 3) := by decide +kernel
theorem d34_18 : decode jdk_42_method_154_code 18 = .ok (.ireturn, 1) := by decide +kernel
theorem d35_0 : decode jdk_43_method_21_code 0 = .ok (.aload_n 0, 1) := by decide +kernel
theorem d35_1 : decode jdk_43_method_21_code 1 = .ok (.arraylength, 1) := by decide +kernel
theorem d35_2 : decode jdk_43_method_21_code 2 = .ok (.lookupswitch 40 #[(0, 26), (1, 30)], 26) := by decide +kernel
theorem d35_32 : decode jdk_43_method_21_code 32 = .ok (.aload_n 0, 1) := by decide +kernel
theorem d35_33 : decode jdk_43_method_21_code 33 = .ok (.iconst 0, 1) := by decide +kernel
theorem d35_34 : decode jdk_43_method_21_code 34 = .ok (.baload, 1) := by decide +kernel
theorem d35_35 : decode jdk_43_method_21_code 35 = .ok (.sipush 255, 3) := by decide +kernel
theorem d35_38 : decode jdk_43_method_21_code 38 = .ok (.iand, 1) := by decide +kernel
theorem d35_39 : decode jdk_43_method_21_code 39 = .ok (.goto 12, 3) := by decide +kernel
theorem d35_51 : decode jdk_43_method_21_code 51 = .ok (.ireturn, 1) := by decide +kernel
theorem d36_0 : decode jdk_69_method_16_code 0 = .ok (.aload_n 0, 1) := by decide +kernel
theorem d36_1 : decode jdk_69_method_16_code 1 = .ok (.getfield 105, 3) := by decide +kernel
theorem d36_4 : decode jdk_69_method_16_code 4 = .ok (.dup, 1) := by decide +kernel
theorem d36_5 : decode jdk_69_method_16_code 5 = .ok (.astore 6, 2) := by decide +kernel
theorem d36_7 : decode jdk_69_method_16_code 7 = .ok (.ifnull 12, 3) := by decide +kernel
theorem d36_19 : decode jdk_69_method_16_code 19 = .ok (.aload_n 0, 1) := by decide +kernel
theorem d36_20 : decode jdk_69_method_16_code 20 = .ok (.invokevirtual 117, 3) := by decide +kernel
theorem d36_23 : decode jdk_69_method_16_code 23 = .ok (.dup, 1) := by decide +kernel
theorem d36_24 : decode jdk_69_method_16_code 24 = .ok (.astore 6, 2) := by decide +kernel
theorem d36_26 : decode jdk_69_method_16_code 26 = .ok (.arraylength, 1) := by decide +kernel
theorem d36_27 : decode jdk_69_method_16_code 27 = .ok (.istore 8, 2) := by decide +kernel
theorem d36_29 : decode jdk_69_method_16_code 29 = .ok (.aload 6, 2) := by decide +kernel
theorem d36_31 : decode jdk_69_method_16_code 31 = .ok (.iload 8, 2) := by decide +kernel
theorem d36_33 : decode jdk_69_method_16_code 33 = .ok (.iconst 1, 1) := by decide +kernel
theorem d36_34 : decode jdk_69_method_16_code 34 = .ok (.isub, 1) := by decide +kernel
theorem d36_35 : decode jdk_69_method_16_code 35 = .ok (.iload_n 1, 1) := by decide +kernel
theorem d36_36 : decode jdk_69_method_16_code 36 = .ok (.iand, 1) := by decide +kernel
theorem d36_37 : decode jdk_69_method_16_code 37 = .ok (.dup, 1) := by decide +kernel
theorem d36_38 : decode jdk_69_method_16_code 38 = .ok (.istore 9, 2) := by decide +kernel
theorem d36_40 : decode jdk_69_method_16_code 40 = .ok (.aaload, 1) := by decide +kernel
theorem d36_41 : decode jdk_69_method_16_code 41 = .ok (.dup, 1) := by decide +kernel
theorem d36_42 : decode jdk_69_method_16_code 42 = .ok (.astore 7, 2) := by decide +kernel
theorem d36_44 : decode jdk_69_method_16_code 44 = .ok (.ifnonnull 19, 3) := by decide +kernel
theorem d36_47 : decode jdk_69_method_16_code 47 = .ok (.aload 6, 2) := by decide +kernel
theorem d36_49 : decode jdk_69_method_16_code 49 = .ok (.iload 9, 2) := by decide +kernel
theorem d36_51 : decode jdk_69_method_16_code 51 = .ok (.aload_n 0, 1) := by decide +kernel
theorem d36_52 : decode jdk_69_method_16_code 52 = .ok (.iload_n 1, 1) := by decide +kernel
theorem d36_53 : decode jdk_69_method_16_code 53 = .ok (.aload_n 2, 1) := by decide +kernel
theorem d36_54 : decode jdk_69_method_16_code 54 = .ok (.aload_n 3, 1) := by decide +kernel
theorem d36_55 : decode jdk_69_method_16_code 55 = .ok (.aconst_null, 1) := by decide +kernel
theorem d36_56 : decode jdk_69_method_16_code 56 = .ok (.invokevirtual 186, 3) := by decide +kernel
theorem d36_59 : decode jdk_69_method_16_code 59 = .ok (.aastore, 1) := by decide +kernel
theorem d36_60 : decode jdk_69_method_16_code 60 = .ok (.goto 199, 3) := by decide +kernel
theorem d36_259 : decode jdk_69_method_16_code 259 = .ok (.aload_n 0, 1) := by decide +kernel
theorem d36_260 : decode jdk_69_method_16_code 260 = .ok (.dup, 1) := by decide +kernel
theorem d36_261 : decode jdk_69_method_16_code 261 = .ok (.getfield 202, 3) := by decide +kernel
theorem d36_264 : decode jdk_69_method_16_code 264 = .ok (.iconst 1, 1) := by decide +kernel
theorem d36_265 : decode jdk_69_method_16_code 265 = .ok (.iadd, 1) := by decide +kernel
theorem d36_266 : decode jdk_69_method_16_code 266 = .ok (.putfield 202, 3) := by decide +kernel
theorem d36_269 : decode jdk_69_method_16_code 269 = .ok (.aload_n 0, 1) := by decide +kernel
theorem d36_270 : decode jdk_69_method_16_code 270 = .ok (.dup, 1) := by decide +kernel
theorem d36_271 : decode jdk_69_method_16_code 271 = .ok (.getfield 156, 3) := by decide +kernel
theorem d36_274 : decode jdk_69_method_16_code 274 = .ok (.iconst 1, 1) := by decide +kernel
theorem d36_275 : decode jdk_69_method_16_code 275 = .ok (.iadd, 1) := by decide +kernel
theorem d36_276 : decode jdk_69_method_16_code 276 = .ok (.dup_x1, 1) := by decide +kernel
theorem d36_277 : decode jdk_69_method_16_code 277 = .ok (.putfield 156, 3) := by decide +kernel
theorem d36_280 : decode jdk_69_method_16_code 280 = .ok (.aload_n 0, 1) := by decide +kernel
theorem d36_281 : decode jdk_69_method_16_code 281 = .ok (.getfield 88, 3) := by decide +kernel
theorem d36_284 : decode jdk_69_method_16_code 284 = .ok (.if_icmp .le 8, 3) := by decide +kernel
theorem d36_292 : decode jdk_69_method_16_code 292 = .ok (.aload_n 0, 1) := by decide +kernel
theorem d36_293 : decode jdk_69_method_16_code 293 = .ok (.iload 5, 2) := by decide +kernel
theorem d36_295 : decode jdk_69_method_16_code 295 = .ok (.invokevirtual 205, 3) := by decide +kernel
theorem d36_298 : decode jdk_69_method_16_code 298 = .ok (.aconst_null, 1) := by decide +kernel
theorem d36_299 : decode jdk_69_method_16_code 299 = .ok (.areturn, 1) := by decide +kernel
theorem d37_0 : decode jdk_69_method_17_code 0 = .ok (.aload_n 0, 1) := by decide +kernel
theorem d37_1 : decode jdk_69_method_17_code 1 = .ok (.getfield 105, 3) := by decide +kernel
theorem d37_4 : decode jdk_69_method_17_code 4 = .ok (.astore_n 1, 1) := by decide +kernel
theorem d37_5 : decode jdk_69_method_17_code 5 = .ok (.aload_n 1, 1) := by decide +kernel
theorem d37_6 : decode jdk_69_method_17_code 6 = .ok (.ifnonnull 7, 3) := by decide +kernel
theorem d37_9 : decode jdk_69_method_17_code 9 = .ok (.iconst 0, 1) := by decide +kernel
theorem d37_10 : decode jdk_69_method_17_code 10 = .ok (.goto 5, 3) := by decide +kernel
theorem d37_15 : decode jdk_69_method_17_code 15 = .ok (.istore_n 2, 1) := by decide +kernel
theorem d37_16 : decode jdk_69_method_17_code 16 = .ok (.aload_n 0, 1) := by decide +kernel
theorem d37_17 : decode jdk_69_method_17_code 17 = .ok (.getfield 88, 3) := by decide +kernel
theorem d37_20 : decode jdk_69_method_17_code 20 = .ok (.istore_n 3, 1) := by decide +kernel
theorem d37_21 : decode jdk_69_method_17_code 21 = .ok (.iconst 0, 1) := by decide +kernel
theorem d37_22 : decode jdk_69_method_17_code 22 = .ok (.istore 5, 2) := by decide +kernel
theorem d37_24 : decode jdk_69_method_17_code 24 = .ok (.iload_n 2, 1) := by decide +kernel
theorem d37_25 : decode jdk_69_method_17_code 25 = .ok (.ifCond .le 42, 3) := by decide +kernel
theorem d37_67 : decode jdk_69_method_17_code 67 = .ok (.iload_n 3, 1) := by decide +kernel
theorem d37_68 : decode jdk_69_method_17_code 68 = .ok (.ifCond .le 9, 3) := by decide +kernel
theorem d37_77 : decode jdk_69_method_17_code 77 = .ok (.bipush 16, 2) := by decide +kernel
theorem d37_79 : decode jdk_69_method_17_code 79 = .ok (.istore 4, 2) := by decide +kernel
theorem d37_81 : decode jdk_69_method_17_code 81 = .ok (.bipush 12, 2) := by decide +kernel
theorem d37_83 : decode jdk_69_method_17_code 83 = .ok (.istore 5, 2) := by decide +kernel
theorem d37_85 : decode jdk_69_method_17_code 85 = .ok (.iload 5, 2) := by decide +kernel
theorem d37_87 : decode jdk_69_method_17_code 87 = .ok (.ifCond .ne 38, 3) := by decide +kernel
theorem d37_125 : decode jdk_69_method_17_code 125 = .ok (.aload_n 0, 1) := by decide +kernel
theorem d37_126 : decode jdk_69_method_17_code 126 = .ok (.iload 5, 2) := by decide +kernel
theorem d37_128 : decode jdk_69_method_17_code 128 = .ok (.putfield 88, 3) := by decide +kernel
theorem d37_131 : decode jdk_69_method_17_code 131 = .ok (.iload 4, 2) := by decide +kernel
theorem d37_133 : decode jdk_69_method_17_code 133 = .ok (.anewarray 163, 3) := by decide +kernel
theorem d37_136 : decode jdk_69_method_17_code 136 = .ok (.astore 6, 2) := by decide +kernel
theorem d37_138 : decode jdk_69_method_17_code 138 = .ok (.aload_n 0, 1) := by decide +kernel
theorem d37_139 : decode jdk_69_method_17_code 139 = .ok (.aload 6, 2) := by decide +kernel
theorem d37_141 : decode jdk_69_method_17_code 141 = .ok (.putfield 105, 3) := by decide +kernel
theorem d37_144 : decode jdk_69_method_17_code 144 = .ok (.aload_n 1, 1) := by decide +kernel
theorem d37_145 : decode jdk_69_method_17_code 145 = .ok (.ifnull 208, 3) := by decide +kernel
theorem d37_353 : decode jdk_69_method_17_code 353 = .ok (.aload 6, 2) := by decide +kernel
theorem d37_355 : decode jdk_69_method_17_code 355 = .ok (.areturn, 1) := by decide +kernel
theorem d38_0 : decode jdk_69_method_46_code 0 = .ok (.new 163, 3) := by decide +kernel
theorem d38_3 : decode jdk_69_method_46_code 3 = .ok (.dup, 1) := by decide +kernel
theorem d38_4 : decode jdk_69_method_46_code 4 = .ok (.iload_n 1, 1) := by decide +kernel
theorem d38_5 : decode jdk_69_method_46_code 5 = .ok (.aload_n 2, 1) := by decide +kernel
theorem d38_6 : decode jdk_69_method_46_code 6 = .ok (.aload_n 3, 1) := by decide +kernel
theorem d38_7 : decode jdk_69_method_46_code 7 = .ok (.aload 4, 2) := by decide +kernel
theorem d38_9 : decode jdk_69_method_46_code 9 = .ok (.invokespecial 375, 3) := by decide +kernel
theorem d38_12 : decode jdk_69_method_46_code 12 = .ok (.areturn, 1) := by decide +kernel
theorem d39_0 : decode jdk_70_method_1_code 0 = .ok (.aload_n 0, 1) := by decide +kernel
theorem d39_1 : decode jdk_70_method_1_code 1 = .ok (.invokespecial 1, 3) := by decide +kernel
theorem d39_4 : decode jdk_70_method_1_code 4 = .ok (.aload_n 0, 1) := by decide +kernel
theorem d39_5 : decode jdk_70_method_1_code 5 = .ok (.iload_n 1, 1) := by decide +kernel
theorem d39_6 : decode jdk_70_method_1_code 6 = .ok (.putfield 7, 3) := by decide +kernel
theorem d39_9 : decode jdk_70_method_1_code 9 = .ok (.aload_n 0, 1) := by decide +kernel
theorem d39_10 : decode jdk_70_method_1_code 10 = .ok (.aload_n 2, 1) := by decide +kernel
theorem d39_11 : decode jdk_70_method_1_code 11 = .ok (.putfield 13, 3) := by decide +kernel
theorem d39_14 : decode jdk_70_method_1_code 14 = .ok (.aload_n 0, 1) := by decide +kernel
theorem d39_15 : decode jdk_70_method_1_code 15 = .ok (.aload_n 3, 1) := by decide +kernel
theorem d39_16 : decode jdk_70_method_1_code 16 = .ok (.putfield 17, 3) := by decide +kernel
theorem d39_19 : decode jdk_70_method_1_code 19 = .ok (.aload_n 0, 1) := by decide +kernel
theorem d39_20 : decode jdk_70_method_1_code 20 = .ok (.aload 4, 2) := by decide +kernel
theorem d39_22 : decode jdk_70_method_1_code 22 = .ok (.putfield 20, 3) := by decide +kernel
theorem d39_25 : decode jdk_70_method_1_code 25 = .ok (.return_, 1) := by decide +kernel
theorem d40_0 : decode jdk_69_method_52_code 0 = .ok (.return_, 1) := by decide +kernel
theorem d41_0 : decode prog_20_method_17_code 0 = .ok (.aload_n 0, 1) := by decide +kernel
theorem d41_1 : decode prog_20_method_17_code 1 = .ok (.aload_n 1, 1) := by decide +kernel
theorem d41_2 : decode prog_20_method_17_code 2 = .ok (.putfield 49, 3) := by decide +kernel
theorem d41_5 : decode prog_20_method_17_code 5 = .ok (.return_, 1) := by decide +kernel
theorem d42_0 : decode jdk_42_method_66_code 0 = .ok (.aload_n 0, 1) := by decide +kernel
theorem d42_1 : decode jdk_42_method_66_code 1 = .ok (.aload_n 1, 1) := by decide +kernel
theorem d42_2 : decode jdk_42_method_66_code 2 = .ok (.if_acmp .ne 5, 3) := by decide +kernel
theorem d42_5 : decode jdk_42_method_66_code 5 = .ok (.iconst 1, 1) := by decide +kernel
theorem d42_6 : decode jdk_42_method_66_code 6 = .ok (.ireturn, 1) := by decide +kernel
theorem d42_7 : decode jdk_42_method_66_code 7 = .ok (.aload_n 1, 1) := by decide +kernel
theorem d42_8 : decode jdk_42_method_66_code 8 = .ok (.instanceof 10, 3) := by decide +kernel
theorem d42_11 : decode jdk_42_method_66_code 11 = .ok (.ifCond .eq 43, 3) := by decide +kernel
theorem d42_14 : decode jdk_42_method_66_code 14 = .ok (.aload_n 1, 1) := by decide +kernel
theorem d42_15 : decode jdk_42_method_66_code 15 = .ok (.checkcast 10, 3) := by decide +kernel
theorem d42_18 : decode jdk_42_method_66_code 18 = .ok (.astore_n 2, 1) := by decide +kernel
theorem d42_19 : decode jdk_42_method_66_code 19 = .ok (.getstatic 38, 3) := by decide +kernel
theorem d42_22 : decode jdk_42_method_66_code 22 = .ok (.ifCond .eq 14, 3) := by decide +kernel
theorem d42_25 : decode jdk_42_method_66_code 25 = .ok (.aload_n 0, 1) := by decide +kernel
theorem d42_26 : decode jdk_42_method_66_code 26 = .ok (.getfield 15, 3) := by decide +kernel
theorem d42_29 : decode jdk_42_method_66_code 29 = .ok (.aload_n 2, 1) := by decide +kernel
theorem d42_30 : decode jdk_42_method_66_code 30 = .ok (.getfield 15, 3) := by decide +kernel
theorem d42_33 : decode jdk_42_method_66_code 33 = .ok (.if_icmp .ne 21, 3) := by decide +kernel
theorem d42_36 : decode jdk_42_method_66_code 36 = .ok (.aload_n 0, 1) := by decide +kernel
theorem d42_37 : decode jdk_42_method_66_code 37 = .ok (.getfield 9, 3) := by decide +kernel
theorem d42_40 : decode jdk_42_method_66_code 40 = .ok (.aload_n 2, 1) := by decide +kernel
theorem d42_41 : decode jdk_42_method_66_code 41 = .ok (.getfield 9, 3) := by decide +kernel
theorem d42_44 : decode jdk_42_method_66_code 44 = .ok (.invokestatic 541, 3) := by decide +kernel
theorem d42_47 : decode jdk_42_method_66_code 47 = .ok (.ifCond .eq 7, 3) := by decide +kernel
theorem d42_50 : decode jdk_42_method_66_code 50 = .ok (.iconst 1, 1) := by decide +kernel
theorem d42_51 : decode jdk_42_method_66_code 51 = .ok (.goto 4, 3) := by decide +kernel
theorem d42_54 : decode jdk_42_method_66_code 54 = .ok (.iconst 0, 1) := by decide +kernel
theorem d42_55 : decode jdk_42_method_66_code 55 = .ok (.ireturn, 1) := by decide +kernel
theorem d43_0 : decode jdk_43_method_13_code 0 = .ok (.aload_n 0, 1) := by decide +kernel
theorem d43_1 : decode jdk_43_method_13_code 1 = .ok (.arraylength, 1) := by decide +kernel
theorem d43_2 : decode jdk_43_method_13_code 2 = .ok (.aload_n 1, 1) := by decide +kernel
theorem d43_3 : decode jdk_43_method_13_code 3 = .ok (.arraylength, 1) := by decide +kernel
theorem d43_4 : decode jdk_43_method_13_code 4 = .ok (.if_icmp .ne 30, 3) := by decide +kernel
theorem d43_7 : decode jdk_43_method_13_code 7 = .ok (.iconst 0, 1) := by decide +kernel
theorem d43_8 : decode jdk_43_method_13_code 8 = .ok (.istore_n 2, 1) := by decide +kernel
theorem d43_9 : decode jdk_43_method_13_code 9 = .ok (.iload_n 2, 1) := by decide +kernel
theorem d43_10 : decode jdk_43_method_13_code 10 = .ok (.aload_n 0, 1) := by decide +kernel
theorem d43_11 : decode jdk_43_method_13_code 11 = .ok (.arraylength, 1) := by decide +kernel
theorem d43_12 : decode jdk_43_method_13_code 12 = .ok (.if_icmp .ge 20, 3) := by decide +kernel
theorem d43_15 : decode jdk_43_method_13_code 15 = .ok (.aload_n 0, 1) := by decide +kernel
theorem d43_16 : decode jdk_43_method_13_code 16 = .ok (.iload_n 2, 1) := by decide +kernel
theorem d43_17 : decode jdk_43_method_13_code 17 = .ok (.baload, 1) := by decide +kernel
theorem d43_18 : decode jdk_43_method_13_code 18 = .ok (.aload_n 1, 1) := by decide +kernel
theorem d43_19 : decode jdk_43_method_13_code 19 = .ok (.iload_n 2, 1) := by decide +kernel
theorem d43_20 : decode jdk_43_method_13_code 20 = .ok (.baload, 1) := by decide +kernel
theorem d43_21 : decode jdk_43_method_13_code 21 = .ok (.if_icmp .eq 5, 3) := by decide +kernel
theorem d43_24 : decode jdk_43_method_13_code 24 = .ok (.iconst 0, 1) := by decide +kernel
theorem d43_25 : decode jdk_43_method_13_code 25 = .ok (.ireturn, 1) := by decide +kernel
theorem d43_26 : decode jdk_43_method_13_code 26 = .ok (.iinc 2 1, 3) := by decide +kernel
theorem d43_29 : decode jdk_43_method_13_code 29 = .ok (.goto (-20), 3) := by decide +kernel
theorem d43_32 : decode jdk_43_method_13_code 32 = .ok (.iconst 1, 1) := by decide +kernel
theorem d43_33 : decode jdk_43_method_13_code 33 = .ok (.ireturn, 1) := by decide +kernel
theorem d43_34 : decode jdk_43_method_13_code 34 = .ok (.iconst 0, 1) := by decide +kernel
theorem d43_35 : decode jdk_43_method_13_code 35 = .ok (.ireturn, 1) := by decide +kernel
theorem pn_0 : plainName "java/lang/StringLatin1" = true := by first | (simp [plainName, overriddenIn]; done) | decide +kernel
theorem pn_1 : plainName "java/lang/String" = true := by first | (simp [plainName, overriddenIn]; done) | decide +kernel
theorem pd_0 : parseMethodDescriptor "(C)Z" = some ⟨[.char], some .boolean⟩ := by decide +kernel
theorem pd_1 : parseMethodDescriptor "(C)[B" = some ⟨[.char], some (.array .byte)⟩ := by decide +kernel
theorem pd_2 : parseMethodDescriptor "([BB)V" = some ⟨[(.array .byte), .byte], none⟩ := by decide +kernel
theorem pd_3 : parseMethodDescriptor "([B[B)Z" = some ⟨[(.array .byte), (.array .byte)], some .boolean⟩ := by decide +kernel
theorem pd_4 : parseMethodDescriptor "()Z" = some ⟨[], some .boolean⟩ := by decide +kernel
theorem pd_5 : parseMethodDescriptor "([B)I" = some ⟨[(.array .byte)], some .int⟩ := by decide +kernel
theorem pn_2 : plainName "com/example/entitlement/entitlement/Term" = true := by first | (simp [plainName, overriddenIn]; done) | decide +kernel
theorem pd_6 : parseMethodDescriptor "(Lcom/example/entitlement/entitlement/Term$Kind;Ljava/lang/String;Ljava/lang/String;Ljava/lang/String;Lcom/example/entitlement/entitlement/Comparison;)V" = some ⟨[(.object "com/example/entitlement/entitlement/Term$Kind"), (.object "java/lang/String"), (.object "java/lang/String"), (.object "java/lang/String"), (.object "com/example/entitlement/entitlement/Comparison")], none⟩ := by decide +kernel
theorem pd_7 : parseMethodDescriptor "(Lcom/example/entitlement/entitlement/Term$Kind;Ljava/lang/String;Ljava/lang/String;Ljava/lang/String;)V" = some ⟨[(.object "com/example/entitlement/entitlement/Term$Kind"), (.object "java/lang/String"), (.object "java/lang/String"), (.object "java/lang/String")], none⟩ := by decide +kernel
theorem pn_3 : plainName "java/util/List" = true := by first | (simp [plainName, overriddenIn]; done) | decide +kernel
theorem pn_4 : plainName "java/util/ImmutableCollections" = true := by first | (simp [plainName, overriddenIn]; done) | decide +kernel
theorem pd_8 : parseMethodDescriptor "(Ljava/util/Collection;)Ljava/util/List;" = some ⟨[(.object "java/util/Collection")], some (.object "java/util/List")⟩ := by decide +kernel
theorem pn_5 : plainName "com/example/entitlement/entitlement/Expression" = true := by first | (simp [plainName, overriddenIn]; done) | decide +kernel
theorem pd_9 : parseMethodDescriptor "()Ljava/util/List;" = some ⟨[], some (.object "java/util/List")⟩ := by decide +kernel
theorem pd_10 : parseMethodDescriptor "(Lcom/example/entitlement/entitlement/Expression$Kind;Lcom/example/entitlement/entitlement/Term;Ljava/util/List;)V" = some ⟨[(.object "com/example/entitlement/entitlement/Expression$Kind"), (.object "com/example/entitlement/entitlement/Term"), (.object "java/util/List")], none⟩ := by decide +kernel
theorem pn_6 : plainName "java/util/AbstractMap" = true := by first | (simp [plainName, overriddenIn]; done) | decide +kernel
theorem pn_7 : plainName "java/util/AbstractCollection" = true := by first | (simp [plainName, overriddenIn]; done) | decide +kernel
theorem pn_8 : plainName "java/util/AbstractSet" = true := by first | (simp [plainName, overriddenIn]; done) | decide +kernel
theorem pd_11 : parseMethodDescriptor "()V" = some ⟨[], none⟩ := by decide +kernel
theorem pn_9 : plainName "java/util/HashMap" = true := by first | (simp [plainName, overriddenIn]; done) | decide +kernel
theorem pn_10 : plainName "java/util/HashSet" = true := by first | (simp [plainName, overriddenIn]; done) | decide +kernel
theorem pn_11 : plainName "com/example/entitlement/entitlement/ObjectType" = true := by first | (simp [plainName, overriddenIn]; done) | decide +kernel
theorem pd_12 : parseMethodDescriptor "()I" = some ⟨[], some .int⟩ := by decide +kernel
theorem pn_12 : plainName "java/util/HashMap$Node" = true := by first | (simp [plainName, overriddenIn]; done) | decide +kernel
theorem pd_13 : parseMethodDescriptor "(ILjava/lang/Object;Ljava/lang/Object;Ljava/util/HashMap$Node;)V" = some ⟨[.int, (.object "java/lang/Object"), (.object "java/lang/Object"), (.object "java/util/HashMap$Node")], none⟩ := by decide +kernel
theorem pd_14 : parseMethodDescriptor "()[Ljava/util/HashMap$Node;" = some ⟨[], some (.array (.object "java/util/HashMap$Node"))⟩ := by decide +kernel
theorem pd_15 : parseMethodDescriptor "(ILjava/lang/Object;Ljava/lang/Object;Ljava/util/HashMap$Node;)Ljava/util/HashMap$Node;" = some ⟨[.int, (.object "java/lang/Object"), (.object "java/lang/Object"), (.object "java/util/HashMap$Node")], some (.object "java/util/HashMap$Node")⟩ := by decide +kernel
theorem pd_16 : parseMethodDescriptor "(Z)V" = some ⟨[.boolean], none⟩ := by decide +kernel
theorem pd_17 : parseMethodDescriptor "(Ljava/lang/Object;)I" = some ⟨[(.object "java/lang/Object")], some .int⟩ := by decide +kernel
theorem pd_18 : parseMethodDescriptor "(ILjava/lang/Object;Ljava/lang/Object;ZZ)Ljava/lang/Object;" = some ⟨[.int, (.object "java/lang/Object"), (.object "java/lang/Object"), .boolean, .boolean], some (.object "java/lang/Object")⟩ := by decide +kernel
theorem pd_19 : parseMethodDescriptor "(Ljava/lang/Object;Ljava/lang/Object;)Ljava/lang/Object;" = some ⟨[(.object "java/lang/Object"), (.object "java/lang/Object")], some (.object "java/lang/Object")⟩ := by decide +kernel
theorem pd_20 : parseMethodDescriptor "(Ljava/lang/Object;)Z" = some ⟨[(.object "java/lang/Object")], some .boolean⟩ := by decide +kernel
theorem pd_21 : parseMethodDescriptor "(Ljava/lang/Object;)Ljava/util/HashMap$Node;" = some ⟨[(.object "java/lang/Object")], some (.object "java/util/HashMap$Node")⟩ := by decide +kernel
theorem pd_22 : parseMethodDescriptor "(Ljava/lang/Object;)Ljava/lang/Object;" = some ⟨[(.object "java/lang/Object")], some (.object "java/lang/Object")⟩ := by decide +kernel
theorem pn_13 : plainName "com/example/entitlement/entitlement/ObjectTypeHasActionPermissionPinLaw" = true := by first | (simp [plainName, overriddenIn]; done) | decide +kernel
theorem pd_23 : parseMethodDescriptor "([C)V" = some ⟨[(.array .char)], none⟩ := by decide +kernel
theorem pd_24 : parseMethodDescriptor "(C)Ljava/lang/String;" = some ⟨[.char], some (.object "java/lang/String")⟩ := by decide +kernel
theorem pd_25 : parseMethodDescriptor "(Ljava/lang/String;)Lcom/example/entitlement/entitlement/Term;" = some ⟨[(.object "java/lang/String")], some (.object "com/example/entitlement/entitlement/Term")⟩ := by decide +kernel
theorem pd_26 : parseMethodDescriptor "(Lcom/example/entitlement/entitlement/Term;)Lcom/example/entitlement/entitlement/Expression;" = some ⟨[(.object "com/example/entitlement/entitlement/Term")], some (.object "com/example/entitlement/entitlement/Expression")⟩ := by decide +kernel
theorem pd_27 : parseMethodDescriptor "(Ljava/lang/String;)V" = some ⟨[(.object "java/lang/String")], none⟩ := by decide +kernel
theorem pd_28 : parseMethodDescriptor "(Ljava/lang/String;)Lcom/example/entitlement/entitlement/Expression;" = some ⟨[(.object "java/lang/String")], some (.object "com/example/entitlement/entitlement/Expression")⟩ := by decide +kernel
theorem pd_29 : parseMethodDescriptor "(Lcom/example/entitlement/entitlement/Expression;)V" = some ⟨[(.object "com/example/entitlement/entitlement/Expression")], none⟩ := by decide +kernel
theorem pd_30 : parseMethodDescriptor "(Ljava/lang/String;Lcom/example/entitlement/entitlement/Expression;)V" = some ⟨[(.object "java/lang/String"), (.object "com/example/entitlement/entitlement/Expression")], none⟩ := by decide +kernel
theorem own_nat {n : Nat} (h : n < 2147483648) : (Int32.ofNat n).toInt = n := Int32.toInt_ofNat_small h
theorem own_clamp {n : Nat} (h : n < 2147483648) : (Int32.ofNat n).toNatClampNeg = n := by simp only [Int32.toNatClampNeg, own_nat h]; rfl
theorem own_nlt {i n : Nat} (hi : i < 2147483648) (hn : n < 2147483648) : Int32.ofNat i < Int32.ofNat n ↔ i < n := by rw [Int32.lt_iff_toInt_lt, own_nat hi, own_nat hn]; omega
theorem own_ninj {i n : Nat} (hi : i < 2147483648) (hn : n < 2147483648) : Int32.ofNat i = Int32.ofNat n ↔ i = n := by rw [← Int32.toInt_inj, own_nat hi, own_nat hn]; omega
theorem own_succ {i : Nat} : Int32.ofNat i + (1 : Int32) = Int32.ofNat (i + 1) := by rw [Int32.ofNat_add]; rfl
theorem own_nn {n : Nat} (h : n < 2147483648) : ¬ Int32.ofNat n < 0 := by rw [Int32.lt_iff_toInt_lt, own_nat h]; show ¬ (n : Int) < 0; omega
def own_lo (c : Int32) : Int32 := c.toInt8.toInt32
def own_hi (c : Int32) : Int32 := own_lo (c >>> ((8 : Int32) &&& 31))
def own_pair (u v : Int32) : Int32 := (((u &&& 255) <<< ((0 : Int32) &&& 31)) ||| ((v &&& 255) <<< ((8 : Int32) &&& 31))).toUInt32.toUInt16.toUInt32.toInt32
theorem own_255 : ∀ i : Nat, i < 32 → (255 : Int32).toBitVec.getLsbD i = decide (i < 8) := by decide
theorem own_and_lo (x : Int32) : own_lo x &&& 255 = x &&& 255 := by
  apply Int32.toBitVec_inj.mp
  simp only [own_lo, Int32.toBitVec_and, Int8.toBitVec_toInt32, Int32.toBitVec_toInt8]
  apply BitVec.eq_of_getLsbD_eq
  intro i hi
  simp only [BitVec.getLsbD_and, own_255 i hi]
  by_cases h : i < 8
  · simp only [h, decide_true, Bool.and_true, BitVec.getLsbD_signExtend, BitVec.getLsbD_setWidth, if_true, hi, Bool.true_and]
  · simp [h]
theorem own_pair_eq {c : Int32} (h0 : ¬ c < 0) (h1 : ¬ 65535 < c) : own_pair (own_lo (c >>> ((0 : Int32) &&& 31))) (own_hi c) = c := by
  have hb : c.toBitVec.toNat < 2 ^ 16 := by
    rw [Int32.lt_iff_toInt_lt] at h0 h1
    have z0 : (0 : Int32).toInt = 0 := rfl
    have z1 : (65535 : Int32).toInt = 65535 := rfl
    have q : c.toInt = c.toBitVec.toInt := rfl
    rw [z0, q, BitVec.toInt_eq_toNat_cond] at h0
    rw [z1, q, BitVec.toInt_eq_toNat_cond] at h1
    split at h0 <;> split at h1 <;> omega
  have e0 : c >>> ((0 : Int32) &&& 31) = c := by
    apply Int32.toBitVec_inj.mp
    simp
  unfold own_pair own_hi
  rw [own_and_lo, own_and_lo, e0]
  apply Int32.toBitVec_inj.mp
  apply BitVec.eq_of_getLsbD_eq
  intro i hi
  have big : 16 ≤ i → c.toBitVec.getLsbD i = false := fun q => by
    rw [← BitVec.testBit_toNat]
    exact Nat.testBit_lt_two_pow (Nat.lt_of_lt_of_le hb (Nat.pow_le_pow_right (by decide) q))
  have s0 : ∀ y : Int32, y <<< ((0 : Int32) &&& 31) = y := fun y => by apply Int32.toBitVec_inj.mp; simp
  have s8 : ∀ y : Int32, (y <<< ((8 : Int32) &&& 31)).toBitVec = y.toBitVec <<< 8 := fun y => by simp
  have r8 : ∀ y : Int32, (y >>> ((8 : Int32) &&& 31)).toBitVec = y.toBitVec.sshiftRight 8 := fun y => by simp
  have t16 : ∀ y : Int32, y.toUInt32.toUInt16.toUInt32.toInt32.toBitVec = (y.toBitVec.setWidth 16).setWidth 32 := fun y => rfl
  rw [s0, t16]
  simp only [Int32.toBitVec_or, Int32.toBitVec_and, s8, r8, BitVec.getLsbD_setWidth, BitVec.getLsbD_or, BitVec.getLsbD_and, BitVec.getLsbD_shiftLeft, BitVec.getLsbD_sshiftRight, hi]
  have q1 : (255#32).getLsbD i = decide (i < 8) := own_255 i hi
  have q2 : (255#32).getLsbD (i - 8) = decide (i - 8 < 8) := own_255 (i - 8) (by omega)
  by_cases h8 : i < 8
  · simp [h8, q1, show i < 16 by omega]
  · by_cases h16 : i < 16
    · simp [h8, h16, q1, q2, show i - 8 < 8 by omega, show 8 + (i - 8) = i by omega, show ¬ 32 ≤ i - 8 by omega, hi]
      intro a _; exact a
    · simp [h16, big (by omega)]
theorem own_shr0 (c : Int32) : c >>> ((0 : Int32) &&& 31) = c := by apply Int32.toBitVec_inj.mp; simp
theorem own_lolo (c : Int32) : own_lo (own_lo c) = own_lo c := by simp only [own_lo, Int8.toInt8_toInt32]
def own_fit : List Int32 → Nat
  | [] => 0
  | c :: cs => if 255 < c then 0 else own_fit cs + 1
def own_u16 : List Int32 → List Int32
  | [] => []
  | c :: cs => own_lo c :: own_hi c :: own_u16 cs
theorem own_fit_le (cs : List Int32) : own_fit cs ≤ cs.length := by
  induction cs with
  | nil => exact Nat.le_refl _
  | cons c cs ih => unfold own_fit; split <;> simp <;> omega
theorem own_fit_all (cs : List Int32) (h : own_fit cs = cs.length) : ∀ c ∈ cs, ¬ (255 : Int32) < c := by
  induction cs with
  | nil => intro c hc; cases hc
  | cons d cs ih =>
    unfold own_fit at h
    split at h
    · simp at h
    · rename_i hd
      intro c hc
      rcases List.mem_cons.mp hc with rfl | hc
      · exact hd
      · exact ih (by simpa using h) c hc
theorem own_fit_at (cs : List Int32) (h : own_fit cs < cs.length) : (255 : Int32) < cs.getD (own_fit cs) 0 := by
  induction cs with
  | nil => exact absurd h (Nat.lt_irrefl _)
  | cons d cs ih =>
    unfold own_fit at h ⊢
    split
    · rename_i hd; simpa using hd
    · rename_i hd
      rw [if_neg hd] at h
      have := ih (by simpa using h)
      simpa using this
theorem own_u16_len (cs : List Int32) : (own_u16 cs).length = 2 * cs.length := by
  induction cs with
  | nil => rfl
  | cons c cs ih => simp only [own_u16, List.length_cons, ih]; omega
theorem own_u16_app (cs ds : List Int32) : own_u16 (cs ++ ds) = own_u16 cs ++ own_u16 ds := by
  induction cs with
  | nil => rfl
  | cons c cs ih => simp only [List.cons_append, own_u16, ih]
theorem own_u16_get (cs : List Int32) : ∀ i, i < cs.length → (own_u16 cs).getD (2 * i) 0 = own_lo (cs.getD i 0) ∧ (own_u16 cs).getD (2 * i + 1) 0 = own_hi (cs.getD i 0) := by
  induction cs with
  | nil => intro i h; exact absurd h (Nat.not_lt_zero i)
  | cons c cs ih =>
    intro i h
    cases i with
    | zero => exact ⟨rfl, rfl⟩
    | succ i =>
      have e1 : 2 * (i + 1) = 2 * i + 1 + 1 := by omega
      have := ih i (by simpa using h)
      simp only [own_u16, e1, List.getD_cons_succ]
      exact this
theorem own_take_succ (cs : List Int32) (i : Nat) (h : i < cs.length) : cs.take (i + 1) = cs.take i ++ [cs.getD i 0] := by
  rw [List.take_add_one, List.getElem?_eq_getElem h, List.getD_eq_getElem?_getD, List.getElem?_eq_getElem h]; rfl
theorem own_drop_succ (cs : List Int32) (i : Nat) (h : i < cs.length) : cs.drop i = cs.getD i 0 :: cs.drop (i + 1) := by
  rw [List.getD_eq_getElem?_getD, List.getElem?_eq_getElem h]; exact List.drop_eq_getElem_cons h
theorem own_bget (bs : List Int32) (j : Nat) : (bs.map Value.int).getD j (.int 0) = .int (bs.getD j 0) := by
  simp only [List.getD_eq_getElem?_getD, List.getElem?_map]
  cases bs[j]? <;> rfl
/-- a byte stored behind the ones that stand -/
theorem own_pushB {Z : State} {h h' : Heap} {a : Addr} {k : ClassId} {z v : Int32} {xs : List Int32} {j : Nat} (A : Arv Z h a k .byte z (xs.map Value.int) (.int 0)) (hj : j = xs.length) (W : Wr h h' a j (.int (own_lo v))) : Arv Z h' a k .byte z ((xs ++ [own_lo v]).map Value.int) (.int 0) := by
  have P : Arv Z h a k .byte z (xs.map Value.int ++ [.int 0]) (.int 0) := A.pad (pad_rep _ _ 1)
  obtain ⟨c', A', r1, r2, r3, r4, r5⟩ := P
  by_cases hn : xs.length < 2147483648
  · have e := Arv.set A' r1 r2 r3 r4 r5 (v := .int (own_lo v)) (fits_nar_byte _) (j := Int32.ofNat xs.length) (by rw [own_clamp hn, ← hj]; exact W) xs.length (own_clamp hn) (by simp)
    have e2 : (xs.map Value.int ++ [Value.int 0]).set xs.length (.int (own_lo v)) = (xs ++ [own_lo v]).map Value.int := by
      rw [List.map_append, List.set_append_right _ _ (by simp)]; simp
    rw [e2] at e; exact e
  · exfalso
    obtain ⟨c, hc, -, hlt, -⟩ := W
    have q : c' = c := by have := A'.1.symm.trans hc; simpa using this
    subst q
    have : z.toNatClampNeg < 2147483648 := by have := z.toInt_lt; have e : z.toNatClampNeg = z.toInt.toNat := rfl; omega
    omega
theorem own_one (v : Int32) : One (.val (.int v)) := Or.inr ⟨_, rfl, rfl⟩
theorem own_os6c {a d : Addr} {b e f g v : Int32} {s6 : Slot} (h : One s6) : storeLocals #[.val (.ref a), .val (.int b), .val (.ref d), .val (.int e), .val (.int f), .val (.int g), s6] 6 (.int v) = some #[.val (.ref a), .val (.int b), .val (.ref d), .val (.int e), .val (.int f), .val (.int g), .val (.int v)] := by
  rcases h with rfl | ⟨w, rfl, hw⟩
  · rfl
  · cases w <;> first | rfl | (simp [Value.category] at hw)
theorem own_dbl_all : ∀ n : Fin 17, Int32.ofNat n.val <<< ((1 : Int32) &&& 31) = Int32.ofNat (2 * n.val) := by decide +kernel
theorem own_dbl {n : Nat} (h : n ≤ 16) : Int32.ofNat n <<< ((1 : Int32) &&& 31) = Int32.ofNat (2 * n) := own_dbl_all ⟨n, by omega⟩
theorem own_hlf_all : ∀ n : Fin 17, Int32.ofNat (2 * n.val) >>> ((1 : Int32) &&& 31) = Int32.ofNat n.val := by decide +kernel
theorem own_hlf {n : Nat} (h : n ≤ 16) : Int32.ofNat (2 * n) >>> ((1 : Int32) &&& 31) = Int32.ofNat n := own_hlf_all ⟨n, by omega⟩
def own_cdr (n z : Int32) : Int32 := nar .byte ((((n - z).toUInt32 >>> ((31 : Int32) &&& 31).toUInt32).toInt32).toInt8.toInt32)
theorem own_cdr0 (n : Int32) : own_cdr n n = 0 := by unfold own_cdr; rw [Int32.sub_self]; rfl
theorem own_cdr1_all : ∀ n : Fin 17, 0 < n.val → own_cdr (Int32.ofNat n.val) (Int32.ofNat (2 * n.val)) = 1 := by decide +kernel
theorem own_cdr1 {n : Nat} (h0 : 0 < n) (h : n ≤ 16) : own_cdr (Int32.ofNat n) (Int32.ofNat (2 * n)) = 1 := own_cdr1_all ⟨n, by omega⟩ h0
theorem own_narc {c : Int32} (h : ¬ c < 0 ∧ ¬ (65535 : Int32) < c) : nar .char c = c := by
  have q := own_pair_eq h.1 h.2
  show c.toUInt32.toUInt16.toUInt32.toInt32 = c
  rw [← q]; unfold own_pair
  have t16 : ∀ y : Int32, y.toUInt32.toUInt16.toUInt32.toInt32.toBitVec = (y.toBitVec.setWidth 16).setWidth 32 := fun y => rfl
  apply Int32.toBitVec_inj.mp
  rw [t16, t16]
  apply BitVec.eq_of_getLsbD_eq
  intro i hi
  simp only [BitVec.getLsbD_setWidth]
  by_cases h16 : i < 16 <;> simp [h16, hi]
theorem own_mem (cs : List Int32) (i : Nat) (h : i < cs.length) : cs.getD i 0 ∈ cs := by
  rw [List.getD_eq_getElem?_getD, List.getElem?_eq_getElem h]; exact List.getElem_mem h
theorem own_u16_ch (cs : List Int32) (i : Nat) (h : i < cs.length) (hp : ¬ cs.getD i 0 < 0 ∧ ¬ (65535 : Int32) < cs.getD i 0) : nar .char (own_pair ((own_u16 cs).getD (2 * i) 0) ((own_u16 cs).getD (2 * i + 1) 0)) = cs.getD i 0 := by
  obtain ⟨e1, e2⟩ := own_u16_get cs i h
  have q := own_pair_eq hp.1 hp.2
  rw [own_shr0] at q
  rw [e1, e2, q, own_narc hp]
theorem own_logetD (cs : List Int32) (i : Nat) (h : i < cs.length) : (cs.map own_lo).getD i 0 = own_lo (cs.getD i 0) := by
  rw [List.getD_eq_getElem?_getD, List.getD_eq_getElem?_getD, List.getElem?_map, List.getElem?_eq_getElem h]; rfl
theorem own_and255 {c : Int32} (h0 : ¬ c < 0) (h1 : ¬ (255 : Int32) < c) : c &&& 255 = c := by
  have hb : c.toBitVec.toNat < 2 ^ 8 := by
    rw [Int32.lt_iff_toInt_lt] at h0 h1
    have z0 : (0 : Int32).toInt = 0 := rfl
    have z1 : (255 : Int32).toInt = 255 := rfl
    have q : c.toInt = c.toBitVec.toInt := rfl
    rw [z0, q, BitVec.toInt_eq_toNat_cond] at h0
    rw [z1, q, BitVec.toInt_eq_toNat_cond] at h1
    split at h0 <;> split at h1 <;> omega
  apply Int32.toBitVec_inj.mp
  apply BitVec.eq_of_getLsbD_eq
  intro i hi
  have q1 : (255#32).getLsbD i = decide (i < 8) := own_255 i hi
  rw [Int32.toBitVec_and, BitVec.getLsbD_and]
  show (c.toBitVec.getLsbD i && (255#32).getLsbD i) = _
  rw [q1]
  by_cases h8 : i < 8
  · simp [h8]
  · have : c.toBitVec.getLsbD i = false := by
      rw [← BitVec.testBit_toNat]
      exact Nat.testBit_lt_two_pow (Nat.lt_of_lt_of_le hb (Nat.pow_le_pow_right (by decide) (by omega)))
    simp [this]
theorem own_l1 {c : Int32} (h : ¬ c < 0 ∧ ¬ (65535 : Int32) < c) (h1 : ¬ (255 : Int32) < c) : nar .char ((own_lo c &&& (255 : Int32)).toUInt32.toUInt16.toUInt32.toInt32) = c := by
  have e : own_lo c &&& (255 : Int32) = c := by rw [own_and_lo, own_and255 h.1 h1]
  rw [e]
  have q := own_narc h
  rw [show c.toUInt32.toUInt16.toUInt32.toInt32 = nar .char c from rfl, q, q]
theorem own_ncb (y : Int32) : ¬ nar .char y < 0 ∧ ¬ (65535 : Int32) < nar .char y := by
  have t16 : (nar .char y).toBitVec = (y.toBitVec.setWidth 16).setWidth 32 := rfl
  have hb : (nar .char y).toBitVec.toNat < 65536 := by
    rw [t16, BitVec.toNat_setWidth, BitVec.toNat_setWidth]
    exact Nat.lt_of_le_of_lt (Nat.mod_le _ _) (Nat.mod_lt _ (by decide))
  have q : (nar .char y).toInt = (nar .char y).toBitVec.toInt := rfl
  rw [BitVec.toInt_eq_toNat_cond] at q
  have z0 : (0 : Int32).toInt = 0 := rfl
  have z1 : (65535 : Int32).toInt = 65535 := rfl
  rw [Int32.lt_iff_toInt_lt, Int32.lt_iff_toInt_lt, z0, z1, q]
  split <;> omega
theorem own_from (a : Int32) : ∃ f : Nat, f ≤ 5 ∧ (a &&& (2147483647 : Int32)) % (6 : Int32) = Int32.ofNat f := by
  have e1 : (a &&& (2147483647 : Int32)).toInt = a.toInt % 2 ^ 31 := Jvm.Kit.i32_mask a _ (k := 31) (by decide) (by decide)
  have h0 : (0 : Int) ≤ (a &&& (2147483647 : Int32)).toInt := by rw [e1]; omega
  have e2 := Jvm.Kit.i32_rem_nonneg (x := a &&& (2147483647 : Int32)) (y := (6 : Int32)) h0
  have e3 : (6 : Int32).toInt = 6 := rfl
  rw [e3] at e2
  exact ⟨((a &&& (2147483647 : Int32)) % (6 : Int32)).toInt.toNat, by omega, by rw [← Int32.toInt_inj, own_nat (by omega)]; omega⟩
theorem own_bext {bs ds : List Int32} (hl : bs.length = ds.length) (h : ∀ j, j < bs.length → bs.getD j 0 = ds.getD j 0) : bs = ds := by
  apply List.ext_getElem hl
  intro j h1 h2
  have q := h j h1
  simp only [List.getD_eq_getElem?_getD, List.getElem?_eq_getElem h1, List.getElem?_eq_getElem h2, Option.getD_some] at q
  exact q
/-- a Latin-1 String: its class, coder, value array, and the bytes in it -/
def Lat (Z : State) (h : Heap) (x : Addr) (t : Addr) (kb : ClassId) (bs : List Int32) : Prop := Exa Z h x "java/lang/String" ∧ Fld Z h x "java/lang/String" "coder" "B" (.int (0 : Int32)) ∧ Fld Z h x "java/lang/String" "value" "[B" (.ref t) ∧ Arv Z h t kb .byte (Int32.ofNat bs.length) (bs.map Value.int) (.int 0) ∧ bs.length ≤ 4000
theorem own_arveq {Z : State} {h : Heap} {t : Addr} {kb kb' : ClassId} {bs ds : List Int32} (K : Arv Z h t kb .byte (Int32.ofNat bs.length) (bs.map Value.int) (.int 0)) (K' : Arv Z h t kb' .byte (Int32.ofNat ds.length) (ds.map Value.int) (.int 0)) (l1 : bs.length ≤ 4000) (l2 : ds.length ≤ 4000) : bs = ds := by
  obtain ⟨c1, A1, -, S1, -, H1, -⟩ := K
  obtain ⟨c2, A2, -, S2, -, H2, -⟩ := K'
  cases A1.1.symm.trans A2.1
  rw [own_clamp (by omega)] at S1 S2
  refine own_bext (S1.symm.trans S2) fun j hj => ?_
  have q := (H1 j (by omega)).symm.trans (H2 j (by omega))
  rw [own_bget, own_bget] at q
  simpa using q
theorem Lat.same {Z : State} {h : Heap} {x t t' : Addr} {kb kb' : ClassId} {bs ds : List Int32} (A : Lat Z h x t kb bs) (B : Lat Z h x t' kb' ds) : bs = ds := by
  by_cases q : t = t'
  · subst q; exact own_arveq A.2.2.2.1 B.2.2.2.1 A.2.2.2.2 B.2.2.2.2
  · exact absurd rfl (A.2.2.1.ne B.2.2.1 (fun e => q (Value.ref.inj e)))
theorem Lat.ext {Z : State} {h h' : Heap} {x t : Addr} {kb : ClassId} {bs : List Int32} (A : Lat Z h x t kb bs) (E : Ext h h') : Lat Z h' x t kb bs := ⟨A.1.ext E, A.2.1.ext E, A.2.2.1.ext E, A.2.2.2.1.ext E, A.2.2.2.2⟩
theorem Lat.keep {Z : State} {h h' : Heap} {x t : Addr} {kb : ClassId} {bs : List Int32} {ws : List Addr} (A : Lat Z h x t kb bs) (K : Keep h h' ws) (q1 : x ∉ ws) (q2 : t ∉ ws) : Lat Z h' x t kb bs := ⟨A.1.keep K, A.2.1.keep K q1, A.2.2.1.keep K q1, A.2.2.2.1.keep K q2, A.2.2.2.2⟩
/-- a String of one sign, its hash at rest or known -/
def S1 (Z : State) (h : Heap) (x t : Addr) (kt : ClassId) (c : Int32) : Prop := Lat Z h x t kt [own_lo c] ∧ ∃ hv zv : Int32, Fld Z h x "java/lang/String" "hash" "I" (.int hv) ∧ Fld Z h x "java/lang/String" "hashIsZero" "Z" (.int zv) ∧ (hv = 0 ∨ hv = c) ∧ (zv = 0 ∨ (c = 0 ∧ hv = 0))
theorem S1.keep {Z : State} {h h' : Heap} {x t : Addr} {kt : ClassId} {c : Int32} {ws : List Addr} (A : S1 Z h x t kt c) (K : Keep h h' ws) (q1 : x ∉ ws) (q2 : t ∉ ws) : S1 Z h' x t kt c := by
  obtain ⟨L, hv, zv, f1, f2, r⟩ := A
  exact ⟨L.keep K q1 q2, hv, zv, f1.keep K q1, f2.keep K q1, r⟩
theorem S1.ext {Z : State} {h h' : Heap} {x t : Addr} {kt : ClassId} {c : Int32} (A : S1 Z h x t kt c) (E : Ext h h') : S1 Z h' x t kt c := by
  obtain ⟨L, hv, zv, f1, f2, r⟩ := A
  exact ⟨L.ext E, hv, zv, f1.ext E, f2.ext E, r⟩
theorem S1.exa {Z : State} {h : Heap} {x t : Addr} {kt : ClassId} {c : Int32} (A : S1 Z h x t kt c) : Exa Z h x "java/lang/String" := A.1.1
theorem S1.arv {Z : State} {h : Heap} {x t : Addr} {kt : ClassId} {c : Int32} (A : S1 Z h x t kt c) : Arv Z h t kt .byte (Int32.ofNat [own_lo c].length) ([own_lo c].map Value.int) (.int 0) := A.1.2.2.2.1
theorem own_c255 (y : Int32) : ∃ c : Int32, (y &&& (255 : Int32)).toUInt32.toUInt16.toUInt32.toInt32 = c ∧ ¬ c < 0 ∧ ¬ (255 : Int32) < c := by
  have e1 : (y &&& (255 : Int32)).toInt = y.toInt % 2 ^ 8 := Jvm.Kit.i32_mask y _ (k := 8) (by decide) (by decide)
  have z0 : (0 : Int32).toInt = 0 := rfl
  have z1 : (255 : Int32).toInt = 255 := rfl
  have z2 : (65535 : Int32).toInt = 65535 := rfl
  have b1 : ¬ (y &&& (255 : Int32)) < 0 := by rw [Int32.lt_iff_toInt_lt, e1, z0]; omega
  have b2 : ¬ (255 : Int32) < (y &&& (255 : Int32)) := by rw [Int32.lt_iff_toInt_lt, e1, z1]; omega
  have b3 : ¬ (65535 : Int32) < (y &&& (255 : Int32)) := by rw [Int32.lt_iff_toInt_lt, e1, z2]; omega
  exact ⟨y &&& 255, own_narc ⟨b1, b3⟩, b1, b2⟩
theorem own_arvne {Z : State} {h : Heap} {a b : Addr} {k k' : ClassId} {ty ty' : FieldType} {z z' : Int32} {vs vs' : List Value} {d d' : Value} (A : Arv Z h a k ty z vs d) (B : Arv Z h b k' ty' z' vs' d') (hne : ty ≠ ty') : a ≠ b := fun q => by
  subst q
  obtain ⟨c, A1, -⟩ := A
  obtain ⟨c', B1, -⟩ := B
  cases A1.1.symm.trans B1.1
  obtain ⟨-, kA, hkA, compA, hkindA⟩ := A1.2.1
  obtain ⟨-, kB, hkB, compB, hkindB⟩ := B1.2.1
  cases hkA.symm.trans hkB
  have := hkindA.symm.trans hkindB
  injection this with _ e
  exact hne e
theorem own_nfO {Z s : State} {a0 : Array Value} {y : MethodName} (hZ : Z.Warmed39 s.vm) (w0 : (Cond.noSuperclass "java/lang/Object").before a0 Z = true) (hy : y.cls = "java/lang/Object") : NotFace s y := fun r0 h0 => by
  obtain ⟨c, k, h1, h2, -, -, h5⟩ := Cond.noSuperclass_spec w0
  have hf := findClass_of_methodNamed h0
  rw [hy, hZ.alike.findClass, h1] at hf
  cases hf
  obtain ⟨k', q1, q2⟩ := hZ.alike.2.2 _ _ h2
  exact ⟨k', q1, by rw [q2]; exact h5⟩
def own_hh (c : Int32) : Int32 := c ^^^ ((c.toUInt32 >>> ((16 : Int32) &&& 31).toUInt32).toInt32)
theorem own_i15 (y : Int32) : ¬ ((15 : Int32) &&& y) < 0 ∧ ((15 : Int32) &&& y) < 16 ∧ ((15 : Int32) &&& y).toNatClampNeg < 16 := by
  have e0 : (15 : Int32) &&& y = y &&& 15 := by rw [Int32.and_comm]
  have e1 : (y &&& (15 : Int32)).toInt = y.toInt % 2 ^ 4 := Jvm.Kit.i32_mask y _ (k := 4) (by decide) (by decide)
  have z0 : (0 : Int32).toInt = 0 := rfl
  have z1 : (16 : Int32).toInt = 16 := rfl
  rw [e0]
  refine ⟨by rw [Int32.lt_iff_toInt_lt, e1, z0]; omega, by rw [Int32.lt_iff_toInt_lt, e1, z1]; omega, ?_⟩
  show (y &&& (15 : Int32)).toInt.toNat < 16
  rw [e1]; omega
theorem own_setg {v : Value} {i j : Nat} (hi : i < 16) : ((List.replicate 16 Value.null).set i v).getD j .null = if i = j then v else .null := by
  rw [List.getD_eq_getElem?_getD, List.getElem?_set]
  by_cases h : i = j
  · subst h; simp [hi]
  · rw [if_neg h, if_neg h]
    simp only [List.getElem?_replicate]
    split <;> rfl
theorem own_lo1 {c d : Int32} (h0 : ¬ c < 0) (h1 : ¬ (255 : Int32) < c) (k0 : ¬ d < 0) (k1 : ¬ (255 : Int32) < d) : ([own_lo c] = [own_lo d]) = (c = d) := by
  refine propext ⟨fun q => ?_, fun q => by rw [q]⟩
  have e : own_lo c = own_lo d := by simpa using q
  have e1 : own_lo c &&& (255 : Int32) = c := by rw [own_and_lo, own_and255 h0 h1]
  have e2 : own_lo d &&& (255 : Int32) = d := by rw [own_and_lo, own_and255 k0 k1]
  rw [← e1, ← e2, e]
abbrev cHm : String := "java/util/HashMap"
abbrev cNd : String := "java/util/HashMap$Node"
def Hm0 (Z : State) (h : Heap) (m : Addr) : Prop := (Exa Z h m cHm) ∧ (Fld Z h m cHm "table" "[Ljava/util/HashMap$Node;" .null) ∧ (Fld Z h m cHm "threshold" "I" (.int (0 : Int32))) ∧ (Fld Z h m cHm "size" "I" (.int (0 : Int32))) ∧ (Fld Z h m cHm "modCount" "I" (.int (0 : Int32)))
theorem Hm0.E {Z : State} {h : Heap} {m : Addr} (q_ : Hm0 Z h m) : Exa Z h m cHm := q_.1
theorem Hm0.T {Z : State} {h : Heap} {m : Addr} (q_ : Hm0 Z h m) : Fld Z h m cHm "table" "[Ljava/util/HashMap$Node;" .null := q_.2.1
theorem Hm0.H {Z : State} {h : Heap} {m : Addr} (q_ : Hm0 Z h m) : Fld Z h m cHm "threshold" "I" (.int (0 : Int32)) := q_.2.2.1
theorem Hm0.S {Z : State} {h : Heap} {m : Addr} (q_ : Hm0 Z h m) : Fld Z h m cHm "size" "I" (.int (0 : Int32)) := q_.2.2.2.1
theorem Hm0.C {Z : State} {h : Heap} {m : Addr} (q_ : Hm0 Z h m) : Fld Z h m cHm "modCount" "I" (.int (0 : Int32)) := q_.2.2.2.2
/-- a map of the one key k at the node nd -/
def Hm1 (Z : State) (h : Heap) (m b nd : Addr) (kb : ClassId) (hv : Int32) (k u : Addr) : Prop := (Exa Z h m cHm) ∧ (Fld Z h m cHm "table" "[Ljava/util/HashMap$Node;" (.ref b)) ∧ (Arv Z h b kb (.object "java/util/HashMap$Node") (16 : Int32) ((List.replicate 16 Value.null).set ((15 : Int32) &&& hv).toNatClampNeg (.ref nd)) .null) ∧ (Exa Z h nd cNd) ∧ (Fld Z h nd cNd "hash" "I" (.int hv)) ∧ (Fld Z h nd cNd "key" "Ljava/lang/Object;" (.ref k)) ∧ (Fld Z h nd cNd "value" "Ljava/lang/Object;" (.ref u)) ∧ (Fld Z h nd cNd "next" "Ljava/util/HashMap$Node;" .null)
theorem Hm1.E {Z : State} {h : Heap} {m b nd : Addr} {kb : ClassId} {hv : Int32} {k u : Addr} (q_ : Hm1 Z h m b nd kb hv k u) : Exa Z h m cHm := q_.1
theorem Hm1.T {Z : State} {h : Heap} {m b nd : Addr} {kb : ClassId} {hv : Int32} {k u : Addr} (q_ : Hm1 Z h m b nd kb hv k u) : Fld Z h m cHm "table" "[Ljava/util/HashMap$Node;" (.ref b) := q_.2.1
theorem Hm1.V {Z : State} {h : Heap} {m b nd : Addr} {kb : ClassId} {hv : Int32} {k u : Addr} (q_ : Hm1 Z h m b nd kb hv k u) : Arv Z h b kb (.object "java/util/HashMap$Node") (16 : Int32) ((List.replicate 16 Value.null).set ((15 : Int32) &&& hv).toNatClampNeg (.ref nd)) .null := q_.2.2.1
theorem Hm1.N {Z : State} {h : Heap} {m b nd : Addr} {kb : ClassId} {hv : Int32} {k u : Addr} (q_ : Hm1 Z h m b nd kb hv k u) : Exa Z h nd cNd := q_.2.2.2.1
theorem Hm1.F1 {Z : State} {h : Heap} {m b nd : Addr} {kb : ClassId} {hv : Int32} {k u : Addr} (q_ : Hm1 Z h m b nd kb hv k u) : Fld Z h nd cNd "hash" "I" (.int hv) := q_.2.2.2.2.1
theorem Hm1.F2 {Z : State} {h : Heap} {m b nd : Addr} {kb : ClassId} {hv : Int32} {k u : Addr} (q_ : Hm1 Z h m b nd kb hv k u) : Fld Z h nd cNd "key" "Ljava/lang/Object;" (.ref k) := q_.2.2.2.2.2.1
theorem Hm1.F3 {Z : State} {h : Heap} {m b nd : Addr} {kb : ClassId} {hv : Int32} {k u : Addr} (q_ : Hm1 Z h m b nd kb hv k u) : Fld Z h nd cNd "value" "Ljava/lang/Object;" (.ref u) := q_.2.2.2.2.2.2.1
theorem Hm1.F4 {Z : State} {h : Heap} {m b nd : Addr} {kb : ClassId} {hv : Int32} {k u : Addr} (q_ : Hm1 Z h m b nd kb hv k u) : Fld Z h nd cNd "next" "Ljava/util/HashMap$Node;" .null := q_.2.2.2.2.2.2.2
section
variable {Z : State} {h h' : Heap} {m b nd k u : Addr} {kb : ClassId} {hv : Int32} {ws : List Addr}
theorem Hm0.keep (A : Hm0 Z h m) (K : Keep h h' ws) (q : m ∉ ws) : Hm0 Z h' m := ⟨A.E.keep K, A.T.keep K q, A.H.keep K q, A.S.keep K q, A.C.keep K q⟩
theorem Hm1.keep (A : Hm1 Z h m b nd kb hv k u) (K : Keep h h' ws) (q1 : m ∉ ws) (q2 : b ∉ ws) (q3 : nd ∉ ws) : Hm1 Z h' m b nd kb hv k u := ⟨A.E.keep K, A.T.keep K q1, A.V.keep K q2, A.N.keep K, A.F1.keep K q3, A.F2.keep K q3, A.F3.keep K q3, A.F4.keep K q3⟩
end
/-- whatever the tables say of the class K, the answer is yes or no -/
theorem own_insOr {Z : State} {a0 : Array Value} {h : Heap} {a : Addr} {C own K : String} {ix : Nat} {d : ClassId} (hd : Z.vm.findClass own = some d) (w : (Cond.classLink own ix K).before a0 Z = true) (E : Exa Z h a C) : Ins Z h a K true ∨ ∃ c t, Z.vm.findClass C = some c ∧ Z.vm.findClass K = some t ∧ Z.vm.assignable c t = false := by
  obtain ⟨t, ht, -⟩ := Cond.classLink_spec hd w {} rfl
  obtain ⟨cell, k, h1, h2, h3, h4, -⟩ := E
  cases ha : Z.vm.assignable cell.cls t with
  | true => exact Or.inl ⟨cell, t, h1, ht, by rw [ha, h4]; rfl⟩
  | false => exact Or.inr ⟨cell.cls, t, h2, ht, ha⟩
theorem own_gn {v : Value} {C : String} (h : v.isRef = true) : narrow (.object C) v = v := by rcases ref_cases h with rfl | ⟨a, rfl⟩ <;> rfl
theorem own_gf {v : Value} {C : String} (h : v.isRef = true) : fits (.object C) v = true := by rcases ref_cases h with rfl | ⟨a, rfl⟩ <;> rfl
theorem own_255le {c : Int32} (h : ¬ (255 : Int32) < c) : ¬ (65535 : Int32) < c := by
  rw [Int32.lt_iff_toInt_lt] at h ⊢
  have z1 : (255 : Int32).toInt = 255 := rfl
  have z2 : (65535 : Int32).toInt = 65535 := rfl
  omega
def QCE (Z : State) (c_ : Int32) (h0 : Heap) (n0 : Nat) (v : Option Value) (h : Heap) (L : List Loc) : Prop := v = some (.int (1)) ∧ Fr n0 L ∧ h = h0
set_option maxRecDepth 65536 in
set_option maxHeartbeats 40000000 in
theorem rmCE (l : Launch) (Z : State) (a0 : Array Value) (hw : ∀ d ∈ tables_1, d.before a0 Z = true) (ws : List Jvm.Cond) (c_ : Int32) (h0 : Heap) (n0 : Nat) (Z0 : n0 ≤ h0.size) (hc : ¬ (255 : Int32) < c_) :
    MetFree l (⟨"java/lang/StringLatin1", "canEncode", "(C)Z"⟩ : MethodName) (head1 (Jvm.Cond.code (⟨"java/lang/StringLatin1", "canEncode", "(C)Z"⟩ : MethodName) jdk_43_method_3_code 1 (some .boolean) :: ws) ({ frames := 0, cells := 0, slots := 0, locals := 0 } : Room)) (fun a_ U => a_ = #[(.int c_)] ∧ Z.Warmed39 U.vm ∧ U.heap = h0) (fun _ _ _ _ _ => True) (fun _ U o U' => ∃ v L, o = .returned v ∧ QCE Z c_ h0 n0 v U'.heap L ∧ FrameEnd U o U' L ({ frames := 0, cells := 0, slots := 0, locals := 0 } : Room).cells ({ frames := 0, cells := 0, slots := 0, locals := 0 } : Room).slots) := by
  refine MetFree.of_bodySF (plainFor_of_name pn_0) hisR ?_
  intro p e s m args below meth c s₁ Bd hml0 hP hK
  obtain ⟨rfl, hZ, hh⟩ := hP
  have hx := Bd.exec
  have hby := Bd.bytes
  have hml : c.maxLocals = 1 := hml0
  have hown : s.vm.findClass "java/lang/StringLatin1" = some m.cls := findClass_of_methodNamed Bd.named
  have hnm := (name_of_methodNamed Bd.named Bd.method).1
  have X0 : Stand p l e ({ frames := 0, cells := 0, slots := 0, locals := 0 } : Room) s m #[(.int c_)] below meth c s₁ [] 0 0 := Stand.of_body Bd
  have e0 : s₁.heap = h0 := by rw [← hh, Bd.state]; rfl
  have N0 := Fr.nil n0
  refine Goes.done ?_
  obtain ⟨W, hWd⟩ : ∃ W : State → Prop, W = EndW s below (QCE Z c_ h0 n0) ({ frames := 0, cells := 0, slots := 0, locals := 0 } : Room).cells ({ frames := 0, cells := 0, slots := 0, locals := 0 } : Room).slots := ⟨_, rfl⟩
  rw [← hWd]
  have hef : entryFrame m #[(.int c_)] 1 = (mkF m 0 #[.val (.int c_)] []) := by first | (simp [entryFrame, mkF, argsToLocals, Value.category]; done) | rfl
  rw [hef]
  refine Goes.on (T' := s₁) (g' := (mkF m 1 #[.val (.int c_)] [(.int c_)])) ?_ (fun t_ k_ => XS.iloadN X0.here hx rfl (hb hby d8_0) rfl k_)
  refine Goes.on (T' := s₁) (g' := (mkF m 4 #[.val (.int c_)] [(.int (255 : Int32)), (.int c_)])) ?_ (fun t_ k_ => XS.sipush X0.here hx rfl (hb hby d8_1) k_)
  refine Goes.on (T' := s₁) (g' := (mkF m 7 #[.val (.int c_)] [])) ?_ (fun t_ k_ => XS.icmpNo X0.here hx rfl (hb hby d8_4) rfl (flt hc).2.2.1 k_)
  refine Goes.on (T' := s₁) (g' := (mkF m 8 #[.val (.int c_)] [(.int (1 : Int32))])) ?_ (fun t_ k_ => XS.iconst X0.here hx rfl (hb hby d8_7) k_)
  refine Goes.on (T' := s₁) (g' := (mkF m 12 #[.val (.int c_)] [(.int (1 : Int32))])) ?_ (fun t_ k_ => XS.goto X0.here hx rfl (pc0 := 8) (pc' := 12) rfl (hb hby d8_8) (by decide) (by decide) k_)
  rw [hWd]
  exact Goes.retn X0 (v := some (.int (nar .boolean (1 : Int32)))) (fun fs hr => retN X0 hx (t := .boolean) Bd.returns (by simp) (hb hby d8_12) hr) (fun h => by rw [Bd.returns] at h; cases h) Bd.notSynchronized (by decide) (by decide) (by rw [e0]; exact ⟨rfl, N0, rfl⟩)
def QTB (Z : State) (c_ : Int32) (h0 : Heap) (n0 : Nat) (v : Option Value) (h : Heap) (L : List Loc) : Prop := v = some (.ref h0.size) ∧ Fr n0 L ∧ Keep h0 h [] ∧ ∃ kb, Arv Z h h0.size kb .byte (1 : Int32) ([own_lo c_].map Value.int) (.int 0)
set_option maxRecDepth 65536 in
set_option maxHeartbeats 40000000 in
theorem rmTB (l : Launch) (Z : State) (a0 : Array Value) (hw : ∀ d ∈ tables_1, d.before a0 Z = true) (ws : List Jvm.Cond) (c_ : Int32) (h0 : Heap) (n0 : Nat) (Z0 : n0 ≤ h0.size)  :
    MetFree l (⟨"java/lang/StringLatin1", "toBytes", "(C)[B"⟩ : MethodName) (head1 (Jvm.Cond.code (⟨"java/lang/StringLatin1", "toBytes", "(C)[B"⟩ : MethodName) jdk_43_method_46_code 1 (some (.array .byte)) :: ws) ({ frames := 0, cells := 1, slots := 1, locals := 0 } : Room)) (fun a_ U => a_ = #[(.int c_)] ∧ Z.Warmed39 U.vm ∧ U.heap = h0) (fun _ _ _ _ _ => True) (fun _ U o U' => ∃ v L, o = .returned v ∧ QTB Z c_ h0 n0 v U'.heap L ∧ FrameEnd U o U' L ({ frames := 0, cells := 1, slots := 1, locals := 0 } : Room).cells ({ frames := 0, cells := 1, slots := 1, locals := 0 } : Room).slots) := by
  refine MetFree.of_bodySF (plainFor_of_name pn_0) hisR ?_
  intro p e s m args below meth c s₁ Bd hml0 hP hK
  obtain ⟨rfl, hZ, hh⟩ := hP
  have hx := Bd.exec
  have hby := Bd.bytes
  have hml : c.maxLocals = 1 := hml0
  have hown : s.vm.findClass "java/lang/StringLatin1" = some m.cls := findClass_of_methodNamed Bd.named
  have hnm := (name_of_methodNamed Bd.named Bd.method).1
  have X0 : Stand p l e ({ frames := 0, cells := 1, slots := 1, locals := 0 } : Room) s m #[(.int c_)] below meth c s₁ [] 0 0 := Stand.of_body Bd
  have e0 : s₁.heap = h0 := by rw [← hh, Bd.state]; rfl
  have N0 := Fr.nil n0
  refine Goes.done ?_
  obtain ⟨W, hWd⟩ : ∃ W : State → Prop, W = EndW s below (QTB Z c_ h0 n0) ({ frames := 0, cells := 1, slots := 1, locals := 0 } : Room).cells ({ frames := 0, cells := 1, slots := 1, locals := 0 } : Room).slots := ⟨_, rfl⟩
  rw [← hWd]
  have hef : entryFrame m #[(.int c_)] 1 = (mkF m 0 #[.val (.int c_)] []) := by first | (simp [entryFrame, mkF, argsToLocals, Value.category]; done) | rfl
  rw [hef]
  refine Goes.on (T' := s₁) (g' := (mkF m 1 #[.val (.int c_)] [(.int (1 : Int32))])) ?_ (fun t_ k_ => XS.iconst X0.here hx rfl (hb hby d9_0) k_)
  obtain ⟨T1, h1, k1, X1, e1, E1, A1, st1⟩ := newP X0 hx hZ (hw _ (List.mem_of_getElem? (i := 19) rfl)) e0 (g := (mkF m 1 #[.val (.int c_)] [(.int (1 : Int32))])) rfl (hb hby d9_1) rfl (by decide) (cap := 1) (by decide) (by decide) (by decide) (by decide)
  obtain ⟨b1, gb1⟩ : ∃ z, z = h0.size := ⟨_, rfl⟩
  rw [← gb1] at A1 st1
  have V1 := Arv.new A1 (by decide)
  have Z1 : n0 ≤ h1.size := Nat.le_trans Z0 E1.1
  have g_b1 : n0 ≤ b1 := Nat.le_trans Z0 (Nat.le_of_eq gb1.symm)
  refine Goes.on (T' := T1) (g' := (mkF m 3 #[.val (.int c_)] [(.ref b1)])) ?_ st1
  obtain ⟨cc, A1, -, S1_, -, -, -⟩ := id V1
  refine Goes.on (T' := T1) (g' := (mkF m 4 #[.val (.int c_)] [(.ref b1), (.ref b1)])) ?_ (fun t_ k_ => XS.dup X1.here hx rfl (hb hby d9_3) rfl rfl k_)
  refine Goes.on (T' := T1) (g' := (mkF m 5 #[.val (.int c_)] [(.int (0 : Int32)), (.ref b1), (.ref b1)])) ?_ (fun t_ k_ => XS.iconst X1.here hx rfl (hb hby d9_4) k_)
  refine Goes.on (T' := T1) (g' := (mkF m 6 #[.val (.int c_)] [(.int c_), (.int (0 : Int32)), (.ref b1), (.ref b1)])) ?_ (fun t_ k_ => XS.iloadN X1.here hx rfl (hb hby d9_5) rfl k_)
  refine Goes.on (T' := T1) (g' := (mkF m 7 #[.val (.int c_)] [(.int (c_.toInt8.toInt32)), (.int (0 : Int32)), (.ref b1), (.ref b1)])) ?_ (fun t_ k_ => XS.i2b X1.here hx rfl (hb hby d9_6) rfl k_)
  obtain ⟨T2, h2, X2, e2, W2, st2⟩ := stB X1 hx hZ e1 A1 (j := (0 : Int32)) (inb_of S1_ ⟨by decide, by decide⟩) (g := (mkF m 7 #[.val (.int c_)] [(.int (c_.toInt8.toInt32)), (.int (0 : Int32)), (.ref b1), (.ref b1)])) rfl rfl (hb hby d9_7)
  have N2 := Fr.snoc X2 N0 g_b1
  have Z2 : n0 ≤ h2.size := Nat.le_trans Z1 (Nat.le_of_eq W2.size.symm)
  refine Goes.on (T' := T2) (g' := (mkF m 8 #[.val (.int c_)] [(.ref b1)])) ?_ st2
  have elo : nar .byte c_.toInt8.toInt32 = own_lo c_ := own_lolo _
  have BB := own_pushB (xs := []) (v := c_) (j := 0) V1 rfl (by have q := W2; rw [elo] at q; exact q)
  have kx1 : Keep h0 h2 [b1] := ((Keep.refl h0 _).ext E1).wr W2 (Or.inl (List.mem_cons_self ..))
  have kx2 : Keep h0 h2 [] := (Keep.refl h0 []).trans kx1 (allS (Or.inr (Nat.le_of_eq gb1.symm)) all0)
  rw [hWd]
  exact Goes.retn X2 (v := some (.ref b1)) (fun fs hr => retA X2 hx Bd.returns rfl rfl (hb hby d9_8) hr) (fun h => by rw [Bd.returns] at h; cases h) Bd.notSynchronized (by decide) (by decide) (by rw [e2]; exact ⟨by rw [gb1], N2, kx2, k1, by rw [← gb1]; exact BB⟩)
def QIB (Z : State) (x t : Addr) (h0 : Heap) (n0 : Nat) (v : Option Value) (h : Heap) (L : List Loc) : Prop := v = none ∧ Fr n0 L ∧ Keep h0 h [x] ∧ Exa Z h x "java/lang/String" ∧ Fld Z h x "java/lang/String" "value" "[B" (.ref t) ∧ Fld Z h x "java/lang/String" "coder" "B" (.int (0 : Int32)) ∧ Fld Z h x "java/lang/String" "hash" "I" (.int (0 : Int32)) ∧ Fld Z h x "java/lang/String" "hashIsZero" "Z" (.int (0 : Int32))
set_option maxRecDepth 65536 in
set_option maxHeartbeats 40000000 in
theorem rmIB (l : Launch) (Z : State) (a0 : Array Value) (hw : ∀ d ∈ tables_1, d.before a0 Z = true) (ws : List Jvm.Cond) (x t : Addr) (h0 : Heap) (n0 : Nat) (Z0 : n0 ≤ h0.size) (E : Exa Z h0 x "java/lang/String") (ga : n0 ≤ x) (FV : Fld Z h0 x "java/lang/String" "value" "[B" .null) (FC : Fld Z h0 x "java/lang/String" "coder" "B" (.int (0 : Int32))) (FH : Fld Z h0 x "java/lang/String" "hash" "I" (.int (0 : Int32))) (FZ : Fld Z h0 x "java/lang/String" "hashIsZero" "Z" (.int (0 : Int32))) :
    MetFree l (⟨"java/lang/String", "<init>", "([BB)V"⟩ : MethodName) (head1 (Jvm.Cond.code (⟨"java/lang/String", "<init>", "([BB)V"⟩ : MethodName) jdk_42_method_151_code 3 none :: ws) ({ frames := 1, cells := 0, slots := 0, locals := 12 } : Room)) (fun a_ U => a_ = #[(.ref x), (.ref t), (.int (0 : Int32))] ∧ Z.Warmed39 U.vm ∧ U.heap = h0) (fun _ _ _ _ _ => True) (fun _ U o U' => ∃ v L, o = .returned v ∧ QIB Z x t h0 n0 v U'.heap L ∧ FrameEnd U o U' L ({ frames := 1, cells := 0, slots := 0, locals := 12 } : Room).cells ({ frames := 1, cells := 0, slots := 0, locals := 12 } : Room).slots) := by
  refine MetFree.of_bodySF (plainFor_of_name pn_1) hisR ?_
  intro p e s m args below meth c s₁ Bd hml0 hP hK
  obtain ⟨rfl, hZ, hh⟩ := hP
  have hx := Bd.exec
  have hby := Bd.bytes
  have hml : c.maxLocals = 3 := hml0
  have hown : s.vm.findClass "java/lang/String" = some m.cls := findClass_of_methodNamed Bd.named
  have hnm := (name_of_methodNamed Bd.named Bd.method).1
  have X0 : Stand p l e ({ frames := 1, cells := 0, slots := 0, locals := 12 } : Room) s m #[(.ref x), (.ref t), (.int (0 : Int32))] below meth c s₁ [] 0 0 := Stand.of_body Bd
  have e0 : s₁.heap = h0 := by rw [← hh, Bd.state]; rfl
  have N0 := Fr.nil n0
  refine Goes.done ?_
  obtain ⟨W, hWd⟩ : ∃ W : State → Prop, W = EndW s below (QIB Z x t h0 n0) ({ frames := 1, cells := 0, slots := 0, locals := 12 } : Room).cells ({ frames := 1, cells := 0, slots := 0, locals := 12 } : Room).slots := ⟨_, rfl⟩
  rw [← hWd]
  have hef : entryFrame m #[(.ref x), (.ref t), (.int (0 : Int32))] 3 = (mkF m 0 #[.val (.ref x), .val (.ref t), .val (.int (0 : Int32))] []) := by first | (simp [entryFrame, mkF, argsToLocals, Value.category]; done) | rfl
  rw [hef]
  refine Goes.on (T' := s₁) (g' := (mkF m 1 #[.val (.ref x), .val (.ref t), .val (.int (0 : Int32))] [(.ref x)])) ?_ (fun t_ k_ => XS.aloadN X0.here hx rfl (hb hby d10_0) rfl rfl k_)
  obtain ⟨T1, X1, e1, st1⟩ := initO X0 hx hZ hown (hw _ (List.mem_of_getElem? (i := 11) rfl)) (hw _ (List.mem_of_getElem? (i := 12) rfl)) (hw _ (List.mem_of_getElem? (i := 13) rfl)) e0 (g := (mkF m 1 #[.val (.ref x), .val (.ref t), .val (.int (0 : Int32))] [(.ref x)])) rfl (by rw [hml]; rfl) rfl (hb hby d10_1) (by decide) (W := 0) (by show 2 * 0 + _ ≤ _; exact Nat.le_of_eq rfl) (by decide)
  refine Goes.on (T' := T1) (g' := (mkF m 4 #[.val (.ref x), .val (.ref t), .val (.int (0 : Int32))] [])) ?_ st1
  refine Goes.on (T' := T1) (g' := (mkF m 5 #[.val (.ref x), .val (.ref t), .val (.int (0 : Int32))] [(.ref x)])) ?_ (fun t_ k_ => XS.aloadN X1.here hx rfl (hb hby d10_4) rfl rfl k_)
  refine Goes.on (T' := T1) (g' := (mkF m 6 #[.val (.ref x), .val (.ref t), .val (.int (0 : Int32))] [(.ref t), (.ref x)])) ?_ (fun t_ k_ => XS.aloadN X1.here hx rfl (hb hby d10_5) rfl rfl k_)
  obtain ⟨T2, h2, X2, e2, W2, st2⟩ := putF X1 hx hZ hown (host := "") (Or.inl (hw _ (List.mem_of_getElem? (i := 28) rfl))) Via.refl e1 FV E (Or.inr ⟨(hw _ (List.mem_of_getElem? (i := 29) rfl)), rfl, hnm⟩) (hw _ (List.mem_of_getElem? (i := 2) rfl)) (ty := (.array .byte)) (by decide) rfl rfl (g := (mkF m 6 #[.val (.ref x), .val (.ref t), .val (.int (0 : Int32))] [(.ref t), (.ref x)])) rfl rfl (hb hby d10_6)
  have N2 := Fr.snoc X2 N0 ga
  have Z2 : n0 ≤ h2.size := Nat.le_trans Z0 (Nat.le_of_eq W2.size.symm)
  refine Goes.on (T' := T2) (g' := (mkF m 9 #[.val (.ref x), .val (.ref t), .val (.int (0 : Int32))] [])) ?_ st2
  have fx3 := FV.same W2
  have fx4 := FC.other W2 (Or.inr (slot_ne (Or.inr (hw _ (List.mem_of_getElem? (i := 27) rfl))) (Or.inr (hw _ (List.mem_of_getElem? (i := 29) rfl))) (by decide) (t := .byte) (t' := (.array .byte)) (by decide) (by decide)))
  have fx5 := FH.other W2 (Or.inr (slot_ne (Or.inl (hw _ (List.mem_of_getElem? (i := 233) rfl))) (Or.inr (hw _ (List.mem_of_getElem? (i := 29) rfl))) (by decide) (t := .int) (t' := (.array .byte)) (by decide) (by decide)))
  have fx6 := FZ.other W2 (Or.inr (slot_ne (Or.inl (hw _ (List.mem_of_getElem? (i := 235) rfl))) (Or.inr (hw _ (List.mem_of_getElem? (i := 29) rfl))) (by decide) (t := .boolean) (t' := (.array .byte)) (by decide) (by decide)))
  have fx7 := E.wr W2
  have kp8 := (Keep.refl h0 [x]).wr W2 (Or.inl (by simp))
  refine Goes.on (T' := T2) (g' := (mkF m 10 #[.val (.ref x), .val (.ref t), .val (.int (0 : Int32))] [(.ref x)])) ?_ (fun t_ k_ => XS.aloadN X2.here hx rfl (hb hby d10_9) rfl rfl k_)
  refine Goes.on (T' := T2) (g' := (mkF m 11 #[.val (.ref x), .val (.ref t), .val (.int (0 : Int32))] [(.int (0 : Int32)), (.ref x)])) ?_ (fun t_ k_ => XS.iloadN X2.here hx rfl (hb hby d10_10) rfl k_)
  obtain ⟨T9, h9, X9, e9, W9, st9⟩ := putF X2 hx hZ hown (host := "") (Or.inl (hw _ (List.mem_of_getElem? (i := 26) rfl))) Via.refl e2 fx4 fx7 (Or.inr ⟨(hw _ (List.mem_of_getElem? (i := 27) rfl)), rfl, hnm⟩) (hw _ (List.mem_of_getElem? (i := 2) rfl)) (ty := .byte) (by decide) rfl rfl (g := (mkF m 11 #[.val (.ref x), .val (.ref t), .val (.int (0 : Int32))] [(.int (0 : Int32)), (.ref x)])) rfl rfl (hb hby d10_11)
  have N9 := Fr.snoc X9 N2 ga
  have Z9 : n0 ≤ h9.size := Nat.le_trans Z2 (Nat.le_of_eq W9.size.symm)
  refine Goes.on (T' := T9) (g' := (mkF m 14 #[.val (.ref x), .val (.ref t), .val (.int (0 : Int32))] [])) ?_ st9
  have fx10 := fx3.other W9 (Or.inr (slot_ne (Or.inr (hw _ (List.mem_of_getElem? (i := 29) rfl))) (Or.inr (hw _ (List.mem_of_getElem? (i := 27) rfl))) (by decide) (t := (.array .byte)) (t' := .byte) (by decide) (by decide)))
  have fx11 := fx4.same W9
  have fx12 := fx5.other W9 (Or.inr (slot_ne (Or.inl (hw _ (List.mem_of_getElem? (i := 233) rfl))) (Or.inr (hw _ (List.mem_of_getElem? (i := 27) rfl))) (by decide) (t := .int) (t' := .byte) (by decide) (by decide)))
  have fx13 := fx6.other W9 (Or.inr (slot_ne (Or.inl (hw _ (List.mem_of_getElem? (i := 235) rfl))) (Or.inr (hw _ (List.mem_of_getElem? (i := 27) rfl))) (by decide) (t := .boolean) (t' := .byte) (by decide) (by decide)))
  have fx14 := fx7.wr W9
  have kp15 := kp8.wr W9 (Or.inl (by simp))
  rw [hWd]
  exact Goes.retn X9 (v := none) (fun fs hr => X9.returnOut hx Bd.returns (hb hby d10_14) hr) (fun _ => rfl) Bd.notSynchronized (by decide) (by decide) (by rw [e9]; exact ⟨rfl, N9, kp15, fx14, fx10, fx11, fx12, fx13⟩)
def QVO (Z : State) (c_ : Int32) (zc : Int32) (h0 : Heap) (n0 : Nat) (v : Option Value) (h : Heap) (L : List Loc) : Prop := ∃ x t kt, v = some (.ref x) ∧ Fr n0 L ∧ Keep h0 h [] ∧ h0.size ≤ x ∧ h0.size ≤ t ∧ S1 Z h x t kt c_
set_option maxRecDepth 65536 in
set_option maxHeartbeats 40000000 in
theorem rmVO (l : Launch) (Z : State) (a0 : Array Value) (hw : ∀ d ∈ tables_1, d.before a0 Z = true) (ws : List Jvm.Cond) (c_ : Int32) (zc : Int32) (h0 : Heap) (n0 : Nat) (Z0 : n0 ≤ h0.size) (hca : ¬ c_ < 0) (hcb : ¬ (255 : Int32) < c_) (CS : Sta Z Z.heap "java/lang/String" "COMPACT_STRINGS" "Z" (.int zc)) (hzc : ¬ zc = (0 : Int32)) (X0_ : Old Z n0 h0) :
    MetFree l (⟨"java/lang/String", "valueOf", "(C)Ljava/lang/String;"⟩ : MethodName) (head1 (Jvm.Cond.code (⟨"java/lang/String", "valueOf", "(C)Ljava/lang/String;"⟩ : MethodName) jdk_42_method_139_code 1 (some (.object "java/lang/String")) :: ws) ({ frames := 2, cells := 2, slots := 5, locals := 28 } : Room)) (fun a_ U => a_ = #[(.int c_)] ∧ Z.Warmed39 U.vm ∧ U.heap = h0) (fun _ _ _ _ _ => True) (fun _ U o U' => ∃ v L, o = .returned v ∧ QVO Z c_ zc h0 n0 v U'.heap L ∧ FrameEnd U o U' L ({ frames := 2, cells := 2, slots := 5, locals := 28 } : Room).cells ({ frames := 2, cells := 2, slots := 5, locals := 28 } : Room).slots) := by
  refine MetFree.of_bodySF (plainFor_of_name pn_1) hisR ?_
  intro p e s m args below meth c s₁ Bd hml0 hP hK
  obtain ⟨rfl, hZ, hh⟩ := hP
  have hx := Bd.exec
  have hby := Bd.bytes
  have hml : c.maxLocals = 1 := hml0
  have hown : s.vm.findClass "java/lang/String" = some m.cls := findClass_of_methodNamed Bd.named
  have hnm := (name_of_methodNamed Bd.named Bd.method).1
  have X0 : Stand p l e ({ frames := 2, cells := 2, slots := 5, locals := 28 } : Room) s m #[(.int c_)] below meth c s₁ [] 0 0 := Stand.of_body Bd
  have e0 : s₁.heap = h0 := by rw [← hh, Bd.state]; rfl
  have N0 := Fr.nil n0
  refine Goes.done ?_
  obtain ⟨W, hWd⟩ : ∃ W : State → Prop, W = EndW s below (QVO Z c_ zc h0 n0) ({ frames := 2, cells := 2, slots := 5, locals := 28 } : Room).cells ({ frames := 2, cells := 2, slots := 5, locals := 28 } : Room).slots := ⟨_, rfl⟩
  rw [← hWd]
  have hef : entryFrame m #[(.int c_)] 1 = (mkF m 0 #[.val (.int c_)] []) := by first | (simp [entryFrame, mkF, argsToLocals, Value.category]; done) | rfl
  rw [hef]
  obtain ⟨T1, X1, e1, st1⟩ := getS2 X0 hx hZ hown (host := "") (Or.inl (hw _ (List.mem_of_getElem? (i := 14) rfl))) Via.refl e0 (CS.ext X0_.2) (g := (mkF m 0 #[.val (.int c_)] [])) rfl (hb hby d7_0)
  refine Goes.on (T' := T1) (g' := (mkF m 3 #[.val (.int c_)] [(.int zc)])) ?_ st1
  refine Goes.on (T' := T1) (g' := (mkF m 6 #[.val (.int c_)] [])) ?_ (fun t_ k_ => XS.ifNo X1.here hx rfl (hb hby d7_3) rfl ((if0 _ _).trans (feq hzc).1) k_)
  refine Goes.on (T' := T1) (g' := (mkF m 7 #[.val (.int c_)] [(.int c_)])) ?_ (fun t_ k_ => XS.iloadN X1.here hx rfl (hb hby d7_6) rfl k_)
  obtain ⟨_, _, ⟨T2, Lq_2, kq_2, nq_2⟩, -, X2, ⟨Lc2, hQ2, l2, y2, z2⟩, st2⟩ := Jvm.LawKit.callS X1 hx (y := (⟨"java/lang/StringLatin1", "canEncode", "(C)Z"⟩ : MethodName)) hown (mvT hZ (hw _ (List.mem_of_getElem? (i := 33) rfl))) (mvT hZ (hw _ (List.mem_of_getElem? (i := 34) rfl))) (mvT hZ (hw _ (List.mem_of_getElem? (i := 35) rfl))) (mvT hZ (hw _ (List.mem_of_getElem? (i := 36) rfl))) (by decide) (backOf (W := 0) (rmCE l Z a0 hw [] c_ h0 n0 Z0 hcb) hZ (hw _ (List.mem_of_getElem? (i := 36) rfl)) (hw _ (List.mem_of_getElem? (i := 35) rfl)) (by decide) (by decide)) (g := (mkF m 7 #[.val (.int c_)] [(.int c_)])) rfl (by rw [hml]; rfl) (argsL := [(.int c_)]) (rest := []) (lenOf pd_0 rfl) rfl (by show 2 * 0 + _ ≤ _; exact Nat.le_of_eq rfl) (hb hby d7_7) (fun _ _ => ⟨rfl, e1, (by decide : 0 + 0 ≤ _), (by decide : 0 + 0 ≤ _)⟩)
  dsimp only [Pt.U, Pt.locs, Pt.cells, Pt.slots] at X2 l2 y2 z2 st2 hQ2
  rw [l2, y2, z2] at X2
  change Stand p l e _ _ m _ below meth c T2 _ 0 0 at X2
  obtain ⟨rfl, N2q, eh2⟩ := hQ2
  have N2 := Fr.app N0 N2q
  refine Goes.on (T' := T2) (g' := (mkF m 10 #[.val (.int c_)] [(.int (1 : Int32))])) ?_ st2
  refine Goes.on (T' := T2) (g' := (mkF m 13 #[.val (.int c_)] [])) ?_ (fun t_ k_ => XS.ifNo X2.here hx rfl (hb hby d7_10) rfl (by decide) k_)
  obtain ⟨T3, h3, X3, e3, E3, A3, D3, -, st3⟩ := newO X2 hx hZ hown (hw _ (List.mem_of_getElem? (i := 37) rfl)) (hw _ (List.mem_of_getElem? (i := 2) rfl)) (hw _ (List.mem_of_getElem? (i := 3) rfl)) eh2 (g := (mkF m 13 #[.val (.int c_)] [])) rfl (hb hby d7_13) (by decide) (by decide)
  obtain ⟨b3, gb3⟩ : ∃ z, z = h0.size := ⟨_, rfl⟩
  rw [← gb3] at A3 D3 st3
  have Z3 : n0 ≤ h3.size := Nat.le_trans Z0 E3.1
  have g_b3 : n0 ≤ b3 := Nat.le_trans Z0 (Nat.le_of_eq gb3.symm)
  refine Goes.on (T' := T3) (g' := (mkF m 16 #[.val (.int c_)] [(.ref b3)])) ?_ st3
  have F3_value : Fld Z h3 b3 "java/lang/String" "value" "[B" .null := D3 (Or.inr (hw _ (List.mem_of_getElem? (i := 29) rfl))) (ty := (.array .byte)) (by decide)
  have F3_coder : Fld Z h3 b3 "java/lang/String" "coder" "B" (.int (0 : Int32)) := D3 (Or.inr (hw _ (List.mem_of_getElem? (i := 27) rfl))) (ty := .byte) (by decide)
  have F3_hash : Fld Z h3 b3 "java/lang/String" "hash" "I" (.int (0 : Int32)) := D3 (Or.inl (hw _ (List.mem_of_getElem? (i := 233) rfl))) (ty := .int) (by decide)
  have F3_hashIsZero : Fld Z h3 b3 "java/lang/String" "hashIsZero" "Z" (.int (0 : Int32)) := D3 (Or.inl (hw _ (List.mem_of_getElem? (i := 235) rfl))) (ty := .boolean) (by decide)
  have kp4 := (Keep.refl h0 []).ext E3
  refine Goes.on (T' := T3) (g' := (mkF m 17 #[.val (.int c_)] [(.ref b3), (.ref b3)])) ?_ (fun t_ k_ => XS.dup X3.here hx rfl (hb hby d7_16) rfl rfl k_)
  refine Goes.on (T' := T3) (g' := (mkF m 18 #[.val (.int c_)] [(.int c_), (.ref b3), (.ref b3)])) ?_ (fun t_ k_ => XS.iloadN X3.here hx rfl (hb hby d7_17) rfl k_)
  obtain ⟨_, _, ⟨T5, Lq_5, kq_5, nq_5⟩, -, X5, ⟨Lc5, hQ5, l5, y5, z5⟩, st5⟩ := Jvm.LawKit.callS X3 hx (y := (⟨"java/lang/StringLatin1", "toBytes", "(C)[B"⟩ : MethodName)) hown (mvT hZ (hw _ (List.mem_of_getElem? (i := 38) rfl))) (mvT hZ (hw _ (List.mem_of_getElem? (i := 39) rfl))) (mvT hZ (hw _ (List.mem_of_getElem? (i := 35) rfl))) (mvT hZ (hw _ (List.mem_of_getElem? (i := 40) rfl))) (by decide) (backOf (W := 2) (rmTB l Z a0 hw [] c_ h3 n0 Z3) hZ (hw _ (List.mem_of_getElem? (i := 40) rfl)) (hw _ (List.mem_of_getElem? (i := 35) rfl)) (by decide) (by decide)) (g := (mkF m 18 #[.val (.int c_)] [(.int c_), (.ref b3), (.ref b3)])) rfl (by rw [hml]; rfl) (argsL := [(.int c_)]) (rest := [(.ref b3), (.ref b3)]) (lenOf pd_1 rfl) rfl (by show 2 * 0 + _ ≤ _; exact Nat.le_of_eq rfl) (hb hby d7_18) (fun _ _ => ⟨rfl, e3, (by decide : 1 + 1 ≤ _), (by decide : 4 + 1 ≤ _)⟩)
  dsimp only [Pt.U, Pt.locs, Pt.cells, Pt.slots] at X5 l5 y5 z5 st5 hQ5
  rw [l5, y5, z5] at X5
  change Stand p l e _ _ m _ below meth c T5 _ 2 5 at X5
  obtain ⟨rfl, N5q, K5, ⟨kb, B5⟩⟩ := hQ5
  have N5 := Fr.app N2 N5q
  refine Goes.on (T' := T5) (g' := (mkF m 21 #[.val (.int c_)] [(.ref h3.size), (.ref b3), (.ref b3)])) ?_ st5
  have fx6 := F3_value.keep K5 nin0
  have fx7 := F3_coder.keep K5 nin0
  have fx8 := F3_hash.keep K5 nin0
  have fx9 := F3_hashIsZero.keep K5 nin0
  have fx10 := A3.keep K5
  have kp11 := kp4.trans K5 all0
  have Zt : n0 ≤ T5.heap.size := Nat.le_trans Z3 K5.1
  obtain ⟨tt, ett⟩ : ∃ z, z = h3.size := ⟨_, rfl⟩
  rw [← ett] at B5 ⊢
  have szt : h0.size ≤ tt := Nat.le_trans E3.1 (Nat.le_of_eq ett.symm)
  have tx : tt ≠ b3 := Ne.symm (Nat.ne_of_lt (Nat.lt_of_lt_of_le A3.lt (Nat.le_of_eq ett.symm)))
  refine Goes.on (T' := T5) (g' := (mkF m 22 #[.val (.int c_)] [(.int (0 : Int32)), (.ref tt), (.ref b3), (.ref b3)])) ?_ (fun t_ k_ => XS.iconst X5.here hx rfl (hb hby d7_21) k_)
  obtain ⟨_, _, ⟨T12, Lq_12, kq_12, nq_12⟩, -, X12, ⟨Lc12, hQ12, l12, y12, z12⟩, st12⟩ := X5.specialBack hx (y := (⟨"java/lang/String", "<init>", "([BB)V"⟩ : MethodName)) rfl hown (mvT hZ (hw _ (List.mem_of_getElem? (i := 41) rfl))) (mvT hZ (hw _ (List.mem_of_getElem? (i := 42) rfl))) (mvT hZ (hw _ (List.mem_of_getElem? (i := 43) rfl))) (by decide) (backOf (W := 1) (rmIB l Z a0 hw [] b3 tt T5.heap n0 Zt fx10 g_b3 fx6 fx7 fx8 fx9) hZ (hw _ (List.mem_of_getElem? (i := 43) rfl)) (hw _ (List.mem_of_getElem? (i := 3) rfl)) (by decide) (by decide)) (g := (mkF m 22 #[.val (.int c_)] [(.int (0 : Int32)), (.ref tt), (.ref b3), (.ref b3)])) rfl (by rw [hml]; rfl) (Steps.refl _) (a := b3) (argsL := [(.ref tt), (.int (0 : Int32))]) (rest := [(.ref b3)]) (lenOf pd_2 rfl) rfl (by show 2 * 0 + _ ≤ _; exact Nat.le_of_eq rfl) (hb hby d7_22) (fun _ _ => ⟨rfl, rfl, (by decide : 2 + 0 ≤ _), (by decide : 5 + 0 ≤ _)⟩)
  dsimp only [Pt.U, Pt.locs, Pt.cells, Pt.slots] at X12 l12 y12 z12 st12 hQ12
  rw [l12, y12, z12] at X12
  change Stand p l e _ _ m _ below meth c T12 _ 2 5 at X12
  obtain ⟨rfl, N12q, K12, EX, GV, GC, GH, GZ⟩ := hQ12
  have N12 := Fr.app N5 N12q
  refine Goes.on (T' := T12) (g' := (mkF m 25 #[.val (.int c_)] [(.ref b3)])) ?_ (fun t => st12.trans)
  have kp13 := kp11.trans K12 (allS (Or.inr (Nat.le_of_eq gb3.symm)) all0)
  have SS : S1 Z T12.heap b3 tt kb c_ := ⟨⟨EX, GC, GV, B5.keep K12 (ninS tx nin0), (by show (1 : Nat) ≤ 4000; decide)⟩, 0, 0, GH, GZ, Or.inl rfl, Or.inl rfl⟩
  rw [hWd]
  exact Goes.retn X12 (v := some (.ref b3)) (fun fs hr => retA X12 hx Bd.returns rfl rfl (hb hby d7_25) hr) (fun h => by rw [Bd.returns] at h; cases h) Bd.notSynchronized (by decide) (by decide) ⟨b3, tt, kb, rfl, N12, kp13, Nat.le_of_eq gb3.symm, szt, SS⟩
def QLE (Z : State) (t t' : Addr) (bs ds : List Int32) (h0 : Heap) (n0 : Nat) (v : Option Value) (h : Heap) (L : List Loc) : Prop := v = some (.int (if bs = ds then 1 else 0)) ∧ Fr n0 L ∧ h = h0
set_option maxRecDepth 65536 in
set_option maxHeartbeats 40000000 in
theorem rmLE (l : Launch) (Z : State) (a0 : Array Value) (hw : ∀ d ∈ tables_1, d.before a0 Z = true) (ws : List Jvm.Cond) (t t' : Addr) (kb kb' : ClassId) (bs ds : List Int32) (h0 : Heap) (n0 : Nat) (Z0 : n0 ≤ h0.size) (K : Arv Z h0 t kb .byte (Int32.ofNat bs.length) (bs.map Value.int) (.int 0)) (K' : Arv Z h0 t' kb' .byte (Int32.ofNat ds.length) (ds.map Value.int) (.int 0)) (l1 : bs.length ≤ 4000) (l2 : ds.length ≤ 4000) :
    MetFree l (⟨"java/lang/StringLatin1", "equals", "([B[B)Z"⟩ : MethodName) (head1 (Jvm.Cond.code (⟨"java/lang/StringLatin1", "equals", "([B[B)Z"⟩ : MethodName) jdk_43_method_13_code 3 (some .boolean) :: ws) ({ frames := 0, cells := 0, slots := 0, locals := 0 } : Room)) (fun a_ U => a_ = #[(.ref t), (.ref t')] ∧ Z.Warmed39 U.vm ∧ U.heap = h0) (fun _ _ _ _ _ => True) (fun _ U o U' => ∃ v L, o = .returned v ∧ QLE Z t t' bs ds h0 n0 v U'.heap L ∧ FrameEnd U o U' L ({ frames := 0, cells := 0, slots := 0, locals := 0 } : Room).cells ({ frames := 0, cells := 0, slots := 0, locals := 0 } : Room).slots) := by
  refine MetFree.of_bodySF (plainFor_of_name pn_0) hisR ?_
  intro p e s m args below meth c s₁ Bd hml0 hP hK
  obtain ⟨rfl, hZ, hh⟩ := hP
  have hx := Bd.exec
  have hby := Bd.bytes
  have hml : c.maxLocals = 3 := hml0
  have hown : s.vm.findClass "java/lang/StringLatin1" = some m.cls := findClass_of_methodNamed Bd.named
  have hnm := (name_of_methodNamed Bd.named Bd.method).1
  have X0 : Stand p l e ({ frames := 0, cells := 0, slots := 0, locals := 0 } : Room) s m #[(.ref t), (.ref t')] below meth c s₁ [] 0 0 := Stand.of_body Bd
  have e0 : s₁.heap = h0 := by rw [← hh, Bd.state]; rfl
  have N0 := Fr.nil n0
  refine Goes.done ?_
  obtain ⟨W, hWd⟩ : ∃ W : State → Prop, W = EndW s below (QLE Z t t' bs ds h0 n0) ({ frames := 0, cells := 0, slots := 0, locals := 0 } : Room).cells ({ frames := 0, cells := 0, slots := 0, locals := 0 } : Room).slots := ⟨_, rfl⟩
  rw [← hWd]
  have hef : entryFrame m #[(.ref t), (.ref t')] 3 = (mkF m 0 #[.val (.ref t), .val (.ref t'), .unset] []) := by first | (simp [entryFrame, mkF, argsToLocals, Value.category]; done) | rfl
  rw [hef]
  obtain ⟨c1, A1, -, S1, M1, H1, -⟩ := K
  obtain ⟨c2, A2, -, S2, M2, H2, -⟩ := K'
  have S1n : c1.slots.size = bs.length := by rw [S1, own_clamp (by omega)]
  have S2n : c2.slots.size = ds.length := by rw [S2, own_clamp (by omega)]
  have K9 : bs.length = ds.length → ∀ d i : Nat, i + d = bs.length → (∀ j, j < i → bs.getD j 0 = ds.getD j 0) → Goes p e below W s₁ (mkF m 9 #[.val (.ref t), .val (.ref t'), .val (.int (Int32.ofNat i))] []) := by
    intro hln d
    induction d with
    | zero =>
      intro i hi hpre
      have hge : ¬ (Int32.ofNat i < Int32.ofNat bs.length) := by rw [own_nlt (by omega) (by omega)]; omega
      refine Goes.on (T' := s₁) (g' := (mkF m 10 #[.val (.ref t), .val (.ref t'), .val (.int (Int32.ofNat i))] [(.int (Int32.ofNat i))])) ?_ (fun t_ k_ => XS.iloadN X0.here hx rfl (hb hby d43_9) rfl k_)
      refine Goes.on (T' := s₁) (g' := (mkF m 11 #[.val (.ref t), .val (.ref t'), .val (.int (Int32.ofNat i))] [(.ref t), (.int (Int32.ofNat i))])) ?_ (fun t_ k_ => XS.aloadN X0.here hx rfl (hb hby d43_10) rfl rfl k_)
      refine Goes.on (T' := s₁) (g' := (mkF m 12 #[.val (.ref t), .val (.ref t'), .val (.int (Int32.ofNat i))] [(.int c1.slots.size.toInt32), (.int (Int32.ofNat i))])) ?_ (X0.arraylength hx (by rw [e0]; exact A1.1) (State.isArrayOf_alike hZ.alike A1.2.1) (g := (mkF m 11 #[.val (.ref t), .val (.ref t'), .val (.int (Int32.ofNat i))] [(.ref t), (.int (Int32.ofNat i))])) rfl rfl (hb hby d43_11))
      rw [len_of S1 M1]
      refine Goes.on (T' := s₁) (g' := (mkF m 32 #[.val (.ref t), .val (.ref t'), .val (.int (Int32.ofNat i))] [])) ?_ (fun t_ k_ => XS.icmpYes X0.here hx rfl (pc0 := 12) (pc' := 32) rfl (hb hby d43_12) rfl (flt hge).2.1 (by decide) (by decide) k_)
      refine Goes.on (T' := s₁) (g' := (mkF m 33 #[.val (.ref t), .val (.ref t'), .val (.int (Int32.ofNat i))] [(.int (1 : Int32))])) ?_ (fun t_ k_ => XS.iconst X0.here hx rfl (hb hby d43_32) k_)
      rw [hWd]
      exact Goes.retn X0 (v := some (.int (nar .boolean (1 : Int32)))) (fun fs hr => retN X0 hx (t := .boolean) Bd.returns (by simp) (hb hby d43_33) hr) (fun h => by rw [Bd.returns] at h; cases h) Bd.notSynchronized (by decide) (by decide) (by rw [e0]; exact ⟨by rw [if_pos (own_bext hln (fun j hj => hpre j (by omega)))]; rfl, N0, rfl⟩)
    | succ d ih =>
      intro i hi hpre
      have hlt : Int32.ofNat i < Int32.ofNat bs.length := by rw [own_nlt (by omega) (by omega)]; omega
      have hc : (Int32.ofNat i).toNatClampNeg = i := own_clamp (by omega)
      have in1 : ¬ ((Int32.ofNat i) < 0 ∨ c1.slots.size ≤ (Int32.ofNat i).toNatClampNeg) := by rw [hc, S1n]; intro q; rcases q with q | q; exact own_nn (by omega) q; omega
      have in2 : ¬ ((Int32.ofNat i) < 0 ∨ c2.slots.size ≤ (Int32.ofNat i).toNatClampNeg) := by rw [hc, S2n]; intro q; rcases q with q | q; exact own_nn (by omega) q; omega
      have at1 : c1.slots[(Int32.ofNat i).toNatClampNeg]? = some (.int (bs.getD i 0)) := by rw [hc, H1 i (by omega), own_bget]
      have at2 : c2.slots[(Int32.ofNat i).toNatClampNeg]? = some (.int (ds.getD i 0)) := by rw [hc, H2 i (by omega), own_bget]
      refine Goes.on (T' := s₁) (g' := (mkF m 10 #[.val (.ref t), .val (.ref t'), .val (.int (Int32.ofNat i))] [(.int (Int32.ofNat i))])) ?_ (fun t_ k_ => XS.iloadN X0.here hx rfl (hb hby d43_9) rfl k_)
      refine Goes.on (T' := s₁) (g' := (mkF m 11 #[.val (.ref t), .val (.ref t'), .val (.int (Int32.ofNat i))] [(.ref t), (.int (Int32.ofNat i))])) ?_ (fun t_ k_ => XS.aloadN X0.here hx rfl (hb hby d43_10) rfl rfl k_)
      refine Goes.on (T' := s₁) (g' := (mkF m 12 #[.val (.ref t), .val (.ref t'), .val (.int (Int32.ofNat i))] [(.int c1.slots.size.toInt32), (.int (Int32.ofNat i))])) ?_ (X0.arraylength hx (by rw [e0]; exact A1.1) (State.isArrayOf_alike hZ.alike A1.2.1) (g := (mkF m 11 #[.val (.ref t), .val (.ref t'), .val (.int (Int32.ofNat i))] [(.ref t), (.int (Int32.ofNat i))])) rfl rfl (hb hby d43_11))
      rw [len_of S1 M1]
      refine Goes.on (T' := s₁) (g' := (mkF m 15 #[.val (.ref t), .val (.ref t'), .val (.int (Int32.ofNat i))] [])) ?_ (fun t_ k_ => XS.icmpNo X0.here hx rfl (hb hby d43_12) rfl (tlt hlt).2.1 k_)
      refine Goes.on (T' := s₁) (g' := (mkF m 16 #[.val (.ref t), .val (.ref t'), .val (.int (Int32.ofNat i))] [(.ref t)])) ?_ (fun t_ k_ => XS.aloadN X0.here hx rfl (hb hby d43_15) rfl rfl k_)
      refine Goes.on (T' := s₁) (g' := (mkF m 17 #[.val (.ref t), .val (.ref t'), .val (.int (Int32.ofNat i))] [(.int (Int32.ofNat i)), (.ref t)])) ?_ (fun t_ k_ => XS.iloadN X0.here hx rfl (hb hby d43_16) rfl k_)
      refine Goes.on (T' := s₁) (g' := (mkF m 18 #[.val (.ref t), .val (.ref t'), .val (.int (Int32.ofNat i))] [(.int (bs.getD i 0))])) ?_ (X0.baloadBytes hx (j := (Int32.ofNat i)) (v := (.int (bs.getD i 0))) (by rw [e0]; exact A1.1) (State.isArrayOf_alike hZ.alike A1.2.1) A1.2.2 in1 at1 (g := (mkF m 17 #[.val (.ref t), .val (.ref t'), .val (.int (Int32.ofNat i))] [(.int (Int32.ofNat i)), (.ref t)])) rfl rfl (hb hby d43_17))
      refine Goes.on (T' := s₁) (g' := (mkF m 19 #[.val (.ref t), .val (.ref t'), .val (.int (Int32.ofNat i))] [(.ref t'), (.int (bs.getD i 0))])) ?_ (fun t_ k_ => XS.aloadN X0.here hx rfl (hb hby d43_18) rfl rfl k_)
      refine Goes.on (T' := s₁) (g' := (mkF m 20 #[.val (.ref t), .val (.ref t'), .val (.int (Int32.ofNat i))] [(.int (Int32.ofNat i)), (.ref t'), (.int (bs.getD i 0))])) ?_ (fun t_ k_ => XS.iloadN X0.here hx rfl (hb hby d43_19) rfl k_)
      refine Goes.on (T' := s₁) (g' := (mkF m 21 #[.val (.ref t), .val (.ref t'), .val (.int (Int32.ofNat i))] [(.int (ds.getD i 0)), (.int (bs.getD i 0))])) ?_ (X0.baloadBytes hx (j := (Int32.ofNat i)) (v := (.int (ds.getD i 0))) (by rw [e0]; exact A2.1) (State.isArrayOf_alike hZ.alike A2.2.1) A2.2.2 in2 at2 (g := (mkF m 20 #[.val (.ref t), .val (.ref t'), .val (.int (Int32.ofNat i))] [(.int (Int32.ofNat i)), (.ref t'), (.int (bs.getD i 0))])) rfl rfl (hb hby d43_20))
      refine Goes.icmpP X0 hx rfl (pc0 := 21) (pc' := 26) rfl (hb hby d43_21) rfl (by decide) (by decide) (P := (bs.getD i 0) = (ds.getD i 0)) (cmp_eq _ _) (fun hc21 => ?_) (fun hc21 => ?_)
      · show Goes p e below W s₁ (mkF m 26 #[.val (.ref t), .val (.ref t'), .val (.int (Int32.ofNat i))] [])
        refine Goes.on (T' := s₁) (g' := (mkF m 29 #[.val (.ref t), .val (.ref t'), .val (.int ((Int32.ofNat i) + (1 : Int32)))] [])) ?_ (fun t_ k_ => XS.iinc X0.here hx rfl (hb hby d43_26) rfl (l' := #[.val (.ref t), .val (.ref t'), .val (.int ((Int32.ofNat i) + (1 : Int32)))]) rfl k_)
        refine Goes.on (T' := s₁) (g' := (mkF m 9 #[.val (.ref t), .val (.ref t'), .val (.int ((Int32.ofNat i) + (1 : Int32)))] [])) ?_ (fun t_ k_ => XS.goto X0.here hx rfl (pc0 := 29) (pc' := 9) rfl (hb hby d43_29) (by decide) (by decide) k_)
        rw [own_succ]
        exact ih (i + 1) (by omega) (fun j hj => by rcases Nat.lt_succ_iff_lt_or_eq.mp hj with q | q; exact hpre j q; rw [q]; exact hc21)
      · show Goes p e below W s₁ (mkF m 24 #[.val (.ref t), .val (.ref t'), .val (.int (Int32.ofNat i))] [])
        refine Goes.on (T' := s₁) (g' := (mkF m 25 #[.val (.ref t), .val (.ref t'), .val (.int (Int32.ofNat i))] [(.int (0 : Int32))])) ?_ (fun t_ k_ => XS.iconst X0.here hx rfl (hb hby d43_24) k_)
        rw [hWd]
        exact Goes.retn X0 (v := some (.int (nar .boolean (0 : Int32)))) (fun fs hr => retN X0 hx (t := .boolean) Bd.returns (by simp) (hb hby d43_25) hr) (fun h => by rw [Bd.returns] at h; cases h) Bd.notSynchronized (by decide) (by decide) (by rw [e0]; exact ⟨by rw [if_neg (fun q => hc21 (by rw [q]))]; rfl, N0, rfl⟩)
  refine Goes.on (T' := s₁) (g' := (mkF m 1 #[.val (.ref t), .val (.ref t'), .unset] [(.ref t)])) ?_ (fun t_ k_ => XS.aloadN X0.here hx rfl (hb hby d43_0) rfl rfl k_)
  refine Goes.on (T' := s₁) (g' := (mkF m 2 #[.val (.ref t), .val (.ref t'), .unset] [(.int c1.slots.size.toInt32)])) ?_ (X0.arraylength hx (by rw [e0]; exact A1.1) (State.isArrayOf_alike hZ.alike A1.2.1) (g := (mkF m 1 #[.val (.ref t), .val (.ref t'), .unset] [(.ref t)])) rfl rfl (hb hby d43_1))
  rw [len_of S1 M1]
  refine Goes.on (T' := s₁) (g' := (mkF m 3 #[.val (.ref t), .val (.ref t'), .unset] [(.ref t'), (.int (Int32.ofNat bs.length))])) ?_ (fun t_ k_ => XS.aloadN X0.here hx rfl (hb hby d43_2) rfl rfl k_)
  refine Goes.on (T' := s₁) (g' := (mkF m 4 #[.val (.ref t), .val (.ref t'), .unset] [(.int c2.slots.size.toInt32), (.int (Int32.ofNat bs.length))])) ?_ (X0.arraylength hx (by rw [e0]; exact A2.1) (State.isArrayOf_alike hZ.alike A2.2.1) (g := (mkF m 3 #[.val (.ref t), .val (.ref t'), .unset] [(.ref t'), (.int (Int32.ofNat bs.length))])) rfl rfl (hb hby d43_3))
  rw [len_of S2 M2]
  refine Goes.icmpN X0 hx rfl (pc0 := 4) (pc' := 34) rfl (hb hby d43_4) rfl (by decide) (by decide) (P := (Int32.ofNat bs.length) = (Int32.ofNat ds.length)) (cmp_ne _ _) (fun hc4 => ?_) (fun hc4 => ?_)
  · show Goes p e below W s₁ (mkF m 34 #[.val (.ref t), .val (.ref t'), .unset] [])
    refine Goes.on (T' := s₁) (g' := (mkF m 35 #[.val (.ref t), .val (.ref t'), .unset] [(.int (0 : Int32))])) ?_ (fun t_ k_ => XS.iconst X0.here hx rfl (hb hby d43_34) k_)
    rw [hWd]
    exact Goes.retn X0 (v := some (.int (nar .boolean (0 : Int32)))) (fun fs hr => retN X0 hx (t := .boolean) Bd.returns (by simp) (hb hby d43_35) hr) (fun h => by rw [Bd.returns] at h; cases h) Bd.notSynchronized (by decide) (by decide) (by rw [e0]; exact ⟨by rw [if_neg (fun q => hc4 (by rw [q]))]; rfl, N0, rfl⟩)
  · show Goes p e below W s₁ (mkF m 7 #[.val (.ref t), .val (.ref t'), .unset] [])
    refine Goes.on (T' := s₁) (g' := (mkF m 8 #[.val (.ref t), .val (.ref t'), .unset] [(.int (0 : Int32))])) ?_ (fun t_ k_ => XS.iconst X0.here hx rfl (hb hby d43_7) k_)
    refine Goes.on (T' := s₁) (g' := (mkF m 9 #[.val (.ref t), .val (.ref t'), .val (.int (0 : Int32))] [])) ?_ (fun t_ k_ => XS.istoreN X0.here hx rfl (hb hby d43_8) rfl (l' := #[.val (.ref t), .val (.ref t'), .val (.int (0 : Int32))]) rfl k_)
    have hln : bs.length = ds.length := (own_ninj (by omega) (by omega)).mp hc4
    exact K9 hln bs.length 0 (by omega) (fun j hj => absurd hj (Nat.not_lt_zero j))
def QSE (Z : State) (x y : Addr) (bs ds : List Int32) (h0 : Heap) (n0 : Nat) (v : Option Value) (h : Heap) (L : List Loc) : Prop := v = some (.int (if bs = ds then 1 else 0)) ∧ Fr n0 L ∧ h = h0
set_option maxRecDepth 65536 in
set_option maxHeartbeats 40000000 in
theorem rmSE (l : Launch) (Z : State) (a0 : Array Value) (hw : ∀ d ∈ tables_1, d.before a0 Z = true) (ws : List Jvm.Cond) (x y t t' : Addr) (kb kb' : ClassId) (bs ds : List Int32) (cz : Int32) (h0 : Heap) (n0 : Nat) (Z0 : n0 ≤ h0.size) (A : Lat Z h0 x t kb bs) (B : Lat Z h0 y t' kb' ds) (CS : Sta Z h0 "java/lang/String" "COMPACT_STRINGS" "Z" (.int cz)) (hcz : ¬ cz = (0 : Int32)) :
    MetFree l (⟨"java/lang/String", "equals", "(Ljava/lang/Object;)Z"⟩ : MethodName) (head1 (Jvm.Cond.code (⟨"java/lang/String", "equals", "(Ljava/lang/Object;)Z"⟩ : MethodName) jdk_42_method_66_code 3 (some .boolean) :: ws) ({ frames := 1, cells := 0, slots := 0, locals := 14 } : Room)) (fun a_ U => a_ = #[(.ref x), (.ref y)] ∧ Z.Warmed39 U.vm ∧ U.heap = h0) (fun _ _ _ _ _ => True) (fun _ U o U' => ∃ v L, o = .returned v ∧ QSE Z x y bs ds h0 n0 v U'.heap L ∧ FrameEnd U o U' L ({ frames := 1, cells := 0, slots := 0, locals := 14 } : Room).cells ({ frames := 1, cells := 0, slots := 0, locals := 14 } : Room).slots) := by
  refine MetFree.of_bodySF (plainFor_of_name pn_1) hisR ?_
  intro p e s m args below meth c s₁ Bd hml0 hP hK
  obtain ⟨rfl, hZ, hh⟩ := hP
  have hx := Bd.exec
  have hby := Bd.bytes
  have hml : c.maxLocals = 3 := hml0
  have hown : s.vm.findClass "java/lang/String" = some m.cls := findClass_of_methodNamed Bd.named
  have hnm := (name_of_methodNamed Bd.named Bd.method).1
  have X0 : Stand p l e ({ frames := 1, cells := 0, slots := 0, locals := 14 } : Room) s m #[(.ref x), (.ref y)] below meth c s₁ [] 0 0 := Stand.of_body Bd
  have e0 : s₁.heap = h0 := by rw [← hh, Bd.state]; rfl
  have N0 := Fr.nil n0
  refine Goes.done ?_
  obtain ⟨W, hWd⟩ : ∃ W : State → Prop, W = EndW s below (QSE Z x y bs ds h0 n0) ({ frames := 1, cells := 0, slots := 0, locals := 14 } : Room).cells ({ frames := 1, cells := 0, slots := 0, locals := 14 } : Room).slots := ⟨_, rfl⟩
  rw [← hWd]
  have hef : entryFrame m #[(.ref x), (.ref y)] 3 = (mkF m 0 #[.val (.ref x), .val (.ref y), .unset] []) := by first | (simp [entryFrame, mkF, argsToLocals, Value.category]; done) | rfl
  rw [hef]
  refine Goes.on (T' := s₁) (g' := (mkF m 1 #[.val (.ref x), .val (.ref y), .unset] [(.ref x)])) ?_ (fun t_ k_ => XS.aloadN X0.here hx rfl (hb hby d42_0) rfl rfl k_)
  refine Goes.on (T' := s₁) (g' := (mkF m 2 #[.val (.ref x), .val (.ref y), .unset] [(.ref y), (.ref x)])) ?_ (fun t_ k_ => XS.aloadN X0.here hx rfl (hb hby d42_1) rfl rfl k_)
  refine Goes.acmpR X0 hx rfl (pc0 := 2) (pcE := 5) (pcN := 7) rfl (hb hby d42_2) rfl (by decide) (by decide) (by decide) (fun hc2 => ?_) (fun hc2 => ?_)
  · show Goes p e below W s₁ (mkF m 5 #[.val (.ref x), .val (.ref y), .unset] [])
    refine Goes.on (T' := s₁) (g' := (mkF m 6 #[.val (.ref x), .val (.ref y), .unset] [(.int (1 : Int32))])) ?_ (fun t_ k_ => XS.iconst X0.here hx rfl (hb hby d42_5) k_)
    rw [hWd]
    exact Goes.retn X0 (v := some (.int (nar .boolean (1 : Int32)))) (fun fs hr => retN X0 hx (t := .boolean) Bd.returns (by simp) (hb hby d42_6) hr) (fun h => by rw [Bd.returns] at h; cases h) Bd.notSynchronized (by decide) (by decide) (by rw [e0]; exact ⟨by subst hc2; rw [if_pos (A.same B)]; rfl, N0, rfl⟩)
  · show Goes p e below W s₁ (mkF m 7 #[.val (.ref x), .val (.ref y), .unset] [])
    refine Goes.on (T' := s₁) (g' := (mkF m 8 #[.val (.ref x), .val (.ref y), .unset] [(.ref y)])) ?_ (fun t_ k_ => XS.aloadN X0.here hx rfl (hb hby d42_7) rfl rfl k_)
    obtain ⟨T1, X1, e1, st1⟩ := instY X0 hx hZ hown (hw _ (List.mem_of_getElem? (i := 37) rfl)) e0 (Ins.self B.1) (g := (mkF m 8 #[.val (.ref x), .val (.ref y), .unset] [(.ref y)])) rfl rfl (hb hby d42_8)
    refine Goes.on (T' := T1) (g' := (mkF m 11 #[.val (.ref x), .val (.ref y), .unset] [(.int (1 : Int32))])) ?_ st1
    refine Goes.on (T' := T1) (g' := (mkF m 14 #[.val (.ref x), .val (.ref y), .unset] [])) ?_ (fun t_ k_ => XS.ifNo X1.here hx rfl (hb hby d42_11) rfl (by decide) k_)
    refine Goes.on (T' := T1) (g' := (mkF m 15 #[.val (.ref x), .val (.ref y), .unset] [(.ref y)])) ?_ (fun t_ k_ => XS.aloadN X1.here hx rfl (hb hby d42_14) rfl rfl k_)
    obtain ⟨T2, X2, e2, st2⟩ := castY X1 hx hZ hown (hw _ (List.mem_of_getElem? (i := 37) rfl)) e1 (Ins.self B.1) (g := (mkF m 15 #[.val (.ref x), .val (.ref y), .unset] [(.ref y)])) rfl rfl (hb hby d42_15)
    refine Goes.on (T' := T2) (g' := (mkF m 18 #[.val (.ref x), .val (.ref y), .unset] [(.ref y)])) ?_ st2
    refine Goes.on (T' := T2) (g' := (mkF m 19 #[.val (.ref x), .val (.ref y), .val (.ref y)] [])) ?_ (fun t_ k_ => XS.astoreN X2.here hx rfl (hb hby d42_18) rfl rfl (l' := #[.val (.ref x), .val (.ref y), .val (.ref y)]) rfl k_)
    obtain ⟨T3, X3, e3, st3⟩ := getS2 X2 hx hZ hown (host := "") (Or.inl (hw _ (List.mem_of_getElem? (i := 14) rfl))) Via.refl e2 CS (g := (mkF m 19 #[.val (.ref x), .val (.ref y), .val (.ref y)] [])) rfl (hb hby d42_19)
    refine Goes.on (T' := T3) (g' := (mkF m 22 #[.val (.ref x), .val (.ref y), .val (.ref y)] [(.int cz)])) ?_ st3
    refine Goes.on (T' := T3) (g' := (mkF m 25 #[.val (.ref x), .val (.ref y), .val (.ref y)] [])) ?_ (fun t_ k_ => XS.ifNo X3.here hx rfl (hb hby d42_22) rfl ((if0 _ _).trans (feq hcz).1) k_)
    refine Goes.on (T' := T3) (g' := (mkF m 26 #[.val (.ref x), .val (.ref y), .val (.ref y)] [(.ref x)])) ?_ (fun t_ k_ => XS.aloadN X3.here hx rfl (hb hby d42_25) rfl rfl k_)
    obtain ⟨T4, X4, e4, st4⟩ := getF X3 hx hZ hown (host := "") (Or.inl (hw _ (List.mem_of_getElem? (i := 26) rfl))) Via.refl e3 A.2.1 (g := (mkF m 26 #[.val (.ref x), .val (.ref y), .val (.ref y)] [(.ref x)])) rfl rfl (hb hby d42_26)
    refine Goes.on (T' := T4) (g' := (mkF m 29 #[.val (.ref x), .val (.ref y), .val (.ref y)] [(.int (0 : Int32))])) ?_ st4
    refine Goes.on (T' := T4) (g' := (mkF m 30 #[.val (.ref x), .val (.ref y), .val (.ref y)] [(.ref y), (.int (0 : Int32))])) ?_ (fun t_ k_ => XS.aloadN X4.here hx rfl (hb hby d42_29) rfl rfl k_)
    obtain ⟨T5, X5, e5, st5⟩ := getF X4 hx hZ hown (host := "") (Or.inl (hw _ (List.mem_of_getElem? (i := 26) rfl))) Via.refl e4 B.2.1 (g := (mkF m 30 #[.val (.ref x), .val (.ref y), .val (.ref y)] [(.ref y), (.int (0 : Int32))])) rfl rfl (hb hby d42_30)
    refine Goes.on (T' := T5) (g' := (mkF m 33 #[.val (.ref x), .val (.ref y), .val (.ref y)] [(.int (0 : Int32)), (.int (0 : Int32))])) ?_ st5
    refine Goes.on (T' := T5) (g' := (mkF m 36 #[.val (.ref x), .val (.ref y), .val (.ref y)] [])) ?_ (fun t_ k_ => XS.icmpNo X5.here hx rfl (hb hby d42_33) rfl (by decide) k_)
    refine Goes.on (T' := T5) (g' := (mkF m 37 #[.val (.ref x), .val (.ref y), .val (.ref y)] [(.ref x)])) ?_ (fun t_ k_ => XS.aloadN X5.here hx rfl (hb hby d42_36) rfl rfl k_)
    obtain ⟨T6, X6, e6, st6⟩ := getF X5 hx hZ hown (host := "") (Or.inl (hw _ (List.mem_of_getElem? (i := 28) rfl))) Via.refl e5 A.2.2.1 (g := (mkF m 37 #[.val (.ref x), .val (.ref y), .val (.ref y)] [(.ref x)])) rfl rfl (hb hby d42_37)
    refine Goes.on (T' := T6) (g' := (mkF m 40 #[.val (.ref x), .val (.ref y), .val (.ref y)] [(.ref t)])) ?_ st6
    refine Goes.on (T' := T6) (g' := (mkF m 41 #[.val (.ref x), .val (.ref y), .val (.ref y)] [(.ref y), (.ref t)])) ?_ (fun t_ k_ => XS.aloadN X6.here hx rfl (hb hby d42_40) rfl rfl k_)
    obtain ⟨T7, X7, e7, st7⟩ := getF X6 hx hZ hown (host := "") (Or.inl (hw _ (List.mem_of_getElem? (i := 28) rfl))) Via.refl e6 B.2.2.1 (g := (mkF m 41 #[.val (.ref x), .val (.ref y), .val (.ref y)] [(.ref y), (.ref t)])) rfl rfl (hb hby d42_41)
    refine Goes.on (T' := T7) (g' := (mkF m 44 #[.val (.ref x), .val (.ref y), .val (.ref y)] [(.ref t'), (.ref t)])) ?_ st7
    obtain ⟨_, _, ⟨T8, Lq_8, kq_8, nq_8⟩, -, X8, ⟨Lc8, hQ8, l8, y8, z8⟩, st8⟩ := Jvm.LawKit.callS X7 hx (y := (⟨"java/lang/StringLatin1", "equals", "([B[B)Z"⟩ : MethodName)) hown (mvT hZ (hw _ (List.mem_of_getElem? (i := 297) rfl))) (mvT hZ (hw _ (List.mem_of_getElem? (i := 298) rfl))) (mvT hZ (hw _ (List.mem_of_getElem? (i := 35) rfl))) (mvT hZ (hw _ (List.mem_of_getElem? (i := 299) rfl))) (by decide) (backOf (W := 0) (rmLE l Z a0 hw [] t t' kb kb' bs ds h0 n0 Z0 A.2.2.2.1 B.2.2.2.1 A.2.2.2.2 B.2.2.2.2) hZ (hw _ (List.mem_of_getElem? (i := 299) rfl)) (hw _ (List.mem_of_getElem? (i := 35) rfl)) (by decide) (by decide)) (g := (mkF m 44 #[.val (.ref x), .val (.ref y), .val (.ref y)] [(.ref t'), (.ref t)])) rfl (by rw [hml]; rfl) (argsL := [(.ref t), (.ref t')]) (rest := []) (lenOf pd_3 rfl) rfl (by show 2 * 0 + _ ≤ _; exact Nat.le_of_eq rfl) (hb hby d42_44) (fun _ _ => ⟨rfl, e7, (by decide : 0 + 0 ≤ _), (by decide : 0 + 0 ≤ _)⟩)
    dsimp only [Pt.U, Pt.locs, Pt.cells, Pt.slots] at X8 l8 y8 z8 st8 hQ8
    rw [l8, y8, z8] at X8
    change Stand p l e _ _ m _ below meth c T8 _ 0 0 at X8
    obtain ⟨rfl, N8q, eh8⟩ := hQ8
    have N8 := Fr.app N0 N8q
    refine Goes.on (T' := T8) (g' := (mkF m 47 #[.val (.ref x), .val (.ref y), .val (.ref y)] [(.int (if bs = ds then 1 else 0))])) ?_ st8
    refine Goes.ifP X8 hx rfl (pc0 := 47) (pc' := 54) rfl (hb hby d42_47) rfl (by decide) (by decide) (P := (if bs = ds then 1 else 0) = (0 : Int32)) (ifc_eq _ _) (fun hc47 => ?_) (fun hc47 => ?_)
    · show Goes p e below W T8 (mkF m 54 #[.val (.ref x), .val (.ref y), .val (.ref y)] [])
      refine Goes.on (T' := T8) (g' := (mkF m 55 #[.val (.ref x), .val (.ref y), .val (.ref y)] [(.int (0 : Int32))])) ?_ (fun t_ k_ => XS.iconst X8.here hx rfl (hb hby d42_54) k_)
      rw [hWd]
      exact Goes.retn X8 (v := some (.int (nar .boolean (0 : Int32)))) (fun fs hr => retN X8 hx (t := .boolean) Bd.returns (by simp) (hb hby d42_55) hr) (fun h => by rw [Bd.returns] at h; cases h) Bd.notSynchronized (by decide) (by decide) (by rw [eh8]; exact ⟨by split at hc47; exact absurd hc47 (by decide); rw [if_neg (by assumption)]; rfl, N8, rfl⟩)
    · show Goes p e below W T8 (mkF m 50 #[.val (.ref x), .val (.ref y), .val (.ref y)] [])
      refine Goes.on (T' := T8) (g' := (mkF m 51 #[.val (.ref x), .val (.ref y), .val (.ref y)] [(.int (1 : Int32))])) ?_ (fun t_ k_ => XS.iconst X8.here hx rfl (hb hby d42_50) k_)
      refine Goes.on (T' := T8) (g' := (mkF m 55 #[.val (.ref x), .val (.ref y), .val (.ref y)] [(.int (1 : Int32))])) ?_ (fun t_ k_ => XS.goto X8.here hx rfl (pc0 := 51) (pc' := 55) rfl (hb hby d42_51) (by decide) (by decide) k_)
      rw [hWd]
      exact Goes.retn X8 (v := some (.int (nar .boolean (1 : Int32)))) (fun fs hr => retN X8 hx (t := .boolean) Bd.returns (by simp) (hb hby d42_55) hr) (fun h => by rw [Bd.returns] at h; cases h) Bd.notSynchronized (by decide) (by decide) (by rw [eh8]; exact ⟨by split at hc47; rw [if_pos (by assumption)]; rfl; exact absurd rfl hc47, N8, rfl⟩)
def QLA (Z : State) (x : Addr) (zc : Int32) (h0 : Heap) (n0 : Nat) (v : Option Value) (h : Heap) (L : List Loc) : Prop := v = some (.int (1)) ∧ Fr n0 L ∧ h = h0
set_option maxRecDepth 65536 in
set_option maxHeartbeats 40000000 in
theorem rmLA (l : Launch) (Z : State) (a0 : Array Value) (hw : ∀ d ∈ tables_1, d.before a0 Z = true) (ws : List Jvm.Cond) (x : Addr) (zc : Int32) (h0 : Heap) (n0 : Nat) (Z0 : n0 ≤ h0.size) (FC : Fld Z h0 x "java/lang/String" "coder" "B" (.int (0 : Int32))) (CS : Sta Z Z.heap "java/lang/String" "COMPACT_STRINGS" "Z" (.int zc)) (hzc : ¬ zc = (0 : Int32)) (X0_ : Old Z n0 h0) :
    MetFree l (⟨"java/lang/String", "isLatin1", "()Z"⟩ : MethodName) (head1 (Jvm.Cond.code (⟨"java/lang/String", "isLatin1", "()Z"⟩ : MethodName) jdk_42_method_154_code 1 (some .boolean) :: ws) ({ frames := 0, cells := 0, slots := 0, locals := 0 } : Room)) (fun a_ U => a_ = #[(.ref x)] ∧ Z.Warmed39 U.vm ∧ U.heap = h0) (fun _ _ _ _ _ => True) (fun _ U o U' => ∃ v L, o = .returned v ∧ QLA Z x zc h0 n0 v U'.heap L ∧ FrameEnd U o U' L ({ frames := 0, cells := 0, slots := 0, locals := 0 } : Room).cells ({ frames := 0, cells := 0, slots := 0, locals := 0 } : Room).slots) := by
  refine MetFree.of_bodySF (plainFor_of_name pn_1) hisR ?_
  intro p e s m args below meth c s₁ Bd hml0 hP hK
  obtain ⟨rfl, hZ, hh⟩ := hP
  have hx := Bd.exec
  have hby := Bd.bytes
  have hml : c.maxLocals = 1 := hml0
  have hown : s.vm.findClass "java/lang/String" = some m.cls := findClass_of_methodNamed Bd.named
  have hnm := (name_of_methodNamed Bd.named Bd.method).1
  have X0 : Stand p l e ({ frames := 0, cells := 0, slots := 0, locals := 0 } : Room) s m #[(.ref x)] below meth c s₁ [] 0 0 := Stand.of_body Bd
  have e0 : s₁.heap = h0 := by rw [← hh, Bd.state]; rfl
  have N0 := Fr.nil n0
  refine Goes.done ?_
  obtain ⟨W, hWd⟩ : ∃ W : State → Prop, W = EndW s below (QLA Z x zc h0 n0) ({ frames := 0, cells := 0, slots := 0, locals := 0 } : Room).cells ({ frames := 0, cells := 0, slots := 0, locals := 0 } : Room).slots := ⟨_, rfl⟩
  rw [← hWd]
  have hef : entryFrame m #[(.ref x)] 1 = (mkF m 0 #[.val (.ref x)] []) := by first | (simp [entryFrame, mkF, argsToLocals, Value.category]; done) | rfl
  rw [hef]
  obtain ⟨T1, X1, e1, st1⟩ := getS2 X0 hx hZ hown (host := "") (Or.inl (hw _ (List.mem_of_getElem? (i := 14) rfl))) Via.refl e0 (CS.ext X0_.2) (g := (mkF m 0 #[.val (.ref x)] [])) rfl (hb hby d34_0)
  refine Goes.on (T' := T1) (g' := (mkF m 3 #[.val (.ref x)] [(.int zc)])) ?_ st1
  refine Goes.on (T' := T1) (g' := (mkF m 6 #[.val (.ref x)] [])) ?_ (fun t_ k_ => XS.ifNo X1.here hx rfl (hb hby d34_3) rfl ((if0 _ _).trans (feq hzc).1) k_)
  refine Goes.on (T' := T1) (g' := (mkF m 7 #[.val (.ref x)] [(.ref x)])) ?_ (fun t_ k_ => XS.aloadN X1.here hx rfl (hb hby d34_6) rfl rfl k_)
  obtain ⟨T2, X2, e2, st2⟩ := getF X1 hx hZ hown (host := "") (Or.inl (hw _ (List.mem_of_getElem? (i := 26) rfl))) Via.refl e1 FC (g := (mkF m 7 #[.val (.ref x)] [(.ref x)])) rfl rfl (hb hby d34_7)
  refine Goes.on (T' := T2) (g' := (mkF m 10 #[.val (.ref x)] [(.int (0 : Int32))])) ?_ st2
  refine Goes.on (T' := T2) (g' := (mkF m 13 #[.val (.ref x)] [])) ?_ (fun t_ k_ => XS.ifNo X2.here hx rfl (hb hby d34_10) rfl (by decide) k_)
  refine Goes.on (T' := T2) (g' := (mkF m 14 #[.val (.ref x)] [(.int (1 : Int32))])) ?_ (fun t_ k_ => XS.iconst X2.here hx rfl (hb hby d34_13) k_)
  refine Goes.on (T' := T2) (g' := (mkF m 18 #[.val (.ref x)] [(.int (1 : Int32))])) ?_ (fun t_ k_ => XS.goto X2.here hx rfl (pc0 := 14) (pc' := 18) rfl (hb hby d34_14) (by decide) (by decide) k_)
  rw [hWd]
  exact Goes.retn X2 (v := some (.int (nar .boolean (1 : Int32)))) (fun fs hr => retN X2 hx (t := .boolean) Bd.returns (by simp) (hb hby d34_18) hr) (fun h => by rw [Bd.returns] at h; cases h) Bd.notSynchronized (by decide) (by decide) (by rw [e2]; exact ⟨rfl, N0, rfl⟩)
def QLH (Z : State) (t : Addr) (kt : ClassId) (c_ : Int32) (h0 : Heap) (n0 : Nat) (v : Option Value) (h : Heap) (L : List Loc) : Prop := v = some (.int (c_)) ∧ Fr n0 L ∧ h = h0
set_option maxRecDepth 65536 in
set_option maxHeartbeats 40000000 in
theorem rmLH (l : Launch) (Z : State) (a0 : Array Value) (hw : ∀ d ∈ tables_1, d.before a0 Z = true) (ws : List Jvm.Cond) (t : Addr) (kt : ClassId) (c_ : Int32) (h0 : Heap) (n0 : Nat) (Z0 : n0 ≤ h0.size) (B : Arv Z h0 t kt .byte (Int32.ofNat [own_lo c_].length) ([own_lo c_].map Value.int) (.int 0)) (hca : ¬ c_ < 0) (hcb : ¬ (255 : Int32) < c_) :
    MetFree l (⟨"java/lang/StringLatin1", "hashCode", "([B)I"⟩ : MethodName) (head1 (Jvm.Cond.code (⟨"java/lang/StringLatin1", "hashCode", "([B)I"⟩ : MethodName) jdk_43_method_21_code 1 (some .int) :: ws) ({ frames := 0, cells := 0, slots := 0, locals := 0 } : Room)) (fun a_ U => a_ = #[(.ref t)] ∧ Z.Warmed39 U.vm ∧ U.heap = h0) (fun _ _ _ _ _ => True) (fun _ U o U' => ∃ v L, o = .returned v ∧ QLH Z t kt c_ h0 n0 v U'.heap L ∧ FrameEnd U o U' L ({ frames := 0, cells := 0, slots := 0, locals := 0 } : Room).cells ({ frames := 0, cells := 0, slots := 0, locals := 0 } : Room).slots) := by
  refine MetFree.of_bodySF (plainFor_of_name pn_0) hisR ?_
  intro p e s m args below meth c s₁ Bd hml0 hP hK
  obtain ⟨rfl, hZ, hh⟩ := hP
  have hx := Bd.exec
  have hby := Bd.bytes
  have hml : c.maxLocals = 1 := hml0
  have hown : s.vm.findClass "java/lang/StringLatin1" = some m.cls := findClass_of_methodNamed Bd.named
  have hnm := (name_of_methodNamed Bd.named Bd.method).1
  have X0 : Stand p l e ({ frames := 0, cells := 0, slots := 0, locals := 0 } : Room) s m #[(.ref t)] below meth c s₁ [] 0 0 := Stand.of_body Bd
  have e0 : s₁.heap = h0 := by rw [← hh, Bd.state]; rfl
  have N0 := Fr.nil n0
  refine Goes.done ?_
  obtain ⟨W, hWd⟩ : ∃ W : State → Prop, W = EndW s below (QLH Z t kt c_ h0 n0) ({ frames := 0, cells := 0, slots := 0, locals := 0 } : Room).cells ({ frames := 0, cells := 0, slots := 0, locals := 0 } : Room).slots := ⟨_, rfl⟩
  rw [← hWd]
  have hef : entryFrame m #[(.ref t)] 1 = (mkF m 0 #[.val (.ref t)] []) := by first | (simp [entryFrame, mkF, argsToLocals, Value.category]; done) | rfl
  rw [hef]
  have B1 : Arv Z h0 t kt .byte (1 : Int32) [.int (own_lo c_)] (.int 0) := B
  obtain ⟨cc, A1, -, S1_, M1, H1, -⟩ := id B1
  refine Goes.on (T' := s₁) (g' := (mkF m 1 #[.val (.ref t)] [(.ref t)])) ?_ (fun t_ k_ => XS.aloadN X0.here hx rfl (hb hby d35_0) rfl rfl k_)
  refine Goes.on (T' := s₁) (g' := (mkF m 2 #[.val (.ref t)] [(.int cc.slots.size.toInt32)])) ?_ (X0.arraylength hx (by rw [e0]; exact A1.1) (State.isArrayOf_alike hZ.alike A1.2.1) (g := (mkF m 1 #[.val (.ref t)] [(.ref t)])) rfl rfl (hb hby d35_1))
  rw [len_of S1_ M1]
  refine Goes.on (T' := s₁) (g' := (mkF m 32 #[.val (.ref t)] [])) ?_ (fun t_ => X0.lookupswitchHit hx (g := (mkF m 2 #[.val (.ref t)] [(.int (1 : Int32))])) rfl (k := (1 : Int32)) rfl (hb hby d35_2) (by decide) (a := 1) (off := 30) (by decide) (by show (0 : Int) ≤ ((2 : Nat) : Int) + 30; decide) t_)
  refine Goes.on (T' := s₁) (g' := (mkF m 33 #[.val (.ref t)] [(.ref t)])) ?_ (fun t_ k_ => XS.aloadN X0.here hx rfl (hb hby d35_32) rfl rfl k_)
  refine Goes.on (T' := s₁) (g' := (mkF m 34 #[.val (.ref t)] [(.int (0 : Int32)), (.ref t)])) ?_ (fun t_ k_ => XS.iconst X0.here hx rfl (hb hby d35_33) k_)
  refine Goes.on (T' := s₁) (g' := (mkF m 35 #[.val (.ref t)] [(.int (own_lo c_))])) ?_ (X0.baloadBytes hx (j := (0 : Int32)) (v := (.int (own_lo c_))) (by rw [e0]; exact A1.1) (State.isArrayOf_alike hZ.alike A1.2.1) A1.2.2 (inb_of S1_ ⟨by decide, by decide⟩) (by have q := H1 0 (by rw [S1_]; decide); exact q) (g := (mkF m 34 #[.val (.ref t)] [(.int (0 : Int32)), (.ref t)])) rfl rfl (hb hby d35_34))
  refine Goes.on (T' := s₁) (g' := (mkF m 38 #[.val (.ref t)] [(.int (255 : Int32)), (.int (own_lo c_))])) ?_ (fun t_ k_ => XS.sipush X0.here hx rfl (hb hby d35_35) k_)
  refine Goes.on (T' := s₁) (g' := (mkF m 39 #[.val (.ref t)] [(.int ((own_lo c_) &&& (255 : Int32)))])) ?_ (fun t_ k_ => XS.iand X0.here hx rfl (hb hby d35_38) rfl k_)
  refine Goes.on (T' := s₁) (g' := (mkF m 51 #[.val (.ref t)] [(.int ((own_lo c_) &&& (255 : Int32)))])) ?_ (fun t_ k_ => XS.goto X0.here hx rfl (pc0 := 39) (pc' := 51) rfl (hb hby d35_39) (by decide) (by decide) k_)
  rw [hWd]
  exact Goes.retn X0 (v := some (.int ((own_lo c_) &&& (255 : Int32)))) (fun fs hr => retI X0 hx Bd.returns (hb hby d35_51) hr) (fun h => by rw [Bd.returns] at h; cases h) Bd.notSynchronized (by decide) (by decide) (by rw [e0]; exact ⟨by rw [own_and_lo, own_and255 hca hcb], N0, rfl⟩)
def QSH (Z : State) (x t : Addr) (kt : ClassId) (c_ : Int32) (zc : Int32) (h0 : Heap) (n0 : Nat) (v : Option Value) (h : Heap) (L : List Loc) : Prop := v = some (.int c_) ∧ Fr n0 L ∧ Keep h0 h [x] ∧ S1 Z h x t kt c_
set_option maxRecDepth 65536 in
set_option maxHeartbeats 40000000 in
theorem rmSH (l : Launch) (Z : State) (a0 : Array Value) (hw : ∀ d ∈ tables_1, d.before a0 Z = true) (ws : List Jvm.Cond) (x t : Addr) (kt : ClassId) (c_ : Int32) (zc : Int32) (h0 : Heap) (n0 : Nat) (Z0 : n0 ≤ h0.size) (A : S1 Z h0 x t kt c_) (ga : n0 ≤ x) (hca : ¬ c_ < 0) (hcb : ¬ (255 : Int32) < c_) (CS : Sta Z Z.heap "java/lang/String" "COMPACT_STRINGS" "Z" (.int zc)) (hzc : ¬ zc = (0 : Int32)) (X0_ : Old Z n0 h0) :
    MetFree l (⟨"java/lang/String", "hashCode", "()I"⟩ : MethodName) (head1 (Jvm.Cond.code (⟨"java/lang/String", "hashCode", "()I"⟩ : MethodName) jdk_42_method_78_code 2 (some .int) :: ws) ({ frames := 1, cells := 0, slots := 0, locals := 12 } : Room)) (fun a_ U => a_ = #[(.ref x)] ∧ Z.Warmed39 U.vm ∧ U.heap = h0) (fun _ _ _ _ _ => True) (fun _ U o U' => ∃ v L, o = .returned v ∧ QSH Z x t kt c_ zc h0 n0 v U'.heap L ∧ FrameEnd U o U' L ({ frames := 1, cells := 0, slots := 0, locals := 12 } : Room).cells ({ frames := 1, cells := 0, slots := 0, locals := 12 } : Room).slots) := by
  refine MetFree.of_bodySF (plainFor_of_name pn_1) hisR ?_
  intro p e s m args below meth c s₁ Bd hml0 hP hK
  obtain ⟨rfl, hZ, hh⟩ := hP
  have hx := Bd.exec
  have hby := Bd.bytes
  have hml : c.maxLocals = 2 := hml0
  have hown : s.vm.findClass "java/lang/String" = some m.cls := findClass_of_methodNamed Bd.named
  have hnm := (name_of_methodNamed Bd.named Bd.method).1
  have X0 : Stand p l e ({ frames := 1, cells := 0, slots := 0, locals := 12 } : Room) s m #[(.ref x)] below meth c s₁ [] 0 0 := Stand.of_body Bd
  have e0 : s₁.heap = h0 := by rw [← hh, Bd.state]; rfl
  have N0 := Fr.nil n0
  refine Goes.done ?_
  obtain ⟨W, hWd⟩ : ∃ W : State → Prop, W = EndW s below (QSH Z x t kt c_ zc h0 n0) ({ frames := 1, cells := 0, slots := 0, locals := 12 } : Room).cells ({ frames := 1, cells := 0, slots := 0, locals := 12 } : Room).slots := ⟨_, rfl⟩
  rw [← hWd]
  have hef : entryFrame m #[(.ref x)] 2 = (mkF m 0 #[.val (.ref x), .unset] []) := by first | (simp [entryFrame, mkF, argsToLocals, Value.category]; done) | rfl
  rw [hef]
  obtain ⟨⟨E, FC, FV, B, l4⟩, hv, zv, FH, FZ, hh1, hz1⟩ := id A
  have tx : t ≠ x := Ne.symm (Exa.neArv E B (hw _ (List.mem_of_getElem? (i := 2) rfl)))
  refine Goes.on (T' := s₁) (g' := (mkF m 1 #[.val (.ref x), .unset] [(.ref x)])) ?_ (fun t_ k_ => XS.aloadN X0.here hx rfl (hb hby d33_0) rfl rfl k_)
  obtain ⟨T1, X1, e1, st1⟩ := getF X0 hx hZ hown (host := "") (Or.inl (hw _ (List.mem_of_getElem? (i := 232) rfl))) Via.refl e0 FH (g := (mkF m 1 #[.val (.ref x), .unset] [(.ref x)])) rfl rfl (hb hby d33_1)
  refine Goes.on (T' := T1) (g' := (mkF m 4 #[.val (.ref x), .unset] [(.int hv)])) ?_ st1
  refine Goes.on (T' := T1) (g' := (mkF m 5 #[.val (.ref x), .val (.int hv)] [])) ?_ (fun t_ k_ => XS.istoreN X1.here hx rfl (hb hby d33_4) rfl (l' := #[.val (.ref x), .val (.int hv)]) rfl k_)
  refine Goes.on (T' := T1) (g' := (mkF m 6 #[.val (.ref x), .val (.int hv)] [(.int hv)])) ?_ (fun t_ k_ => XS.iloadN X1.here hx rfl (hb hby d33_5) rfl k_)
  refine Goes.ifN X1 hx rfl (pc0 := 6) (pc' := 58) rfl (hb hby d33_6) rfl (by decide) (by decide) (P := hv = (0 : Int32)) (ifc_ne _ _) (fun hc6 => ?_) (fun hc6 => ?_)
  · show Goes p e below W T1 (mkF m 58 #[.val (.ref x), .val (.int hv)] [])
    refine Goes.on (T' := T1) (g' := (mkF m 59 #[.val (.ref x), .val (.int hv)] [(.int hv)])) ?_ (fun t_ k_ => XS.iloadN X1.here hx rfl (hb hby d33_58) rfl k_)
    rw [hWd]
    exact Goes.retn X1 (v := some (.int hv)) (fun fs hr => retI X1 hx Bd.returns (hb hby d33_59) hr) (fun h => by rw [Bd.returns] at h; cases h) Bd.notSynchronized (by decide) (by decide) (by rw [e1]; exact ⟨by rw [hh1.resolve_left hc6], N0, Keep.refl _ _, A⟩)
  · show Goes p e below W T1 (mkF m 9 #[.val (.ref x), .val (.int hv)] [])
    refine Goes.on (T' := T1) (g' := (mkF m 10 #[.val (.ref x), .val (.int hv)] [(.ref x)])) ?_ (fun t_ k_ => XS.aloadN X1.here hx rfl (hb hby d33_9) rfl rfl k_)
    obtain ⟨T2, X2, e2, st2⟩ := getF X1 hx hZ hown (host := "") (Or.inl (hw _ (List.mem_of_getElem? (i := 234) rfl))) Via.refl e1 FZ (g := (mkF m 10 #[.val (.ref x), .val (.int hv)] [(.ref x)])) rfl rfl (hb hby d33_10)
    refine Goes.on (T' := T2) (g' := (mkF m 13 #[.val (.ref x), .val (.int hv)] [(.int zv)])) ?_ st2
    refine Goes.ifN X2 hx rfl (pc0 := 13) (pc' := 58) rfl (hb hby d33_13) rfl (by decide) (by decide) (P := zv = (0 : Int32)) (ifc_ne _ _) (fun hc13 => ?_) (fun hc13 => ?_)
    · show Goes p e below W T2 (mkF m 58 #[.val (.ref x), .val (.int hv)] [])
      refine Goes.on (T' := T2) (g' := (mkF m 59 #[.val (.ref x), .val (.int hv)] [(.int hv)])) ?_ (fun t_ k_ => XS.iloadN X2.here hx rfl (hb hby d33_58) rfl k_)
      rw [hWd]
      exact Goes.retn X2 (v := some (.int hv)) (fun fs hr => retI X2 hx Bd.returns (hb hby d33_59) hr) (fun h => by rw [Bd.returns] at h; cases h) Bd.notSynchronized (by decide) (by decide) (by rw [e2]; exact ⟨by rw [hc6, (hz1.resolve_left hc13).1], N0, Keep.refl _ _, A⟩)
    · show Goes p e below W T2 (mkF m 16 #[.val (.ref x), .val (.int hv)] [])
      refine Goes.on (T' := T2) (g' := (mkF m 17 #[.val (.ref x), .val (.int hv)] [(.ref x)])) ?_ (fun t_ k_ => XS.aloadN X2.here hx rfl (hb hby d33_16) rfl rfl k_)
      obtain ⟨cq3, kq3, q3a, q3b, q3c⟩ := isOf hZ e2 E
      obtain ⟨_, _, ⟨T3, Lq_3, kq_3, nq_3⟩, -, X3, ⟨Lc3, hQ3, l3, y3, z3⟩, st3⟩ := X2.virtualBack hx (y := (⟨"java/lang/String", "isLatin1", "()Z"⟩ : MethodName)) (z := (⟨"java/lang/String", "isLatin1", "()Z"⟩ : MethodName)) hown (mvT hZ (hw _ (List.mem_of_getElem? (i := 236) rfl))) (mvT hZ (hw _ (List.mem_of_getElem? (i := 237) rfl))) (notFace_of_selects (args := #[]) (mvT hZ (hw _ (List.mem_of_getElem? (i := 239) rfl)))) (mvT hZ (hw _ (List.mem_of_getElem? (i := 239) rfl))) (mvT hZ (hw _ (List.mem_of_getElem? (i := 238) rfl))) (by decide) (backOf (W := 0) (rmLA l Z a0 hw [] x zc h0 n0 Z0 FC CS hzc X0_) hZ (hw _ (List.mem_of_getElem? (i := 240) rfl)) (hw _ (List.mem_of_getElem? (i := 3) rfl)) (by decide) (by decide)) q3a q3c (g := (mkF m 17 #[.val (.ref x), .val (.int hv)] [(.ref x)])) rfl (by rw [hml]; rfl) (Steps.refl _) (argsL := []) (rest := []) (lenOf pd_4 rfl) rfl (by show 2 * 0 + _ ≤ _; exact Nat.le_of_eq rfl) (hb hby d33_17) (fun _ _ => ⟨rfl, e2, (by decide : 0 + 0 ≤ _), (by decide : 0 + 0 ≤ _)⟩)
      dsimp only [Pt.U, Pt.locs, Pt.cells, Pt.slots] at X3 l3 y3 z3 st3 hQ3
      rw [l3, y3, z3] at X3
      change Stand p l e _ _ m _ below meth c T3 _ 0 0 at X3
      obtain ⟨rfl, N3q, eh3⟩ := hQ3
      have N3 := Fr.app N0 N3q
      refine Goes.on (T' := T3) (g' := (mkF m 20 #[.val (.ref x), .val (.int hv)] [(.int (1 : Int32))])) ?_ (fun t => st3.trans)
      refine Goes.on (T' := T3) (g' := (mkF m 23 #[.val (.ref x), .val (.int hv)] [])) ?_ (fun t_ k_ => XS.ifNo X3.here hx rfl (hb hby d33_20) rfl (by decide) k_)
      refine Goes.on (T' := T3) (g' := (mkF m 24 #[.val (.ref x), .val (.int hv)] [(.ref x)])) ?_ (fun t_ k_ => XS.aloadN X3.here hx rfl (hb hby d33_23) rfl rfl k_)
      obtain ⟨T4, X4, e4, st4⟩ := getF X3 hx hZ hown (host := "") (Or.inl (hw _ (List.mem_of_getElem? (i := 28) rfl))) Via.refl eh3 FV (g := (mkF m 24 #[.val (.ref x), .val (.int hv)] [(.ref x)])) rfl rfl (hb hby d33_24)
      refine Goes.on (T' := T4) (g' := (mkF m 27 #[.val (.ref x), .val (.int hv)] [(.ref t)])) ?_ st4
      obtain ⟨_, _, ⟨T5, Lq_5, kq_5, nq_5⟩, -, X5, ⟨Lc5, hQ5, l5, y5, z5⟩, st5⟩ := Jvm.LawKit.callS X4 hx (y := (⟨"java/lang/StringLatin1", "hashCode", "([B)I"⟩ : MethodName)) hown (mvT hZ (hw _ (List.mem_of_getElem? (i := 241) rfl))) (mvT hZ (hw _ (List.mem_of_getElem? (i := 242) rfl))) (mvT hZ (hw _ (List.mem_of_getElem? (i := 35) rfl))) (mvT hZ (hw _ (List.mem_of_getElem? (i := 243) rfl))) (by decide) (backOf (W := 0) (rmLH l Z a0 hw [] t kt c_ h0 n0 Z0 B hca hcb) hZ (hw _ (List.mem_of_getElem? (i := 243) rfl)) (hw _ (List.mem_of_getElem? (i := 35) rfl)) (by decide) (by decide)) (g := (mkF m 27 #[.val (.ref x), .val (.int hv)] [(.ref t)])) rfl (by rw [hml]; rfl) (argsL := [(.ref t)]) (rest := []) (lenOf pd_5 rfl) rfl (by show 2 * 0 + _ ≤ _; exact Nat.le_of_eq rfl) (hb hby d33_27) (fun _ _ => ⟨rfl, e4, (by decide : 0 + 0 ≤ _), (by decide : 0 + 0 ≤ _)⟩)
      dsimp only [Pt.U, Pt.locs, Pt.cells, Pt.slots] at X5 l5 y5 z5 st5 hQ5
      rw [l5, y5, z5] at X5
      change Stand p l e _ _ m _ below meth c T5 _ 0 0 at X5
      obtain ⟨rfl, N5q, eh5⟩ := hQ5
      have N5 := Fr.app N3 N5q
      refine Goes.on (T' := T5) (g' := (mkF m 30 #[.val (.ref x), .val (.int hv)] [(.int c_)])) ?_ st5
      refine Goes.on (T' := T5) (g' := (mkF m 40 #[.val (.ref x), .val (.int hv)] [(.int c_)])) ?_ (fun t_ k_ => XS.goto X5.here hx rfl (pc0 := 30) (pc' := 40) rfl (hb hby d33_30) (by decide) (by decide) k_)
      refine Goes.on (T' := T5) (g' := (mkF m 41 #[.val (.ref x), .val (.int c_)] [])) ?_ (fun t_ k_ => XS.istoreN X5.here hx rfl (hb hby d33_40) rfl (l' := #[.val (.ref x), .val (.int c_)]) rfl k_)
      refine Goes.on (T' := T5) (g' := (mkF m 42 #[.val (.ref x), .val (.int c_)] [(.int c_)])) ?_ (fun t_ k_ => XS.iloadN X5.here hx rfl (hb hby d33_41) rfl k_)
      refine Goes.ifN X5 hx rfl (pc0 := 42) (pc' := 53) rfl (hb hby d33_42) rfl (by decide) (by decide) (P := c_ = (0 : Int32)) (ifc_ne _ _) (fun hc42 => ?_) (fun hc42 => ?_)
      · show Goes p e below W T5 (mkF m 53 #[.val (.ref x), .val (.int c_)] [])
        refine Goes.on (T' := T5) (g' := (mkF m 54 #[.val (.ref x), .val (.int c_)] [(.ref x)])) ?_ (fun t_ k_ => XS.aloadN X5.here hx rfl (hb hby d33_53) rfl rfl k_)
        refine Goes.on (T' := T5) (g' := (mkF m 55 #[.val (.ref x), .val (.int c_)] [(.int c_), (.ref x)])) ?_ (fun t_ k_ => XS.iloadN X5.here hx rfl (hb hby d33_54) rfl k_)
        obtain ⟨T6, h6, X6, e6, W6, st6⟩ := putF X5 hx hZ hown (host := "") (Or.inl (hw _ (List.mem_of_getElem? (i := 232) rfl))) Via.refl eh5 FH E (Or.inl (hw _ (List.mem_of_getElem? (i := 233) rfl))) (hw _ (List.mem_of_getElem? (i := 2) rfl)) (ty := .int) (by decide) rfl rfl (g := (mkF m 55 #[.val (.ref x), .val (.int c_)] [(.int c_), (.ref x)])) rfl rfl (hb hby d33_55)
        have N6 := Fr.snoc X6 N5 ga
        have Z6 : n0 ≤ h6.size := Nat.le_trans Z0 (Nat.le_of_eq W6.size.symm)
        refine Goes.on (T' := T6) (g' := (mkF m 58 #[.val (.ref x), .val (.int c_)] [])) ?_ st6
        have fx7 := FV.other W6 (Or.inr (slot_ne (Or.inr (hw _ (List.mem_of_getElem? (i := 29) rfl))) (Or.inl (hw _ (List.mem_of_getElem? (i := 233) rfl))) (by decide) (t := (.array .byte)) (t' := .int) (by decide) (by decide)))
        have fx8 := FC.other W6 (Or.inr (slot_ne (Or.inr (hw _ (List.mem_of_getElem? (i := 27) rfl))) (Or.inl (hw _ (List.mem_of_getElem? (i := 233) rfl))) (by decide) (t := .byte) (t' := .int) (by decide) (by decide)))
        have fx9 := FH.same W6
        have fx10 := FZ.other W6 (Or.inr (slot_ne (Or.inl (hw _ (List.mem_of_getElem? (i := 235) rfl))) (Or.inl (hw _ (List.mem_of_getElem? (i := 233) rfl))) (by decide) (t := .boolean) (t' := .int) (by decide) (by decide)))
        have fx11 := E.wr W6
        have fx12 := B.other W6 tx
        refine Goes.on (T' := T6) (g' := (mkF m 59 #[.val (.ref x), .val (.int c_)] [(.int c_)])) ?_ (fun t_ k_ => XS.iloadN X6.here hx rfl (hb hby d33_58) rfl k_)
        rw [hWd]
        exact Goes.retn X6 (v := some (.int c_)) (fun fs hr => retI X6 hx Bd.returns (hb hby d33_59) hr) (fun h => by rw [Bd.returns] at h; cases h) Bd.notSynchronized (by decide) (by decide) (by rw [e6]; exact ⟨rfl, N6, ((Keep.refl h0 [x]).wr W6 (Or.inl (List.mem_cons_self ..))), ⟨fx11, fx8, fx7, fx12, l4⟩, c_, zv, fx9, fx10, Or.inr rfl, Or.inl hc13⟩)
      · show Goes p e below W T5 (mkF m 45 #[.val (.ref x), .val (.int c_)] [])
        refine Goes.on (T' := T5) (g' := (mkF m 46 #[.val (.ref x), .val (.int c_)] [(.ref x)])) ?_ (fun t_ k_ => XS.aloadN X5.here hx rfl (hb hby d33_45) rfl rfl k_)
        refine Goes.on (T' := T5) (g' := (mkF m 47 #[.val (.ref x), .val (.int c_)] [(.int (1 : Int32)), (.ref x)])) ?_ (fun t_ k_ => XS.iconst X5.here hx rfl (hb hby d33_46) k_)
        obtain ⟨T13, h13, X13, e13, W13, st13⟩ := putF X5 hx hZ hown (host := "") (Or.inl (hw _ (List.mem_of_getElem? (i := 234) rfl))) Via.refl eh5 FZ E (Or.inl (hw _ (List.mem_of_getElem? (i := 235) rfl))) (hw _ (List.mem_of_getElem? (i := 2) rfl)) (ty := .boolean) (by decide) rfl rfl (g := (mkF m 47 #[.val (.ref x), .val (.int c_)] [(.int (1 : Int32)), (.ref x)])) rfl rfl (hb hby d33_47)
        have N13 := Fr.snoc X13 N5 ga
        have Z13 : n0 ≤ h13.size := Nat.le_trans Z0 (Nat.le_of_eq W13.size.symm)
        refine Goes.on (T' := T13) (g' := (mkF m 50 #[.val (.ref x), .val (.int c_)] [])) ?_ st13
        have fx14 := FV.other W13 (Or.inr (slot_ne (Or.inr (hw _ (List.mem_of_getElem? (i := 29) rfl))) (Or.inl (hw _ (List.mem_of_getElem? (i := 235) rfl))) (by decide) (t := (.array .byte)) (t' := .boolean) (by decide) (by decide)))
        have fx15 := FC.other W13 (Or.inr (slot_ne (Or.inr (hw _ (List.mem_of_getElem? (i := 27) rfl))) (Or.inl (hw _ (List.mem_of_getElem? (i := 235) rfl))) (by decide) (t := .byte) (t' := .boolean) (by decide) (by decide)))
        have fx16 := FH.other W13 (Or.inr (slot_ne (Or.inl (hw _ (List.mem_of_getElem? (i := 233) rfl))) (Or.inl (hw _ (List.mem_of_getElem? (i := 235) rfl))) (by decide) (t := .int) (t' := .boolean) (by decide) (by decide)))
        have fx17 := FZ.same W13
        have fx18 := E.wr W13
        have fx19 := B.other W13 tx
        refine Goes.on (T' := T13) (g' := (mkF m 58 #[.val (.ref x), .val (.int c_)] [])) ?_ (fun t_ k_ => XS.goto X13.here hx rfl (pc0 := 50) (pc' := 58) rfl (hb hby d33_50) (by decide) (by decide) k_)
        refine Goes.on (T' := T13) (g' := (mkF m 59 #[.val (.ref x), .val (.int c_)] [(.int c_)])) ?_ (fun t_ k_ => XS.iloadN X13.here hx rfl (hb hby d33_58) rfl k_)
        rw [hWd]
        exact Goes.retn X13 (v := some (.int c_)) (fun fs hr => retI X13 hx Bd.returns (hb hby d33_59) hr) (fun h => by rw [Bd.returns] at h; cases h) Bd.notSynchronized (by decide) (by decide) (by rw [e13]; exact ⟨rfl, N13, ((Keep.refl h0 [x]).wr W13 (Or.inl (List.mem_cons_self ..))), ⟨fx18, fx15, fx14, fx19, l4⟩, hv, 1, fx16, fx17, hh1, Or.inr ⟨hc42, hc6⟩⟩)
def QT6 (Z : State) (x : Addr) (kd nm : Addr) (h0 : Heap) (n0 : Nat) (v : Option Value) (h : Heap) (L : List Loc) : Prop := v = none ∧ Fr n0 L ∧ Keep h0 h [x] ∧ Exa Z h x "com/example/entitlement/entitlement/Term" ∧ Fld Z h x "com/example/entitlement/entitlement/Term" "kind" "Lcom/example/entitlement/entitlement/Term$Kind;" (.ref kd) ∧ Fld Z h x "com/example/entitlement/entitlement/Term" "through" "Ljava/lang/String;" .null ∧ Fld Z h x "com/example/entitlement/entitlement/Term" "type" "Ljava/lang/String;" .null ∧ Fld Z h x "com/example/entitlement/entitlement/Term" "name" "Ljava/lang/String;" (.ref nm) ∧ Fld Z h x "com/example/entitlement/entitlement/Term" "comparison" "Lcom/example/entitlement/entitlement/Comparison;" .null
set_option maxRecDepth 65536 in
set_option maxHeartbeats 40000000 in
theorem rmT6 (l : Launch) (Z : State) (a0 : Array Value) (hw : ∀ d ∈ tables_1, d.before a0 Z = true) (ws : List Jvm.Cond) (x : Addr) (kd nm : Addr) (h0 : Heap) (n0 : Nat) (Z0 : n0 ≤ h0.size) (E : Exa Z h0 x "com/example/entitlement/entitlement/Term") (ga : n0 ≤ x) (F0 : Fld Z h0 x "com/example/entitlement/entitlement/Term" "kind" "Lcom/example/entitlement/entitlement/Term$Kind;" .null) (F1 : Fld Z h0 x "com/example/entitlement/entitlement/Term" "through" "Ljava/lang/String;" .null) (F2 : Fld Z h0 x "com/example/entitlement/entitlement/Term" "type" "Ljava/lang/String;" .null) (F3 : Fld Z h0 x "com/example/entitlement/entitlement/Term" "name" "Ljava/lang/String;" .null) (F4 : Fld Z h0 x "com/example/entitlement/entitlement/Term" "comparison" "Lcom/example/entitlement/entitlement/Comparison;" .null)  :
    MetFree l (⟨"com/example/entitlement/entitlement/Term", "<init>", "(Lcom/example/entitlement/entitlement/Term$Kind;Ljava/lang/String;Ljava/lang/String;Ljava/lang/String;Lcom/example/entitlement/entitlement/Comparison;)V"⟩ : MethodName) (head1 (Jvm.Cond.code (⟨"com/example/entitlement/entitlement/Term", "<init>", "(Lcom/example/entitlement/entitlement/Term$Kind;Ljava/lang/String;Ljava/lang/String;Ljava/lang/String;Lcom/example/entitlement/entitlement/Comparison;)V"⟩ : MethodName) prog_41_method_2_code 6 none :: ws) ({ frames := 1, cells := 0, slots := 0, locals := 12 } : Room)) (fun a_ U => a_ = #[(.ref x), (.ref kd), .null, .null, (.ref nm), .null] ∧ Z.Warmed39 U.vm ∧ U.heap = h0) (fun _ _ _ _ _ => True) (fun _ U o U' => ∃ v L, o = .returned v ∧ QT6 Z x kd nm h0 n0 v U'.heap L ∧ FrameEnd U o U' L ({ frames := 1, cells := 0, slots := 0, locals := 12 } : Room).cells ({ frames := 1, cells := 0, slots := 0, locals := 12 } : Room).slots) := by
  refine MetFree.of_bodySF (plainFor_of_name pn_2) hisR ?_
  intro p e s m args below meth c s₁ Bd hml0 hP hK
  obtain ⟨rfl, hZ, hh⟩ := hP
  have hx := Bd.exec
  have hby := Bd.bytes
  have hml : c.maxLocals = 6 := hml0
  have hown : s.vm.findClass "com/example/entitlement/entitlement/Term" = some m.cls := findClass_of_methodNamed Bd.named
  have hnm := (name_of_methodNamed Bd.named Bd.method).1
  have X0 : Stand p l e ({ frames := 1, cells := 0, slots := 0, locals := 12 } : Room) s m #[(.ref x), (.ref kd), .null, .null, (.ref nm), .null] below meth c s₁ [] 0 0 := Stand.of_body Bd
  have e0 : s₁.heap = h0 := by rw [← hh, Bd.state]; rfl
  have N0 := Fr.nil n0
  refine Goes.done ?_
  obtain ⟨W, hWd⟩ : ∃ W : State → Prop, W = EndW s below (QT6 Z x kd nm h0 n0) ({ frames := 1, cells := 0, slots := 0, locals := 12 } : Room).cells ({ frames := 1, cells := 0, slots := 0, locals := 12 } : Room).slots := ⟨_, rfl⟩
  rw [← hWd]
  have hef : entryFrame m #[(.ref x), (.ref kd), .null, .null, (.ref nm), .null] 6 = (mkF m 0 #[.val (.ref x), .val (.ref kd), .val .null, .val .null, .val (.ref nm), .val .null] []) := by first | (simp [entryFrame, mkF, argsToLocals, Value.category]; done) | rfl
  rw [hef]
  refine Goes.on (T' := s₁) (g' := (mkF m 1 #[.val (.ref x), .val (.ref kd), .val .null, .val .null, .val (.ref nm), .val .null] [(.ref x)])) ?_ (fun t_ k_ => XS.aloadN X0.here hx rfl (hb hby d13_0) rfl rfl k_)
  obtain ⟨T1, X1, e1, st1⟩ := initO X0 hx hZ hown (hw _ (List.mem_of_getElem? (i := 59) rfl)) (hw _ (List.mem_of_getElem? (i := 12) rfl)) (hw _ (List.mem_of_getElem? (i := 13) rfl)) e0 (g := (mkF m 1 #[.val (.ref x), .val (.ref kd), .val .null, .val .null, .val (.ref nm), .val .null] [(.ref x)])) rfl (by rw [hml]; rfl) rfl (hb hby d13_1) (by decide) (W := 0) (by show 2 * 0 + _ ≤ _; exact Nat.le_of_eq rfl) (by decide)
  refine Goes.on (T' := T1) (g' := (mkF m 4 #[.val (.ref x), .val (.ref kd), .val .null, .val .null, .val (.ref nm), .val .null] [])) ?_ st1
  refine Goes.on (T' := T1) (g' := (mkF m 5 #[.val (.ref x), .val (.ref kd), .val .null, .val .null, .val (.ref nm), .val .null] [(.ref x)])) ?_ (fun t_ k_ => XS.aloadN X1.here hx rfl (hb hby d13_4) rfl rfl k_)
  refine Goes.on (T' := T1) (g' := (mkF m 6 #[.val (.ref x), .val (.ref kd), .val .null, .val .null, .val (.ref nm), .val .null] [(.ref kd), (.ref x)])) ?_ (fun t_ k_ => XS.aloadN X1.here hx rfl (hb hby d13_5) rfl rfl k_)
  obtain ⟨T2, h2, X2, e2, W2, st2⟩ := putF X1 hx hZ hown (host := "") (Or.inl (hw _ (List.mem_of_getElem? (i := 60) rfl))) Via.refl e1 F0 E (Or.inr ⟨(hw _ (List.mem_of_getElem? (i := 61) rfl)), rfl, hnm⟩) (hw _ (List.mem_of_getElem? (i := 49) rfl)) (ty := (.object "com/example/entitlement/entitlement/Term$Kind")) (by decide) rfl rfl (g := (mkF m 6 #[.val (.ref x), .val (.ref kd), .val .null, .val .null, .val (.ref nm), .val .null] [(.ref kd), (.ref x)])) rfl rfl (hb hby d13_6)
  have N2 := Fr.snoc X2 N0 ga
  have Z2 : n0 ≤ h2.size := Nat.le_trans Z0 (Nat.le_of_eq W2.size.symm)
  refine Goes.on (T' := T2) (g' := (mkF m 9 #[.val (.ref x), .val (.ref kd), .val .null, .val .null, .val (.ref nm), .val .null] [])) ?_ st2
  have fx3 := F0.same W2
  have fx4 := F1.other W2 (Or.inr (slot_ne (Or.inr (hw _ (List.mem_of_getElem? (i := 63) rfl))) (Or.inr (hw _ (List.mem_of_getElem? (i := 61) rfl))) (by decide) (t := (.object "java/lang/String")) (t' := (.object "com/example/entitlement/entitlement/Term$Kind")) (by decide) (by decide)))
  have fx5 := F2.other W2 (Or.inr (slot_ne (Or.inr (hw _ (List.mem_of_getElem? (i := 65) rfl))) (Or.inr (hw _ (List.mem_of_getElem? (i := 61) rfl))) (by decide) (t := (.object "java/lang/String")) (t' := (.object "com/example/entitlement/entitlement/Term$Kind")) (by decide) (by decide)))
  have fx6 := F3.other W2 (Or.inr (slot_ne (Or.inr (hw _ (List.mem_of_getElem? (i := 67) rfl))) (Or.inr (hw _ (List.mem_of_getElem? (i := 61) rfl))) (by decide) (t := (.object "java/lang/String")) (t' := (.object "com/example/entitlement/entitlement/Term$Kind")) (by decide) (by decide)))
  have fx7 := F4.other W2 (Or.inr (slot_ne (Or.inr (hw _ (List.mem_of_getElem? (i := 69) rfl))) (Or.inr (hw _ (List.mem_of_getElem? (i := 61) rfl))) (by decide) (t := (.object "com/example/entitlement/entitlement/Comparison")) (t' := (.object "com/example/entitlement/entitlement/Term$Kind")) (by decide) (by decide)))
  have fx8 := E.wr W2
  have kp9 := (Keep.refl h0 [x]).wr W2 (Or.inl (by simp))
  refine Goes.on (T' := T2) (g' := (mkF m 10 #[.val (.ref x), .val (.ref kd), .val .null, .val .null, .val (.ref nm), .val .null] [(.ref x)])) ?_ (fun t_ k_ => XS.aloadN X2.here hx rfl (hb hby d13_9) rfl rfl k_)
  refine Goes.on (T' := T2) (g' := (mkF m 11 #[.val (.ref x), .val (.ref kd), .val .null, .val .null, .val (.ref nm), .val .null] [.null, (.ref x)])) ?_ (fun t_ k_ => XS.aloadN X2.here hx rfl (hb hby d13_10) rfl rfl k_)
  obtain ⟨T10, h10, X10, e10, W10, st10⟩ := putF X2 hx hZ hown (host := "") (Or.inl (hw _ (List.mem_of_getElem? (i := 62) rfl))) Via.refl e2 fx4 fx8 (Or.inr ⟨(hw _ (List.mem_of_getElem? (i := 63) rfl)), rfl, hnm⟩) (hw _ (List.mem_of_getElem? (i := 49) rfl)) (ty := (.object "java/lang/String")) (by decide) rfl rfl (g := (mkF m 11 #[.val (.ref x), .val (.ref kd), .val .null, .val .null, .val (.ref nm), .val .null] [.null, (.ref x)])) rfl rfl (hb hby d13_11)
  have N10 := Fr.snoc X10 N2 ga
  have Z10 : n0 ≤ h10.size := Nat.le_trans Z2 (Nat.le_of_eq W10.size.symm)
  refine Goes.on (T' := T10) (g' := (mkF m 14 #[.val (.ref x), .val (.ref kd), .val .null, .val .null, .val (.ref nm), .val .null] [])) ?_ st10
  have fx11 := fx3.other W10 (Or.inr (slot_ne (Or.inr (hw _ (List.mem_of_getElem? (i := 61) rfl))) (Or.inr (hw _ (List.mem_of_getElem? (i := 63) rfl))) (by decide) (t := (.object "com/example/entitlement/entitlement/Term$Kind")) (t' := (.object "java/lang/String")) (by decide) (by decide)))
  have fx12 := fx4.same W10
  have fx13 := fx5.other W10 (Or.inr (slot_ne (Or.inr (hw _ (List.mem_of_getElem? (i := 65) rfl))) (Or.inr (hw _ (List.mem_of_getElem? (i := 63) rfl))) (by decide) (t := (.object "java/lang/String")) (t' := (.object "java/lang/String")) (by decide) (by decide)))
  have fx14 := fx6.other W10 (Or.inr (slot_ne (Or.inr (hw _ (List.mem_of_getElem? (i := 67) rfl))) (Or.inr (hw _ (List.mem_of_getElem? (i := 63) rfl))) (by decide) (t := (.object "java/lang/String")) (t' := (.object "java/lang/String")) (by decide) (by decide)))
  have fx15 := fx7.other W10 (Or.inr (slot_ne (Or.inr (hw _ (List.mem_of_getElem? (i := 69) rfl))) (Or.inr (hw _ (List.mem_of_getElem? (i := 63) rfl))) (by decide) (t := (.object "com/example/entitlement/entitlement/Comparison")) (t' := (.object "java/lang/String")) (by decide) (by decide)))
  have fx16 := fx8.wr W10
  have kp17 := kp9.wr W10 (Or.inl (by simp))
  refine Goes.on (T' := T10) (g' := (mkF m 15 #[.val (.ref x), .val (.ref kd), .val .null, .val .null, .val (.ref nm), .val .null] [(.ref x)])) ?_ (fun t_ k_ => XS.aloadN X10.here hx rfl (hb hby d13_14) rfl rfl k_)
  refine Goes.on (T' := T10) (g' := (mkF m 16 #[.val (.ref x), .val (.ref kd), .val .null, .val .null, .val (.ref nm), .val .null] [.null, (.ref x)])) ?_ (fun t_ k_ => XS.aloadN X10.here hx rfl (hb hby d13_15) rfl rfl k_)
  obtain ⟨T18, h18, X18, e18, W18, st18⟩ := putF X10 hx hZ hown (host := "") (Or.inl (hw _ (List.mem_of_getElem? (i := 64) rfl))) Via.refl e10 fx13 fx16 (Or.inr ⟨(hw _ (List.mem_of_getElem? (i := 65) rfl)), rfl, hnm⟩) (hw _ (List.mem_of_getElem? (i := 49) rfl)) (ty := (.object "java/lang/String")) (by decide) rfl rfl (g := (mkF m 16 #[.val (.ref x), .val (.ref kd), .val .null, .val .null, .val (.ref nm), .val .null] [.null, (.ref x)])) rfl rfl (hb hby d13_16)
  have N18 := Fr.snoc X18 N10 ga
  have Z18 : n0 ≤ h18.size := Nat.le_trans Z10 (Nat.le_of_eq W18.size.symm)
  refine Goes.on (T' := T18) (g' := (mkF m 19 #[.val (.ref x), .val (.ref kd), .val .null, .val .null, .val (.ref nm), .val .null] [])) ?_ st18
  have fx19 := fx11.other W18 (Or.inr (slot_ne (Or.inr (hw _ (List.mem_of_getElem? (i := 61) rfl))) (Or.inr (hw _ (List.mem_of_getElem? (i := 65) rfl))) (by decide) (t := (.object "com/example/entitlement/entitlement/Term$Kind")) (t' := (.object "java/lang/String")) (by decide) (by decide)))
  have fx20 := fx12.other W18 (Or.inr (slot_ne (Or.inr (hw _ (List.mem_of_getElem? (i := 63) rfl))) (Or.inr (hw _ (List.mem_of_getElem? (i := 65) rfl))) (by decide) (t := (.object "java/lang/String")) (t' := (.object "java/lang/String")) (by decide) (by decide)))
  have fx21 := fx13.same W18
  have fx22 := fx14.other W18 (Or.inr (slot_ne (Or.inr (hw _ (List.mem_of_getElem? (i := 67) rfl))) (Or.inr (hw _ (List.mem_of_getElem? (i := 65) rfl))) (by decide) (t := (.object "java/lang/String")) (t' := (.object "java/lang/String")) (by decide) (by decide)))
  have fx23 := fx15.other W18 (Or.inr (slot_ne (Or.inr (hw _ (List.mem_of_getElem? (i := 69) rfl))) (Or.inr (hw _ (List.mem_of_getElem? (i := 65) rfl))) (by decide) (t := (.object "com/example/entitlement/entitlement/Comparison")) (t' := (.object "java/lang/String")) (by decide) (by decide)))
  have fx24 := fx16.wr W18
  have kp25 := kp17.wr W18 (Or.inl (by simp))
  refine Goes.on (T' := T18) (g' := (mkF m 20 #[.val (.ref x), .val (.ref kd), .val .null, .val .null, .val (.ref nm), .val .null] [(.ref x)])) ?_ (fun t_ k_ => XS.aloadN X18.here hx rfl (hb hby d13_19) rfl rfl k_)
  refine Goes.on (T' := T18) (g' := (mkF m 22 #[.val (.ref x), .val (.ref kd), .val .null, .val .null, .val (.ref nm), .val .null] [(.ref nm), (.ref x)])) ?_ (fun t_ k_ => XS.aload X18.here hx rfl (hb hby d13_20) rfl rfl k_)
  obtain ⟨T26, h26, X26, e26, W26, st26⟩ := putF X18 hx hZ hown (host := "") (Or.inl (hw _ (List.mem_of_getElem? (i := 66) rfl))) Via.refl e18 fx22 fx24 (Or.inr ⟨(hw _ (List.mem_of_getElem? (i := 67) rfl)), rfl, hnm⟩) (hw _ (List.mem_of_getElem? (i := 49) rfl)) (ty := (.object "java/lang/String")) (by decide) rfl rfl (g := (mkF m 22 #[.val (.ref x), .val (.ref kd), .val .null, .val .null, .val (.ref nm), .val .null] [(.ref nm), (.ref x)])) rfl rfl (hb hby d13_22)
  have N26 := Fr.snoc X26 N18 ga
  have Z26 : n0 ≤ h26.size := Nat.le_trans Z18 (Nat.le_of_eq W26.size.symm)
  refine Goes.on (T' := T26) (g' := (mkF m 25 #[.val (.ref x), .val (.ref kd), .val .null, .val .null, .val (.ref nm), .val .null] [])) ?_ st26
  have fx27 := fx19.other W26 (Or.inr (slot_ne (Or.inr (hw _ (List.mem_of_getElem? (i := 61) rfl))) (Or.inr (hw _ (List.mem_of_getElem? (i := 67) rfl))) (by decide) (t := (.object "com/example/entitlement/entitlement/Term$Kind")) (t' := (.object "java/lang/String")) (by decide) (by decide)))
  have fx28 := fx20.other W26 (Or.inr (slot_ne (Or.inr (hw _ (List.mem_of_getElem? (i := 63) rfl))) (Or.inr (hw _ (List.mem_of_getElem? (i := 67) rfl))) (by decide) (t := (.object "java/lang/String")) (t' := (.object "java/lang/String")) (by decide) (by decide)))
  have fx29 := fx21.other W26 (Or.inr (slot_ne (Or.inr (hw _ (List.mem_of_getElem? (i := 65) rfl))) (Or.inr (hw _ (List.mem_of_getElem? (i := 67) rfl))) (by decide) (t := (.object "java/lang/String")) (t' := (.object "java/lang/String")) (by decide) (by decide)))
  have fx30 := fx22.same W26
  have fx31 := fx23.other W26 (Or.inr (slot_ne (Or.inr (hw _ (List.mem_of_getElem? (i := 69) rfl))) (Or.inr (hw _ (List.mem_of_getElem? (i := 67) rfl))) (by decide) (t := (.object "com/example/entitlement/entitlement/Comparison")) (t' := (.object "java/lang/String")) (by decide) (by decide)))
  have fx32 := fx24.wr W26
  have kp33 := kp25.wr W26 (Or.inl (by simp))
  refine Goes.on (T' := T26) (g' := (mkF m 26 #[.val (.ref x), .val (.ref kd), .val .null, .val .null, .val (.ref nm), .val .null] [(.ref x)])) ?_ (fun t_ k_ => XS.aloadN X26.here hx rfl (hb hby d13_25) rfl rfl k_)
  refine Goes.on (T' := T26) (g' := (mkF m 28 #[.val (.ref x), .val (.ref kd), .val .null, .val .null, .val (.ref nm), .val .null] [.null, (.ref x)])) ?_ (fun t_ k_ => XS.aload X26.here hx rfl (hb hby d13_26) rfl rfl k_)
  obtain ⟨T34, h34, X34, e34, W34, st34⟩ := putF X26 hx hZ hown (host := "") (Or.inl (hw _ (List.mem_of_getElem? (i := 68) rfl))) Via.refl e26 fx31 fx32 (Or.inr ⟨(hw _ (List.mem_of_getElem? (i := 69) rfl)), rfl, hnm⟩) (hw _ (List.mem_of_getElem? (i := 49) rfl)) (ty := (.object "com/example/entitlement/entitlement/Comparison")) (by decide) rfl rfl (g := (mkF m 28 #[.val (.ref x), .val (.ref kd), .val .null, .val .null, .val (.ref nm), .val .null] [.null, (.ref x)])) rfl rfl (hb hby d13_28)
  have N34 := Fr.snoc X34 N26 ga
  have Z34 : n0 ≤ h34.size := Nat.le_trans Z26 (Nat.le_of_eq W34.size.symm)
  refine Goes.on (T' := T34) (g' := (mkF m 31 #[.val (.ref x), .val (.ref kd), .val .null, .val .null, .val (.ref nm), .val .null] [])) ?_ st34
  have fx35 := fx27.other W34 (Or.inr (slot_ne (Or.inr (hw _ (List.mem_of_getElem? (i := 61) rfl))) (Or.inr (hw _ (List.mem_of_getElem? (i := 69) rfl))) (by decide) (t := (.object "com/example/entitlement/entitlement/Term$Kind")) (t' := (.object "com/example/entitlement/entitlement/Comparison")) (by decide) (by decide)))
  have fx36 := fx28.other W34 (Or.inr (slot_ne (Or.inr (hw _ (List.mem_of_getElem? (i := 63) rfl))) (Or.inr (hw _ (List.mem_of_getElem? (i := 69) rfl))) (by decide) (t := (.object "java/lang/String")) (t' := (.object "com/example/entitlement/entitlement/Comparison")) (by decide) (by decide)))
  have fx37 := fx29.other W34 (Or.inr (slot_ne (Or.inr (hw _ (List.mem_of_getElem? (i := 65) rfl))) (Or.inr (hw _ (List.mem_of_getElem? (i := 69) rfl))) (by decide) (t := (.object "java/lang/String")) (t' := (.object "com/example/entitlement/entitlement/Comparison")) (by decide) (by decide)))
  have fx38 := fx30.other W34 (Or.inr (slot_ne (Or.inr (hw _ (List.mem_of_getElem? (i := 67) rfl))) (Or.inr (hw _ (List.mem_of_getElem? (i := 69) rfl))) (by decide) (t := (.object "java/lang/String")) (t' := (.object "com/example/entitlement/entitlement/Comparison")) (by decide) (by decide)))
  have fx39 := fx31.same W34
  have fx40 := fx32.wr W34
  have kp41 := kp33.wr W34 (Or.inl (by simp))
  rw [hWd]
  exact Goes.retn X34 (v := none) (fun fs hr => X34.returnOut hx Bd.returns (hb hby d13_31) hr) (fun _ => rfl) Bd.notSynchronized (by decide) (by decide) (by rw [e34]; exact ⟨rfl, N34, kp41, fx40, fx35, fx36, fx37, fx38, fx39⟩)
def QT5 (Z : State) (x kd nm : Addr) (h0 : Heap) (n0 : Nat) (v : Option Value) (h : Heap) (L : List Loc) : Prop := v = none ∧ Fr n0 L ∧ Keep h0 h [x]
set_option maxRecDepth 65536 in
set_option maxHeartbeats 40000000 in
theorem rmT5 (l : Launch) (Z : State) (a0 : Array Value) (hw : ∀ d ∈ tables_1, d.before a0 Z = true) (ws : List Jvm.Cond) (x kd nm : Addr) (h0 : Heap) (n0 : Nat) (Z0 : n0 ≤ h0.size) (E : Exa Z h0 x "com/example/entitlement/entitlement/Term") (ga : n0 ≤ x) (F0 : Fld Z h0 x "com/example/entitlement/entitlement/Term" "kind" "Lcom/example/entitlement/entitlement/Term$Kind;" .null) (F1 : Fld Z h0 x "com/example/entitlement/entitlement/Term" "through" "Ljava/lang/String;" .null) (F2 : Fld Z h0 x "com/example/entitlement/entitlement/Term" "type" "Ljava/lang/String;" .null) (F3 : Fld Z h0 x "com/example/entitlement/entitlement/Term" "name" "Ljava/lang/String;" .null) (F4 : Fld Z h0 x "com/example/entitlement/entitlement/Term" "comparison" "Lcom/example/entitlement/entitlement/Comparison;" .null) :
    MetFree l (⟨"com/example/entitlement/entitlement/Term", "<init>", "(Lcom/example/entitlement/entitlement/Term$Kind;Ljava/lang/String;Ljava/lang/String;Ljava/lang/String;)V"⟩ : MethodName) (head1 (Jvm.Cond.code (⟨"com/example/entitlement/entitlement/Term", "<init>", "(Lcom/example/entitlement/entitlement/Term$Kind;Ljava/lang/String;Ljava/lang/String;Ljava/lang/String;)V"⟩ : MethodName) prog_41_method_1_code 5 none :: ws) ({ frames := 2, cells := 0, slots := 0, locals := 30 } : Room)) (fun a_ U => a_ = #[(.ref x), (.ref kd), .null, .null, (.ref nm)] ∧ Z.Warmed39 U.vm ∧ U.heap = h0) (fun _ _ _ _ _ => True) (fun _ U o U' => ∃ v L, o = .returned v ∧ QT5 Z x kd nm h0 n0 v U'.heap L ∧ FrameEnd U o U' L ({ frames := 2, cells := 0, slots := 0, locals := 30 } : Room).cells ({ frames := 2, cells := 0, slots := 0, locals := 30 } : Room).slots) := by
  refine MetFree.of_bodySF (plainFor_of_name pn_2) hisR ?_
  intro p e s m args below meth c s₁ Bd hml0 hP hK
  obtain ⟨rfl, hZ, hh⟩ := hP
  have hx := Bd.exec
  have hby := Bd.bytes
  have hml : c.maxLocals = 5 := hml0
  have hown : s.vm.findClass "com/example/entitlement/entitlement/Term" = some m.cls := findClass_of_methodNamed Bd.named
  have hnm := (name_of_methodNamed Bd.named Bd.method).1
  have X0 : Stand p l e ({ frames := 2, cells := 0, slots := 0, locals := 30 } : Room) s m #[(.ref x), (.ref kd), .null, .null, (.ref nm)] below meth c s₁ [] 0 0 := Stand.of_body Bd
  have e0 : s₁.heap = h0 := by rw [← hh, Bd.state]; rfl
  have N0 := Fr.nil n0
  refine Goes.done ?_
  obtain ⟨W, hWd⟩ : ∃ W : State → Prop, W = EndW s below (QT5 Z x kd nm h0 n0) ({ frames := 2, cells := 0, slots := 0, locals := 30 } : Room).cells ({ frames := 2, cells := 0, slots := 0, locals := 30 } : Room).slots := ⟨_, rfl⟩
  rw [← hWd]
  have hef : entryFrame m #[(.ref x), (.ref kd), .null, .null, (.ref nm)] 5 = (mkF m 0 #[.val (.ref x), .val (.ref kd), .val .null, .val .null, .val (.ref nm)] []) := by first | (simp [entryFrame, mkF, argsToLocals, Value.category]; done) | rfl
  rw [hef]
  refine Goes.on (T' := s₁) (g' := (mkF m 1 #[.val (.ref x), .val (.ref kd), .val .null, .val .null, .val (.ref nm)] [(.ref x)])) ?_ (fun t_ k_ => XS.aloadN X0.here hx rfl (hb hby d12_0) rfl rfl k_)
  refine Goes.on (T' := s₁) (g' := (mkF m 2 #[.val (.ref x), .val (.ref kd), .val .null, .val .null, .val (.ref nm)] [(.ref kd), (.ref x)])) ?_ (fun t_ k_ => XS.aloadN X0.here hx rfl (hb hby d12_1) rfl rfl k_)
  refine Goes.on (T' := s₁) (g' := (mkF m 3 #[.val (.ref x), .val (.ref kd), .val .null, .val .null, .val (.ref nm)] [.null, (.ref kd), (.ref x)])) ?_ (fun t_ k_ => XS.aloadN X0.here hx rfl (hb hby d12_2) rfl rfl k_)
  refine Goes.on (T' := s₁) (g' := (mkF m 4 #[.val (.ref x), .val (.ref kd), .val .null, .val .null, .val (.ref nm)] [.null, .null, (.ref kd), (.ref x)])) ?_ (fun t_ k_ => XS.aloadN X0.here hx rfl (hb hby d12_3) rfl rfl k_)
  refine Goes.on (T' := s₁) (g' := (mkF m 6 #[.val (.ref x), .val (.ref kd), .val .null, .val .null, .val (.ref nm)] [(.ref nm), .null, .null, (.ref kd), (.ref x)])) ?_ (fun t_ k_ => XS.aload X0.here hx rfl (hb hby d12_4) rfl rfl k_)
  refine Goes.on (T' := s₁) (g' := (mkF m 7 #[.val (.ref x), .val (.ref kd), .val .null, .val .null, .val (.ref nm)] [.null, (.ref nm), .null, .null, (.ref kd), (.ref x)])) ?_ (fun t_ k_ => XS.aconstNull X0.here hx rfl (hb hby d12_6) k_)
  obtain ⟨_, _, ⟨T1, Lq_1, kq_1, nq_1⟩, -, X1, ⟨Lc1, hQ1, l1, y1, z1⟩, st1⟩ := X0.specialBack hx (y := (⟨"com/example/entitlement/entitlement/Term", "<init>", "(Lcom/example/entitlement/entitlement/Term$Kind;Ljava/lang/String;Ljava/lang/String;Ljava/lang/String;Lcom/example/entitlement/entitlement/Comparison;)V"⟩ : MethodName)) rfl hown (mvT hZ (hw _ (List.mem_of_getElem? (i := 56) rfl))) (mvT hZ (hw _ (List.mem_of_getElem? (i := 57) rfl))) (mvT hZ (hw _ (List.mem_of_getElem? (i := 58) rfl))) (by decide) (backOf (W := 0) (rmT6 l Z a0 hw [] x kd nm h0 n0 Z0 E ga F0 F1 F2 F3 F4) hZ (hw _ (List.mem_of_getElem? (i := 58) rfl)) (hw _ (List.mem_of_getElem? (i := 46) rfl)) (by decide) (by decide)) (g := (mkF m 7 #[.val (.ref x), .val (.ref kd), .val .null, .val .null, .val (.ref nm)] [.null, (.ref nm), .null, .null, (.ref kd), (.ref x)])) rfl (by rw [hml]; rfl) (Steps.refl _) (a := x) (argsL := [(.ref kd), .null, .null, (.ref nm), .null]) (rest := []) (lenOf pd_6 rfl) rfl (by show 2 * 0 + _ ≤ _; exact Nat.le_of_eq rfl) (hb hby d12_7) (fun _ _ => ⟨rfl, e0, (by decide : 0 + 0 ≤ _), (by decide : 0 + 0 ≤ _)⟩)
  dsimp only [Pt.U, Pt.locs, Pt.cells, Pt.slots] at X1 l1 y1 z1 st1 hQ1
  rw [l1, y1, z1] at X1
  change Stand p l e _ _ m _ below meth c T1 _ 0 0 at X1
  obtain ⟨rfl, N1q, KX, -, -, -, -, -, -⟩ := hQ1
  have N1 := Fr.app N0 N1q
  refine Goes.on (T' := T1) (g' := (mkF m 10 #[.val (.ref x), .val (.ref kd), .val .null, .val .null, .val (.ref nm)] [])) ?_ (fun t => st1.trans)
  rw [hWd]
  exact Goes.retn X1 (v := none) (fun fs hr => X1.returnOut hx Bd.returns (hb hby d12_10) hr) (fun _ => rfl) Bd.notSynchronized (by decide) (by decide) ⟨rfl, N1, KX⟩
def QTL (Z : State) (nm kl : Addr) (h0 : Heap) (n0 : Nat) (v : Option Value) (h : Heap) (L : List Loc) : Prop := ∃ b, v = some (.ref b) ∧ Fr n0 L ∧ Keep h0 h [] ∧ h0.size ≤ b
set_option maxRecDepth 65536 in
set_option maxHeartbeats 40000000 in
theorem rmTL (l : Launch) (Z : State) (a0 : Array Value) (hw : ∀ d ∈ tables_1, d.before a0 Z = true) (ws : List Jvm.Cond) (nm kl : Addr) (h0 : Heap) (n0 : Nat) (Z0 : n0 ≤ h0.size) (KL : Sta Z Z.heap "com/example/entitlement/entitlement/Term$Kind" "LOCAL" "Lcom/example/entitlement/entitlement/Term$Kind;" (.ref kl)) (X0_ : Old Z n0 h0) :
    MetFree l (⟨"com/example/entitlement/entitlement/Term", "local", "(Ljava/lang/String;)Lcom/example/entitlement/entitlement/Term;"⟩ : MethodName) (head1 (Jvm.Cond.code (⟨"com/example/entitlement/entitlement/Term", "local", "(Ljava/lang/String;)Lcom/example/entitlement/entitlement/Term;"⟩ : MethodName) prog_41_method_3_code 1 (some (.object "com/example/entitlement/entitlement/Term")) :: ws) ({ frames := 3, cells := 1, slots := 5, locals := 48 } : Room)) (fun a_ U => a_ = #[(.ref nm)] ∧ Z.Warmed39 U.vm ∧ U.heap = h0) (fun _ _ _ _ _ => True) (fun _ U o U' => ∃ v L, o = .returned v ∧ QTL Z nm kl h0 n0 v U'.heap L ∧ FrameEnd U o U' L ({ frames := 3, cells := 1, slots := 5, locals := 48 } : Room).cells ({ frames := 3, cells := 1, slots := 5, locals := 48 } : Room).slots) := by
  refine MetFree.of_bodySF (plainFor_of_name pn_2) hisR ?_
  intro p e s m args below meth c s₁ Bd hml0 hP hK
  obtain ⟨rfl, hZ, hh⟩ := hP
  have hx := Bd.exec
  have hby := Bd.bytes
  have hml : c.maxLocals = 1 := hml0
  have hown : s.vm.findClass "com/example/entitlement/entitlement/Term" = some m.cls := findClass_of_methodNamed Bd.named
  have hnm := (name_of_methodNamed Bd.named Bd.method).1
  have X0 : Stand p l e ({ frames := 3, cells := 1, slots := 5, locals := 48 } : Room) s m #[(.ref nm)] below meth c s₁ [] 0 0 := Stand.of_body Bd
  have e0 : s₁.heap = h0 := by rw [← hh, Bd.state]; rfl
  have N0 := Fr.nil n0
  refine Goes.done ?_
  obtain ⟨W, hWd⟩ : ∃ W : State → Prop, W = EndW s below (QTL Z nm kl h0 n0) ({ frames := 3, cells := 1, slots := 5, locals := 48 } : Room).cells ({ frames := 3, cells := 1, slots := 5, locals := 48 } : Room).slots := ⟨_, rfl⟩
  rw [← hWd]
  have hef : entryFrame m #[(.ref nm)] 1 = (mkF m 0 #[.val (.ref nm)] []) := by first | (simp [entryFrame, mkF, argsToLocals, Value.category]; done) | rfl
  rw [hef]
  obtain ⟨T1, h1, X1, e1, E1, A1, D1, -, st1⟩ := newO X0 hx hZ hown (hw _ (List.mem_of_getElem? (i := 48) rfl)) (hw _ (List.mem_of_getElem? (i := 49) rfl)) (hw _ (List.mem_of_getElem? (i := 46) rfl)) e0 (g := (mkF m 0 #[.val (.ref nm)] [])) rfl (hb hby d11_0) (by decide) (by decide)
  obtain ⟨b1, gb1⟩ : ∃ z, z = h0.size := ⟨_, rfl⟩
  rw [← gb1] at A1 D1 st1
  have Z1 : n0 ≤ h1.size := Nat.le_trans Z0 E1.1
  have g_b1 : n0 ≤ b1 := Nat.le_trans Z0 (Nat.le_of_eq gb1.symm)
  refine Goes.on (T' := T1) (g' := (mkF m 3 #[.val (.ref nm)] [(.ref b1)])) ?_ st1
  have F1_kind : Fld Z h1 b1 "com/example/entitlement/entitlement/Term" "kind" "Lcom/example/entitlement/entitlement/Term$Kind;" .null := D1 (Or.inr (hw _ (List.mem_of_getElem? (i := 61) rfl))) (ty := (.object "com/example/entitlement/entitlement/Term$Kind")) (by decide)
  have F1_through : Fld Z h1 b1 "com/example/entitlement/entitlement/Term" "through" "Ljava/lang/String;" .null := D1 (Or.inr (hw _ (List.mem_of_getElem? (i := 63) rfl))) (ty := (.object "java/lang/String")) (by decide)
  have F1_type : Fld Z h1 b1 "com/example/entitlement/entitlement/Term" "type" "Ljava/lang/String;" .null := D1 (Or.inr (hw _ (List.mem_of_getElem? (i := 65) rfl))) (ty := (.object "java/lang/String")) (by decide)
  have F1_name : Fld Z h1 b1 "com/example/entitlement/entitlement/Term" "name" "Ljava/lang/String;" .null := D1 (Or.inr (hw _ (List.mem_of_getElem? (i := 67) rfl))) (ty := (.object "java/lang/String")) (by decide)
  have F1_comparison : Fld Z h1 b1 "com/example/entitlement/entitlement/Term" "comparison" "Lcom/example/entitlement/entitlement/Comparison;" .null := D1 (Or.inr (hw _ (List.mem_of_getElem? (i := 69) rfl))) (ty := (.object "com/example/entitlement/entitlement/Comparison")) (by decide)
  have xo1 := X0_.ext E1
  have kp2 := (Keep.refl h0 []).ext E1
  refine Goes.on (T' := T1) (g' := (mkF m 4 #[.val (.ref nm)] [(.ref b1), (.ref b1)])) ?_ (fun t_ k_ => XS.dup X1.here hx rfl (hb hby d11_3) rfl rfl k_)
  obtain ⟨T3, X3, e3, st3⟩ := getS2 X1 hx hZ hown (host := "") (Or.inl (hw _ (List.mem_of_getElem? (i := 50) rfl))) Via.refl e1 (KL.ext xo1.2) (g := (mkF m 4 #[.val (.ref nm)] [(.ref b1), (.ref b1)])) rfl (hb hby d11_4)
  refine Goes.on (T' := T3) (g' := (mkF m 7 #[.val (.ref nm)] [(.ref kl), (.ref b1), (.ref b1)])) ?_ st3
  refine Goes.on (T' := T3) (g' := (mkF m 8 #[.val (.ref nm)] [.null, (.ref kl), (.ref b1), (.ref b1)])) ?_ (fun t_ k_ => XS.aconstNull X3.here hx rfl (hb hby d11_7) k_)
  refine Goes.on (T' := T3) (g' := (mkF m 9 #[.val (.ref nm)] [.null, .null, (.ref kl), (.ref b1), (.ref b1)])) ?_ (fun t_ k_ => XS.aconstNull X3.here hx rfl (hb hby d11_8) k_)
  refine Goes.on (T' := T3) (g' := (mkF m 10 #[.val (.ref nm)] [(.ref nm), .null, .null, (.ref kl), (.ref b1), (.ref b1)])) ?_ (fun t_ k_ => XS.aloadN X3.here hx rfl (hb hby d11_9) rfl rfl k_)
  obtain ⟨_, _, ⟨T4, Lq_4, kq_4, nq_4⟩, -, X4, ⟨Lc4, hQ4, l4, y4, z4⟩, st4⟩ := X3.specialBack hx (y := (⟨"com/example/entitlement/entitlement/Term", "<init>", "(Lcom/example/entitlement/entitlement/Term$Kind;Ljava/lang/String;Ljava/lang/String;Ljava/lang/String;)V"⟩ : MethodName)) rfl hown (mvT hZ (hw _ (List.mem_of_getElem? (i := 53) rfl))) (mvT hZ (hw _ (List.mem_of_getElem? (i := 54) rfl))) (mvT hZ (hw _ (List.mem_of_getElem? (i := 55) rfl))) (by decide) (backOf (W := 1) (rmT5 l Z a0 hw [] b1 kl nm h1 n0 Z1 A1 g_b1 F1_kind F1_through F1_type F1_name F1_comparison) hZ (hw _ (List.mem_of_getElem? (i := 55) rfl)) (hw _ (List.mem_of_getElem? (i := 46) rfl)) (by decide) (by decide)) (g := (mkF m 10 #[.val (.ref nm)] [(.ref nm), .null, .null, (.ref kl), (.ref b1), (.ref b1)])) rfl (by rw [hml]; rfl) (Steps.refl _) (a := b1) (argsL := [(.ref kl), .null, .null, (.ref nm)]) (rest := [(.ref b1)]) (lenOf pd_7 rfl) rfl (by show 2 * 0 + _ ≤ _; exact Nat.le_of_eq rfl) (hb hby d11_10) (fun _ _ => ⟨rfl, e3, (by decide : 1 + 0 ≤ _), (by decide : 5 + 0 ≤ _)⟩)
  dsimp only [Pt.U, Pt.locs, Pt.cells, Pt.slots] at X4 l4 y4 z4 st4 hQ4
  rw [l4, y4, z4] at X4
  change Stand p l e _ _ m _ below meth c T4 _ 1 5 at X4
  obtain ⟨rfl, N4q, K4⟩ := hQ4
  have N4 := Fr.app N0 N4q
  refine Goes.on (T' := T4) (g' := (mkF m 13 #[.val (.ref nm)] [(.ref b1)])) ?_ (fun t => st4.trans)
  have kp5 := kp2.trans K4 (allS (Or.inr (Nat.le_of_eq gb1.symm)) all0)
  rw [hWd]
  exact Goes.retn X4 (v := some (.ref b1)) (fun fs hr => retA X4 hx Bd.returns rfl rfl (hb hby d11_13) hr) (fun h => by rw [Bd.returns] at h; cases h) Bd.notSynchronized (by decide) (by decide) ⟨b1, rfl, N4, kp5, Nat.le_of_eq gb1.symm⟩
def QLO (Z : State) (el : Addr) (h0 : Heap) (n0 : Nat) (v : Option Value) (h : Heap) (L : List Loc) : Prop := v = some (.ref el) ∧ Fr n0 L ∧ h = h0
set_option maxRecDepth 65536 in
set_option maxHeartbeats 40000000 in
theorem rmLO (l : Launch) (Z : State) (a0 : Array Value) (hw : ∀ d ∈ tables_1, d.before a0 Z = true) (ws : List Jvm.Cond) (el : Addr) (h0 : Heap) (n0 : Nat) (Z0 : n0 ≤ h0.size) (LS : Sta Z Z.heap "java/util/ImmutableCollections" "EMPTY_LIST" "Ljava/util/ImmutableCollections$ListN;" (.ref el)) (X0_ : Old Z n0 h0) :
    MetFree l (⟨"java/util/List", "of", "()Ljava/util/List;"⟩ : MethodName) (head1 (Jvm.Cond.code (⟨"java/util/List", "of", "()Ljava/util/List;"⟩ : MethodName) jdk_40_method_36_code 0 (some (.object "java/util/List")) :: ws) ({ frames := 0, cells := 0, slots := 0, locals := 0 } : Room)) (fun a_ U => a_ = #[] ∧ Z.Warmed39 U.vm ∧ U.heap = h0) (fun _ _ _ _ _ => True) (fun _ U o U' => ∃ v L, o = .returned v ∧ QLO Z el h0 n0 v U'.heap L ∧ FrameEnd U o U' L ({ frames := 0, cells := 0, slots := 0, locals := 0 } : Room).cells ({ frames := 0, cells := 0, slots := 0, locals := 0 } : Room).slots) := by
  refine MetFree.of_bodySF (plainFor_of_name pn_3) hisR ?_
  intro p e s m args below meth c s₁ Bd hml0 hP hK
  obtain ⟨rfl, hZ, hh⟩ := hP
  have hx := Bd.exec
  have hby := Bd.bytes
  have hml : c.maxLocals = 0 := hml0
  have hown : s.vm.findClass "java/util/List" = some m.cls := findClass_of_methodNamed Bd.named
  have hnm := (name_of_methodNamed Bd.named Bd.method).1
  have X0 : Stand p l e ({ frames := 0, cells := 0, slots := 0, locals := 0 } : Room) s m #[] below meth c s₁ [] 0 0 := Stand.of_body Bd
  have e0 : s₁.heap = h0 := by rw [← hh, Bd.state]; rfl
  have N0 := Fr.nil n0
  refine Goes.done ?_
  obtain ⟨W, hWd⟩ : ∃ W : State → Prop, W = EndW s below (QLO Z el h0 n0) ({ frames := 0, cells := 0, slots := 0, locals := 0 } : Room).cells ({ frames := 0, cells := 0, slots := 0, locals := 0 } : Room).slots := ⟨_, rfl⟩
  rw [← hWd]
  have hef : entryFrame m #[] 0 = (mkF m 0 #[] []) := by first | (simp [entryFrame, mkF, argsToLocals, Value.category]; done) | rfl
  rw [hef]
  obtain ⟨T1, X1, e1, st1⟩ := getS2 X0 hx hZ hown (host := "") (Or.inl (hw _ (List.mem_of_getElem? (i := 83) rfl))) Via.refl e0 (LS.ext X0_.2) (g := (mkF m 0 #[] [])) rfl (hb hby d15_0)
  refine Goes.on (T' := T1) (g' := (mkF m 3 #[] [(.ref el)])) ?_ st1
  rw [hWd]
  exact Goes.retn X1 (v := some (.ref el)) (fun fs hr => retA X1 hx Bd.returns rfl rfl (hb hby d15_3) hr) (fun h => by rw [Bd.returns] at h; cases h) Bd.notSynchronized (by decide) (by decide) (by rw [e1]; exact ⟨rfl, N0, rfl⟩)
def QLC (Z : State) (el : Addr) (h0 : Heap) (n0 : Nat) (v : Option Value) (h : Heap) (L : List Loc) : Prop := v = some (.ref el) ∧ Fr n0 L ∧ h = h0
set_option maxRecDepth 65536 in
set_option maxHeartbeats 40000000 in
theorem rmLC (l : Launch) (Z : State) (a0 : Array Value) (hw : ∀ d ∈ tables_1, d.before a0 Z = true) (ws : List Jvm.Cond) (el : Addr) (h0 : Heap) (n0 : Nat) (Z0 : n0 ≤ h0.size) (EE : Exa Z Z.heap el "java/util/ImmutableCollections$ListN") (EA : Fld Z Z.heap el "java/util/ImmutableCollections$ListN" "allowNulls" "Z" (.int (0 : Int32))) (X0_ : Old Z n0 h0) :
    MetFree l (⟨"java/util/ImmutableCollections", "listCopy", "(Ljava/util/Collection;)Ljava/util/List;"⟩ : MethodName) (head1 (Jvm.Cond.code (⟨"java/util/ImmutableCollections", "listCopy", "(Ljava/util/Collection;)Ljava/util/List;"⟩ : MethodName) jdk_56_method_3_code 2 (some (.object "java/util/List")) :: ws) ({ frames := 0, cells := 0, slots := 0, locals := 0 } : Room)) (fun a_ U => a_ = #[(.ref el)] ∧ Z.Warmed39 U.vm ∧ U.heap = h0) (fun _ _ _ _ _ => True) (fun _ U o U' => ∃ v L, o = .returned v ∧ QLC Z el h0 n0 v U'.heap L ∧ FrameEnd U o U' L ({ frames := 0, cells := 0, slots := 0, locals := 0 } : Room).cells ({ frames := 0, cells := 0, slots := 0, locals := 0 } : Room).slots) := by
  refine MetFree.of_bodySF (plainFor_of_name pn_4) hisR ?_
  intro p e s m args below meth c s₁ Bd hml0 hP hK
  obtain ⟨rfl, hZ, hh⟩ := hP
  have hx := Bd.exec
  have hby := Bd.bytes
  have hml : c.maxLocals = 2 := hml0
  have hown : s.vm.findClass "java/util/ImmutableCollections" = some m.cls := findClass_of_methodNamed Bd.named
  have hnm := (name_of_methodNamed Bd.named Bd.method).1
  have X0 : Stand p l e ({ frames := 0, cells := 0, slots := 0, locals := 0 } : Room) s m #[(.ref el)] below meth c s₁ [] 0 0 := Stand.of_body Bd
  have e0 : s₁.heap = h0 := by rw [← hh, Bd.state]; rfl
  have N0 := Fr.nil n0
  refine Goes.done ?_
  obtain ⟨W, hWd⟩ : ∃ W : State → Prop, W = EndW s below (QLC Z el h0 n0) ({ frames := 0, cells := 0, slots := 0, locals := 0 } : Room).cells ({ frames := 0, cells := 0, slots := 0, locals := 0 } : Room).slots := ⟨_, rfl⟩
  rw [← hWd]
  have hef : entryFrame m #[(.ref el)] 2 = (mkF m 0 #[.val (.ref el), .unset] []) := by first | (simp [entryFrame, mkF, argsToLocals, Value.category]; done) | rfl
  rw [hef]
  refine Goes.on (T' := s₁) (g' := (mkF m 1 #[.val (.ref el), .unset] [(.ref el)])) ?_ (fun t_ k_ => XS.aloadN X0.here hx rfl (hb hby d18_0) rfl rfl k_)
  rcases own_insOr (by rw [← hZ.alike.findClass]; exact hown) (hw _ (List.mem_of_getElem? (i := 99) rfl)) (EE.ext X0_.2) with hI | hI
  · show Goes p e below W s₁ (mkF m 1 #[.val (.ref el), .unset] [(.ref el)])
    obtain ⟨T1, X1, e1, st1⟩ := instY X0 hx hZ hown (hw _ (List.mem_of_getElem? (i := 99) rfl)) e0 hI (g := (mkF m 1 #[.val (.ref el), .unset] [(.ref el)])) rfl rfl (hb hby d18_1)
    refine Goes.on (T' := T1) (g' := (mkF m 4 #[.val (.ref el), .unset] [(.int (1 : Int32))])) ?_ st1
    refine Goes.on (T' := T1) (g' := (mkF m 26 #[.val (.ref el), .unset] [])) ?_ (fun t_ k_ => XS.ifYes X1.here hx rfl (pc0 := 4) (pc' := 26) rfl (hb hby d18_4) rfl (by decide) (by decide) (by decide) k_)
    refine Goes.on (T' := T1) (g' := (mkF m 27 #[.val (.ref el), .unset] [(.ref el)])) ?_ (fun t_ k_ => XS.aloadN X1.here hx rfl (hb hby d18_26) rfl rfl k_)
    obtain ⟨T2, X2, e2, st2⟩ := castY X1 hx hZ hown (hw _ (List.mem_of_getElem? (i := 109) rfl)) e1 (Ins.of_exa (EE.ext X0_.2) (hw _ (List.mem_of_getElem? (i := 110) rfl))) (g := (mkF m 27 #[.val (.ref el), .unset] [(.ref el)])) rfl rfl (hb hby d18_27)
    refine Goes.on (T' := T2) (g' := (mkF m 30 #[.val (.ref el), .unset] [(.ref el)])) ?_ st2
    rw [hWd]
    exact Goes.retn X2 (v := some (.ref el)) (fun fs hr => retA X2 hx Bd.returns rfl rfl (hb hby d18_30) hr) (fun h => by rw [Bd.returns] at h; cases h) Bd.notSynchronized (by decide) (by decide) (by rw [e2]; exact ⟨rfl, N0, rfl⟩)
  · show Goes p e below W s₁ (mkF m 1 #[.val (.ref el), .unset] [(.ref el)])
    obtain ⟨T3, X3, e3, st3⟩ := instNo X0 hx hZ hown (hw _ (List.mem_of_getElem? (i := 99) rfl)) e0 (EE.ext X0_.2) hI (g := (mkF m 1 #[.val (.ref el), .unset] [(.ref el)])) rfl rfl (hb hby d18_1)
    refine Goes.on (T' := T3) (g' := (mkF m 4 #[.val (.ref el), .unset] [(.int (0 : Int32))])) ?_ st3
    refine Goes.on (T' := T3) (g' := (mkF m 7 #[.val (.ref el), .unset] [])) ?_ (fun t_ k_ => XS.ifNo X3.here hx rfl (hb hby d18_4) rfl (by decide) k_)
    refine Goes.on (T' := T3) (g' := (mkF m 8 #[.val (.ref el), .unset] [(.ref el)])) ?_ (fun t_ k_ => XS.aloadN X3.here hx rfl (hb hby d18_7) rfl rfl k_)
    obtain ⟨T4, X4, e4, st4⟩ := instY X3 hx hZ hown (hw _ (List.mem_of_getElem? (i := 105) rfl)) e3 (Ins.self (EE.ext X0_.2)) (g := (mkF m 8 #[.val (.ref el), .unset] [(.ref el)])) rfl rfl (hb hby d18_8)
    refine Goes.on (T' := T4) (g' := (mkF m 11 #[.val (.ref el), .unset] [(.int (1 : Int32))])) ?_ st4
    refine Goes.on (T' := T4) (g' := (mkF m 14 #[.val (.ref el), .unset] [])) ?_ (fun t_ k_ => XS.ifNo X4.here hx rfl (hb hby d18_11) rfl (by decide) k_)
    refine Goes.on (T' := T4) (g' := (mkF m 15 #[.val (.ref el), .unset] [(.ref el)])) ?_ (fun t_ k_ => XS.aloadN X4.here hx rfl (hb hby d18_14) rfl rfl k_)
    obtain ⟨T5, X5, e5, st5⟩ := castY X4 hx hZ hown (hw _ (List.mem_of_getElem? (i := 105) rfl)) e4 (Ins.self (EE.ext X0_.2)) (g := (mkF m 15 #[.val (.ref el), .unset] [(.ref el)])) rfl rfl (hb hby d18_15)
    refine Goes.on (T' := T5) (g' := (mkF m 18 #[.val (.ref el), .unset] [(.ref el)])) ?_ st5
    refine Goes.on (T' := T5) (g' := (mkF m 19 #[.val (.ref el), .val (.ref el)] [])) ?_ (fun t_ k_ => XS.astoreN X5.here hx rfl (hb hby d18_18) rfl rfl (l' := #[.val (.ref el), .val (.ref el)]) rfl k_)
    refine Goes.on (T' := T5) (g' := (mkF m 20 #[.val (.ref el), .val (.ref el)] [(.ref el)])) ?_ (fun t_ k_ => XS.aloadN X5.here hx rfl (hb hby d18_19) rfl rfl k_)
    obtain ⟨T6, X6, e6, st6⟩ := getF X5 hx hZ hown (Or.inr (hw _ (List.mem_of_getElem? (i := 107) rfl))) Via.refl e5 (EA.ext X0_.2) (g := (mkF m 20 #[.val (.ref el), .val (.ref el)] [(.ref el)])) rfl rfl (hb hby d18_20)
    refine Goes.on (T' := T6) (g' := (mkF m 23 #[.val (.ref el), .val (.ref el)] [(.int (0 : Int32))])) ?_ st6
    refine Goes.on (T' := T6) (g' := (mkF m 26 #[.val (.ref el), .val (.ref el)] [])) ?_ (fun t_ k_ => XS.ifNo X6.here hx rfl (hb hby d18_23) rfl (by decide) k_)
    refine Goes.on (T' := T6) (g' := (mkF m 27 #[.val (.ref el), .val (.ref el)] [(.ref el)])) ?_ (fun t_ k_ => XS.aloadN X6.here hx rfl (hb hby d18_26) rfl rfl k_)
    obtain ⟨T7, X7, e7, st7⟩ := castY X6 hx hZ hown (hw _ (List.mem_of_getElem? (i := 109) rfl)) e6 (Ins.of_exa (EE.ext X0_.2) (hw _ (List.mem_of_getElem? (i := 110) rfl))) (g := (mkF m 27 #[.val (.ref el), .val (.ref el)] [(.ref el)])) rfl rfl (hb hby d18_27)
    refine Goes.on (T' := T7) (g' := (mkF m 30 #[.val (.ref el), .val (.ref el)] [(.ref el)])) ?_ st7
    rw [hWd]
    exact Goes.retn X7 (v := some (.ref el)) (fun fs hr => retA X7 hx Bd.returns rfl rfl (hb hby d18_30) hr) (fun h => by rw [Bd.returns] at h; cases h) Bd.notSynchronized (by decide) (by decide) (by rw [e7]; exact ⟨rfl, N0, rfl⟩)
def QLF (Z : State) (el : Addr) (h0 : Heap) (n0 : Nat) (v : Option Value) (h : Heap) (L : List Loc) : Prop := v = some (.ref el) ∧ Fr n0 L ∧ h = h0
set_option maxRecDepth 65536 in
set_option maxHeartbeats 40000000 in
theorem rmLF (l : Launch) (Z : State) (a0 : Array Value) (hw : ∀ d ∈ tables_1, d.before a0 Z = true) (ws : List Jvm.Cond) (el : Addr) (h0 : Heap) (n0 : Nat) (Z0 : n0 ≤ h0.size) (EE : Exa Z Z.heap el "java/util/ImmutableCollections$ListN") (EA : Fld Z Z.heap el "java/util/ImmutableCollections$ListN" "allowNulls" "Z" (.int (0 : Int32))) (X0_ : Old Z n0 h0) :
    MetFree l (⟨"java/util/List", "copyOf", "(Ljava/util/Collection;)Ljava/util/List;"⟩ : MethodName) (head1 (Jvm.Cond.code (⟨"java/util/List", "copyOf", "(Ljava/util/Collection;)Ljava/util/List;"⟩ : MethodName) jdk_40_method_48_code 1 (some (.object "java/util/List")) :: ws) ({ frames := 1, cells := 0, slots := 0, locals := 13 } : Room)) (fun a_ U => a_ = #[(.ref el)] ∧ Z.Warmed39 U.vm ∧ U.heap = h0) (fun _ _ _ _ _ => True) (fun _ U o U' => ∃ v L, o = .returned v ∧ QLF Z el h0 n0 v U'.heap L ∧ FrameEnd U o U' L ({ frames := 1, cells := 0, slots := 0, locals := 13 } : Room).cells ({ frames := 1, cells := 0, slots := 0, locals := 13 } : Room).slots) := by
  refine MetFree.of_bodySF (plainFor_of_name pn_3) hisR ?_
  intro p e s m args below meth c s₁ Bd hml0 hP hK
  obtain ⟨rfl, hZ, hh⟩ := hP
  have hx := Bd.exec
  have hby := Bd.bytes
  have hml : c.maxLocals = 1 := hml0
  have hown : s.vm.findClass "java/util/List" = some m.cls := findClass_of_methodNamed Bd.named
  have hnm := (name_of_methodNamed Bd.named Bd.method).1
  have X0 : Stand p l e ({ frames := 1, cells := 0, slots := 0, locals := 13 } : Room) s m #[(.ref el)] below meth c s₁ [] 0 0 := Stand.of_body Bd
  have e0 : s₁.heap = h0 := by rw [← hh, Bd.state]; rfl
  have N0 := Fr.nil n0
  refine Goes.done ?_
  obtain ⟨W, hWd⟩ : ∃ W : State → Prop, W = EndW s below (QLF Z el h0 n0) ({ frames := 1, cells := 0, slots := 0, locals := 13 } : Room).cells ({ frames := 1, cells := 0, slots := 0, locals := 13 } : Room).slots := ⟨_, rfl⟩
  rw [← hWd]
  have hef : entryFrame m #[(.ref el)] 1 = (mkF m 0 #[.val (.ref el)] []) := by first | (simp [entryFrame, mkF, argsToLocals, Value.category]; done) | rfl
  rw [hef]
  refine Goes.on (T' := s₁) (g' := (mkF m 1 #[.val (.ref el)] [(.ref el)])) ?_ (fun t_ k_ => XS.aloadN X0.here hx rfl (hb hby d17_0) rfl rfl k_)
  obtain ⟨_, _, ⟨T1, Lq_1, kq_1, nq_1⟩, -, X1, ⟨Lc1, hQ1, l1, y1, z1⟩, st1⟩ := Jvm.LawKit.callS X0 hx (y := (⟨"java/util/ImmutableCollections", "listCopy", "(Ljava/util/Collection;)Ljava/util/List;"⟩ : MethodName)) hown (mvT hZ (hw _ (List.mem_of_getElem? (i := 96) rfl))) (mvT hZ (hw _ (List.mem_of_getElem? (i := 97) rfl))) (mvT hZ (hw _ (List.mem_of_getElem? (i := 84) rfl))) (mvT hZ (hw _ (List.mem_of_getElem? (i := 98) rfl))) (by decide) (backOf (W := 0) (rmLC l Z a0 hw [] el h0 n0 Z0 EE EA X0_) hZ (hw _ (List.mem_of_getElem? (i := 98) rfl)) (hw _ (List.mem_of_getElem? (i := 84) rfl)) (by decide) (by decide)) (g := (mkF m 1 #[.val (.ref el)] [(.ref el)])) rfl (by rw [hml]; rfl) (argsL := [(.ref el)]) (rest := []) (lenOf pd_8 rfl) rfl (by show 2 * 0 + _ ≤ _; exact Nat.le_of_eq rfl) (hb hby d17_1) (fun _ _ => ⟨rfl, e0, (by decide : 0 + 0 ≤ _), (by decide : 0 + 0 ≤ _)⟩)
  dsimp only [Pt.U, Pt.locs, Pt.cells, Pt.slots] at X1 l1 y1 z1 st1 hQ1
  rw [l1, y1, z1] at X1
  change Stand p l e _ _ m _ below meth c T1 _ 0 0 at X1
  obtain ⟨rfl, N1q, eh1⟩ := hQ1
  have N1 := Fr.app N0 N1q
  refine Goes.on (T' := T1) (g' := (mkF m 4 #[.val (.ref el)] [(.ref el)])) ?_ st1
  rw [hWd]
  exact Goes.retn X1 (v := some (.ref el)) (fun fs hr => retA X1 hx Bd.returns rfl rfl (hb hby d17_4) hr) (fun h => by rw [Bd.returns] at h; cases h) Bd.notSynchronized (by decide) (by decide) (by rw [eh1]; exact ⟨rfl, N1, rfl⟩)
def QEI (Z : State) (x : Addr) (kd tm el : Addr) (h0 : Heap) (n0 : Nat) (v : Option Value) (h : Heap) (L : List Loc) : Prop := v = none ∧ Fr n0 L ∧ Keep h0 h [x] ∧ Exa Z h x "com/example/entitlement/entitlement/Expression" ∧ Fld Z h x "com/example/entitlement/entitlement/Expression" "kind" "Lcom/example/entitlement/entitlement/Expression$Kind;" (.ref kd) ∧ Fld Z h x "com/example/entitlement/entitlement/Expression" "term" "Lcom/example/entitlement/entitlement/Term;" (.ref tm) ∧ Fld Z h x "com/example/entitlement/entitlement/Expression" "operands" "Ljava/util/List;" (.ref el)
set_option maxRecDepth 65536 in
set_option maxHeartbeats 40000000 in
theorem rmEI (l : Launch) (Z : State) (a0 : Array Value) (hw : ∀ d ∈ tables_1, d.before a0 Z = true) (ws : List Jvm.Cond) (x : Addr) (kd tm el : Addr) (h0 : Heap) (n0 : Nat) (Z0 : n0 ≤ h0.size) (E : Exa Z h0 x "com/example/entitlement/entitlement/Expression") (ga : n0 ≤ x) (F0 : Fld Z h0 x "com/example/entitlement/entitlement/Expression" "kind" "Lcom/example/entitlement/entitlement/Expression$Kind;" .null) (F1 : Fld Z h0 x "com/example/entitlement/entitlement/Expression" "term" "Lcom/example/entitlement/entitlement/Term;" .null) (F2 : Fld Z h0 x "com/example/entitlement/entitlement/Expression" "operands" "Ljava/util/List;" .null) (EE : Exa Z Z.heap el "java/util/ImmutableCollections$ListN") (EA : Fld Z Z.heap el "java/util/ImmutableCollections$ListN" "allowNulls" "Z" (.int (0 : Int32))) (X0_ : Old Z n0 h0) :
    MetFree l (⟨"com/example/entitlement/entitlement/Expression", "<init>", "(Lcom/example/entitlement/entitlement/Expression$Kind;Lcom/example/entitlement/entitlement/Term;Ljava/util/List;)V"⟩ : MethodName) (head1 (Jvm.Cond.code (⟨"com/example/entitlement/entitlement/Expression", "<init>", "(Lcom/example/entitlement/entitlement/Expression$Kind;Lcom/example/entitlement/entitlement/Term;Ljava/util/List;)V"⟩ : MethodName) prog_6_method_1_code 4 none :: ws) ({ frames := 2, cells := 0, slots := 0, locals := 26 } : Room)) (fun a_ U => a_ = #[(.ref x), (.ref kd), (.ref tm), (.ref el)] ∧ Z.Warmed39 U.vm ∧ U.heap = h0) (fun _ _ _ _ _ => True) (fun _ U o U' => ∃ v L, o = .returned v ∧ QEI Z x kd tm el h0 n0 v U'.heap L ∧ FrameEnd U o U' L ({ frames := 2, cells := 0, slots := 0, locals := 26 } : Room).cells ({ frames := 2, cells := 0, slots := 0, locals := 26 } : Room).slots) := by
  refine MetFree.of_bodySF (plainFor_of_name pn_5) hisR ?_
  intro p e s m args below meth c s₁ Bd hml0 hP hK
  obtain ⟨rfl, hZ, hh⟩ := hP
  have hx := Bd.exec
  have hby := Bd.bytes
  have hml : c.maxLocals = 4 := hml0
  have hown : s.vm.findClass "com/example/entitlement/entitlement/Expression" = some m.cls := findClass_of_methodNamed Bd.named
  have hnm := (name_of_methodNamed Bd.named Bd.method).1
  have X0 : Stand p l e ({ frames := 2, cells := 0, slots := 0, locals := 26 } : Room) s m #[(.ref x), (.ref kd), (.ref tm), (.ref el)] below meth c s₁ [] 0 0 := Stand.of_body Bd
  have e0 : s₁.heap = h0 := by rw [← hh, Bd.state]; rfl
  have N0 := Fr.nil n0
  refine Goes.done ?_
  obtain ⟨W, hWd⟩ : ∃ W : State → Prop, W = EndW s below (QEI Z x kd tm el h0 n0) ({ frames := 2, cells := 0, slots := 0, locals := 26 } : Room).cells ({ frames := 2, cells := 0, slots := 0, locals := 26 } : Room).slots := ⟨_, rfl⟩
  rw [← hWd]
  have hef : entryFrame m #[(.ref x), (.ref kd), (.ref tm), (.ref el)] 4 = (mkF m 0 #[.val (.ref x), .val (.ref kd), .val (.ref tm), .val (.ref el)] []) := by first | (simp [entryFrame, mkF, argsToLocals, Value.category]; done) | rfl
  rw [hef]
  refine Goes.on (T' := s₁) (g' := (mkF m 1 #[.val (.ref x), .val (.ref kd), .val (.ref tm), .val (.ref el)] [(.ref x)])) ?_ (fun t_ k_ => XS.aloadN X0.here hx rfl (hb hby d16_0) rfl rfl k_)
  obtain ⟨T1, X1, e1, st1⟩ := initO X0 hx hZ hown (hw _ (List.mem_of_getElem? (i := 88) rfl)) (hw _ (List.mem_of_getElem? (i := 12) rfl)) (hw _ (List.mem_of_getElem? (i := 13) rfl)) e0 (g := (mkF m 1 #[.val (.ref x), .val (.ref kd), .val (.ref tm), .val (.ref el)] [(.ref x)])) rfl (by rw [hml]; rfl) rfl (hb hby d16_1) (by decide) (W := 0) (by show 2 * 0 + _ ≤ _; exact Nat.le_of_eq rfl) (by decide)
  refine Goes.on (T' := T1) (g' := (mkF m 4 #[.val (.ref x), .val (.ref kd), .val (.ref tm), .val (.ref el)] [])) ?_ st1
  refine Goes.on (T' := T1) (g' := (mkF m 5 #[.val (.ref x), .val (.ref kd), .val (.ref tm), .val (.ref el)] [(.ref x)])) ?_ (fun t_ k_ => XS.aloadN X1.here hx rfl (hb hby d16_4) rfl rfl k_)
  refine Goes.on (T' := T1) (g' := (mkF m 6 #[.val (.ref x), .val (.ref kd), .val (.ref tm), .val (.ref el)] [(.ref kd), (.ref x)])) ?_ (fun t_ k_ => XS.aloadN X1.here hx rfl (hb hby d16_5) rfl rfl k_)
  obtain ⟨T2, h2, X2, e2, W2, st2⟩ := putF X1 hx hZ hown (host := "") (Or.inl (hw _ (List.mem_of_getElem? (i := 89) rfl))) Via.refl e1 F0 E (Or.inr ⟨(hw _ (List.mem_of_getElem? (i := 90) rfl)), rfl, hnm⟩) (hw _ (List.mem_of_getElem? (i := 75) rfl)) (ty := (.object "com/example/entitlement/entitlement/Expression$Kind")) (by decide) rfl rfl (g := (mkF m 6 #[.val (.ref x), .val (.ref kd), .val (.ref tm), .val (.ref el)] [(.ref kd), (.ref x)])) rfl rfl (hb hby d16_6)
  have N2 := Fr.snoc X2 N0 ga
  have Z2 : n0 ≤ h2.size := Nat.le_trans Z0 (Nat.le_of_eq W2.size.symm)
  refine Goes.on (T' := T2) (g' := (mkF m 9 #[.val (.ref x), .val (.ref kd), .val (.ref tm), .val (.ref el)] [])) ?_ st2
  have fx3 := F0.same W2
  have fx4 := F1.other W2 (Or.inr (slot_ne (Or.inr (hw _ (List.mem_of_getElem? (i := 92) rfl))) (Or.inr (hw _ (List.mem_of_getElem? (i := 90) rfl))) (by decide) (t := (.object "com/example/entitlement/entitlement/Term")) (t' := (.object "com/example/entitlement/entitlement/Expression$Kind")) (by decide) (by decide)))
  have fx5 := F2.other W2 (Or.inr (slot_ne (Or.inr (hw _ (List.mem_of_getElem? (i := 112) rfl))) (Or.inr (hw _ (List.mem_of_getElem? (i := 90) rfl))) (by decide) (t := (.object "java/util/List")) (t' := (.object "com/example/entitlement/entitlement/Expression$Kind")) (by decide) (by decide)))
  have fx6 := E.wr W2
  have kp7 := (Keep.refl h0 [x]).wr W2 (Or.inl (by simp))
  refine Goes.on (T' := T2) (g' := (mkF m 10 #[.val (.ref x), .val (.ref kd), .val (.ref tm), .val (.ref el)] [(.ref x)])) ?_ (fun t_ k_ => XS.aloadN X2.here hx rfl (hb hby d16_9) rfl rfl k_)
  refine Goes.on (T' := T2) (g' := (mkF m 11 #[.val (.ref x), .val (.ref kd), .val (.ref tm), .val (.ref el)] [(.ref tm), (.ref x)])) ?_ (fun t_ k_ => XS.aloadN X2.here hx rfl (hb hby d16_10) rfl rfl k_)
  obtain ⟨T8, h8, X8, e8, W8, st8⟩ := putF X2 hx hZ hown (host := "") (Or.inl (hw _ (List.mem_of_getElem? (i := 91) rfl))) Via.refl e2 fx4 fx6 (Or.inr ⟨(hw _ (List.mem_of_getElem? (i := 92) rfl)), rfl, hnm⟩) (hw _ (List.mem_of_getElem? (i := 75) rfl)) (ty := (.object "com/example/entitlement/entitlement/Term")) (by decide) rfl rfl (g := (mkF m 11 #[.val (.ref x), .val (.ref kd), .val (.ref tm), .val (.ref el)] [(.ref tm), (.ref x)])) rfl rfl (hb hby d16_11)
  have N8 := Fr.snoc X8 N2 ga
  have Z8 : n0 ≤ h8.size := Nat.le_trans Z2 (Nat.le_of_eq W8.size.symm)
  refine Goes.on (T' := T8) (g' := (mkF m 14 #[.val (.ref x), .val (.ref kd), .val (.ref tm), .val (.ref el)] [])) ?_ st8
  have fx9 := fx3.other W8 (Or.inr (slot_ne (Or.inr (hw _ (List.mem_of_getElem? (i := 90) rfl))) (Or.inr (hw _ (List.mem_of_getElem? (i := 92) rfl))) (by decide) (t := (.object "com/example/entitlement/entitlement/Expression$Kind")) (t' := (.object "com/example/entitlement/entitlement/Term")) (by decide) (by decide)))
  have fx10 := fx4.same W8
  have fx11 := fx5.other W8 (Or.inr (slot_ne (Or.inr (hw _ (List.mem_of_getElem? (i := 112) rfl))) (Or.inr (hw _ (List.mem_of_getElem? (i := 92) rfl))) (by decide) (t := (.object "java/util/List")) (t' := (.object "com/example/entitlement/entitlement/Term")) (by decide) (by decide)))
  have fx12 := fx6.wr W8
  have kp13 := kp7.wr W8 (Or.inl (by simp))
  refine Goes.on (T' := T8) (g' := (mkF m 15 #[.val (.ref x), .val (.ref kd), .val (.ref tm), .val (.ref el)] [(.ref x)])) ?_ (fun t_ k_ => XS.aloadN X8.here hx rfl (hb hby d16_14) rfl rfl k_)
  refine Goes.on (T' := T8) (g' := (mkF m 16 #[.val (.ref x), .val (.ref kd), .val (.ref tm), .val (.ref el)] [(.ref el), (.ref x)])) ?_ (fun t_ k_ => XS.aloadN X8.here hx rfl (hb hby d16_15) rfl rfl k_)
  have xo2 : Old Z n0 h8 := X0_.keep kp13 (allS ga all0)
  obtain ⟨_, _, ⟨T14, Lq_14, kq_14, nq_14⟩, -, X14, ⟨Lc14, hQ14, l14, y14, z14⟩, st14⟩ := Jvm.LawKit.callS X8 hx (y := (⟨"java/util/List", "copyOf", "(Ljava/util/Collection;)Ljava/util/List;"⟩ : MethodName)) hown (mvT hZ (hw _ (List.mem_of_getElem? (i := 93) rfl))) (mvT hZ (hw _ (List.mem_of_getElem? (i := 94) rfl))) (mvT hZ (hw _ (List.mem_of_getElem? (i := 81) rfl))) (mvT hZ (hw _ (List.mem_of_getElem? (i := 95) rfl))) (by decide) (backOf (W := 1) (rmLF l Z a0 hw [] el h8 n0 Z8 EE EA xo2) hZ (hw _ (List.mem_of_getElem? (i := 95) rfl)) (hw _ (List.mem_of_getElem? (i := 81) rfl)) (by decide) (by decide)) (g := (mkF m 16 #[.val (.ref x), .val (.ref kd), .val (.ref tm), .val (.ref el)] [(.ref el), (.ref x)])) rfl (by rw [hml]; rfl) (argsL := [(.ref el)]) (rest := [(.ref x)]) (lenOf pd_8 rfl) rfl (by show 2 * 0 + _ ≤ _; exact Nat.le_of_eq rfl) (hb hby d16_16) (fun _ _ => ⟨rfl, e8, (by decide : 0 + 0 ≤ _), (by decide : 0 + 0 ≤ _)⟩)
  dsimp only [Pt.U, Pt.locs, Pt.cells, Pt.slots] at X14 l14 y14 z14 st14 hQ14
  rw [l14, y14, z14] at X14
  change Stand p l e _ _ m _ below meth c T14 _ 0 0 at X14
  obtain ⟨rfl, N14q, eh14⟩ := hQ14
  have N14 := Fr.app N8 N14q
  refine Goes.on (T' := T14) (g' := (mkF m 19 #[.val (.ref x), .val (.ref kd), .val (.ref tm), .val (.ref el)] [(.ref el), (.ref x)])) ?_ st14
  obtain ⟨T15, h15, X15, e15, W15, st15⟩ := putF X14 hx hZ hown (host := "") (Or.inl (hw _ (List.mem_of_getElem? (i := 111) rfl))) Via.refl eh14 fx11 fx12 (Or.inr ⟨(hw _ (List.mem_of_getElem? (i := 112) rfl)), rfl, hnm⟩) (hw _ (List.mem_of_getElem? (i := 75) rfl)) (ty := (.object "java/util/List")) (by decide) rfl rfl (g := (mkF m 19 #[.val (.ref x), .val (.ref kd), .val (.ref tm), .val (.ref el)] [(.ref el), (.ref x)])) rfl rfl (hb hby d16_19)
  have N15 := Fr.snoc X15 N14 ga
  have Z15 : n0 ≤ h15.size := Nat.le_trans Z8 (Nat.le_of_eq W15.size.symm)
  refine Goes.on (T' := T15) (g' := (mkF m 22 #[.val (.ref x), .val (.ref kd), .val (.ref tm), .val (.ref el)] [])) ?_ st15
  have fx16 := fx9.other W15 (Or.inr (slot_ne (Or.inr (hw _ (List.mem_of_getElem? (i := 90) rfl))) (Or.inr (hw _ (List.mem_of_getElem? (i := 112) rfl))) (by decide) (t := (.object "com/example/entitlement/entitlement/Expression$Kind")) (t' := (.object "java/util/List")) (by decide) (by decide)))
  have fx17 := fx10.other W15 (Or.inr (slot_ne (Or.inr (hw _ (List.mem_of_getElem? (i := 92) rfl))) (Or.inr (hw _ (List.mem_of_getElem? (i := 112) rfl))) (by decide) (t := (.object "com/example/entitlement/entitlement/Term")) (t' := (.object "java/util/List")) (by decide) (by decide)))
  have fx18 := fx11.same W15
  have fx19 := fx12.wr W15
  have kp20 := kp13.wr W15 (Or.inl (by simp))
  rw [hWd]
  exact Goes.retn X15 (v := none) (fun fs hr => X15.returnOut hx Bd.returns (hb hby d16_22) hr) (fun _ => rfl) Bd.notSynchronized (by decide) (by decide) (by rw [e15]; exact ⟨rfl, N15, kp20, fx19, fx16, fx17, fx18⟩)
def QET (Z : State) (tm kt el : Addr) (h0 : Heap) (n0 : Nat) (v : Option Value) (h : Heap) (L : List Loc) : Prop := ∃ b, v = some (.ref b) ∧ Fr n0 L ∧ Keep h0 h [] ∧ h0.size ≤ b ∧ Exa Z h b "com/example/entitlement/entitlement/Expression"
set_option maxRecDepth 65536 in
set_option maxHeartbeats 40000000 in
theorem rmET (l : Launch) (Z : State) (a0 : Array Value) (hw : ∀ d ∈ tables_1, d.before a0 Z = true) (ws : List Jvm.Cond) (tm kt el : Addr) (h0 : Heap) (n0 : Nat) (Z0 : n0 ≤ h0.size) (KT : Sta Z Z.heap "com/example/entitlement/entitlement/Expression$Kind" "TERM" "Lcom/example/entitlement/entitlement/Expression$Kind;" (.ref kt)) (LS : Sta Z Z.heap "java/util/ImmutableCollections" "EMPTY_LIST" "Ljava/util/ImmutableCollections$ListN;" (.ref el)) (EE : Exa Z Z.heap el "java/util/ImmutableCollections$ListN") (EA : Fld Z Z.heap el "java/util/ImmutableCollections$ListN" "allowNulls" "Z" (.int (0 : Int32))) (X0_ : Old Z n0 h0) :
    MetFree l (⟨"com/example/entitlement/entitlement/Expression", "term", "(Lcom/example/entitlement/entitlement/Term;)Lcom/example/entitlement/entitlement/Expression;"⟩ : MethodName) (head1 (Jvm.Cond.code (⟨"com/example/entitlement/entitlement/Expression", "term", "(Lcom/example/entitlement/entitlement/Term;)Lcom/example/entitlement/entitlement/Expression;"⟩ : MethodName) prog_6_method_2_code 1 (some (.object "com/example/entitlement/entitlement/Expression")) :: ws) ({ frames := 3, cells := 1, slots := 3, locals := 45 } : Room)) (fun a_ U => a_ = #[(.ref tm)] ∧ Z.Warmed39 U.vm ∧ U.heap = h0) (fun _ _ _ _ _ => True) (fun _ U o U' => ∃ v L, o = .returned v ∧ QET Z tm kt el h0 n0 v U'.heap L ∧ FrameEnd U o U' L ({ frames := 3, cells := 1, slots := 3, locals := 45 } : Room).cells ({ frames := 3, cells := 1, slots := 3, locals := 45 } : Room).slots) := by
  refine MetFree.of_bodySF (plainFor_of_name pn_5) hisR ?_
  intro p e s m args below meth c s₁ Bd hml0 hP hK
  obtain ⟨rfl, hZ, hh⟩ := hP
  have hx := Bd.exec
  have hby := Bd.bytes
  have hml : c.maxLocals = 1 := hml0
  have hown : s.vm.findClass "com/example/entitlement/entitlement/Expression" = some m.cls := findClass_of_methodNamed Bd.named
  have hnm := (name_of_methodNamed Bd.named Bd.method).1
  have X0 : Stand p l e ({ frames := 3, cells := 1, slots := 3, locals := 45 } : Room) s m #[(.ref tm)] below meth c s₁ [] 0 0 := Stand.of_body Bd
  have e0 : s₁.heap = h0 := by rw [← hh, Bd.state]; rfl
  have N0 := Fr.nil n0
  refine Goes.done ?_
  obtain ⟨W, hWd⟩ : ∃ W : State → Prop, W = EndW s below (QET Z tm kt el h0 n0) ({ frames := 3, cells := 1, slots := 3, locals := 45 } : Room).cells ({ frames := 3, cells := 1, slots := 3, locals := 45 } : Room).slots := ⟨_, rfl⟩
  rw [← hWd]
  have hef : entryFrame m #[(.ref tm)] 1 = (mkF m 0 #[.val (.ref tm)] []) := by first | (simp [entryFrame, mkF, argsToLocals, Value.category]; done) | rfl
  rw [hef]
  obtain ⟨T1, h1, X1, e1, E1, A1, D1, -, st1⟩ := newO X0 hx hZ hown (hw _ (List.mem_of_getElem? (i := 74) rfl)) (hw _ (List.mem_of_getElem? (i := 75) rfl)) (hw _ (List.mem_of_getElem? (i := 72) rfl)) e0 (g := (mkF m 0 #[.val (.ref tm)] [])) rfl (hb hby d14_0) (by decide) (by decide)
  obtain ⟨b1, gb1⟩ : ∃ z, z = h0.size := ⟨_, rfl⟩
  rw [← gb1] at A1 D1 st1
  have Z1 : n0 ≤ h1.size := Nat.le_trans Z0 E1.1
  have g_b1 : n0 ≤ b1 := Nat.le_trans Z0 (Nat.le_of_eq gb1.symm)
  refine Goes.on (T' := T1) (g' := (mkF m 3 #[.val (.ref tm)] [(.ref b1)])) ?_ st1
  have F1_kind : Fld Z h1 b1 "com/example/entitlement/entitlement/Expression" "kind" "Lcom/example/entitlement/entitlement/Expression$Kind;" .null := D1 (Or.inr (hw _ (List.mem_of_getElem? (i := 90) rfl))) (ty := (.object "com/example/entitlement/entitlement/Expression$Kind")) (by decide)
  have F1_term : Fld Z h1 b1 "com/example/entitlement/entitlement/Expression" "term" "Lcom/example/entitlement/entitlement/Term;" .null := D1 (Or.inr (hw _ (List.mem_of_getElem? (i := 92) rfl))) (ty := (.object "com/example/entitlement/entitlement/Term")) (by decide)
  have F1_operands : Fld Z h1 b1 "com/example/entitlement/entitlement/Expression" "operands" "Ljava/util/List;" .null := D1 (Or.inr (hw _ (List.mem_of_getElem? (i := 112) rfl))) (ty := (.object "java/util/List")) (by decide)
  have xo1 := X0_.ext E1
  have kp2 := (Keep.refl h0 []).ext E1
  refine Goes.on (T' := T1) (g' := (mkF m 4 #[.val (.ref tm)] [(.ref b1), (.ref b1)])) ?_ (fun t_ k_ => XS.dup X1.here hx rfl (hb hby d14_3) rfl rfl k_)
  obtain ⟨T3, X3, e3, st3⟩ := getS2 X1 hx hZ hown (host := "") (Or.inl (hw _ (List.mem_of_getElem? (i := 76) rfl))) Via.refl e1 (KT.ext xo1.2) (g := (mkF m 4 #[.val (.ref tm)] [(.ref b1), (.ref b1)])) rfl (hb hby d14_4)
  refine Goes.on (T' := T3) (g' := (mkF m 7 #[.val (.ref tm)] [(.ref kt), (.ref b1), (.ref b1)])) ?_ st3
  refine Goes.on (T' := T3) (g' := (mkF m 8 #[.val (.ref tm)] [(.ref tm), (.ref kt), (.ref b1), (.ref b1)])) ?_ (fun t_ k_ => XS.aloadN X3.here hx rfl (hb hby d14_7) rfl rfl k_)
  obtain ⟨_, _, ⟨T4, Lq_4, kq_4, nq_4⟩, -, X4, ⟨Lc4, hQ4, l4, y4, z4⟩, st4⟩ := Jvm.LawKit.callS X3 hx (y := (⟨"java/util/List", "of", "()Ljava/util/List;"⟩ : MethodName)) hown (mvT hZ (hw _ (List.mem_of_getElem? (i := 79) rfl))) (mvT hZ (hw _ (List.mem_of_getElem? (i := 80) rfl))) (mvT hZ (hw _ (List.mem_of_getElem? (i := 81) rfl))) (mvT hZ (hw _ (List.mem_of_getElem? (i := 82) rfl))) (by decide) (backOf (W := 4) (rmLO l Z a0 hw [] el h1 n0 Z1 LS xo1) hZ (hw _ (List.mem_of_getElem? (i := 82) rfl)) (hw _ (List.mem_of_getElem? (i := 81) rfl)) (by decide) (by decide)) (g := (mkF m 8 #[.val (.ref tm)] [(.ref tm), (.ref kt), (.ref b1), (.ref b1)])) rfl (by rw [hml]; rfl) (argsL := []) (rest := [(.ref tm), (.ref kt), (.ref b1), (.ref b1)]) (lenOf pd_9 rfl) rfl (by show 2 * 0 + _ ≤ _; exact Nat.le_of_eq rfl) (hb hby d14_8) (fun _ _ => ⟨rfl, e3, (by decide : 1 + 0 ≤ _), (by decide : 3 + 0 ≤ _)⟩)
  dsimp only [Pt.U, Pt.locs, Pt.cells, Pt.slots] at X4 l4 y4 z4 st4 hQ4
  rw [l4, y4, z4] at X4
  change Stand p l e _ _ m _ below meth c T4 _ 1 3 at X4
  obtain ⟨rfl, N4q, eh4⟩ := hQ4
  have N4 := Fr.app N0 N4q
  refine Goes.on (T' := T4) (g' := (mkF m 11 #[.val (.ref tm)] [(.ref el), (.ref tm), (.ref kt), (.ref b1), (.ref b1)])) ?_ st4
  obtain ⟨_, _, ⟨T5, Lq_5, kq_5, nq_5⟩, -, X5, ⟨Lc5, hQ5, l5, y5, z5⟩, st5⟩ := X4.specialBack hx (y := (⟨"com/example/entitlement/entitlement/Expression", "<init>", "(Lcom/example/entitlement/entitlement/Expression$Kind;Lcom/example/entitlement/entitlement/Term;Ljava/util/List;)V"⟩ : MethodName)) rfl hown (mvT hZ (hw _ (List.mem_of_getElem? (i := 85) rfl))) (mvT hZ (hw _ (List.mem_of_getElem? (i := 86) rfl))) (mvT hZ (hw _ (List.mem_of_getElem? (i := 87) rfl))) (by decide) (backOf (W := 1) (rmEI l Z a0 hw [] b1 kt tm el h1 n0 Z1 A1 g_b1 F1_kind F1_term F1_operands EE EA xo1) hZ (hw _ (List.mem_of_getElem? (i := 87) rfl)) (hw _ (List.mem_of_getElem? (i := 72) rfl)) (by decide) (by decide)) (g := (mkF m 11 #[.val (.ref tm)] [(.ref el), (.ref tm), (.ref kt), (.ref b1), (.ref b1)])) rfl (by rw [hml]; rfl) (Steps.refl _) (a := b1) (argsL := [(.ref kt), (.ref tm), (.ref el)]) (rest := [(.ref b1)]) (lenOf pd_10 rfl) rfl (by show 2 * 0 + _ ≤ _; exact Nat.le_of_eq rfl) (hb hby d14_11) (fun _ _ => ⟨rfl, eh4, (by decide : 1 + 0 ≤ _), (by decide : 3 + 0 ≤ _)⟩)
  dsimp only [Pt.U, Pt.locs, Pt.cells, Pt.slots] at X5 l5 y5 z5 st5 hQ5
  rw [l5, y5, z5] at X5
  change Stand p l e _ _ m _ below meth c T5 _ 1 3 at X5
  obtain ⟨rfl, N5q, K5, EX, -, -, -⟩ := hQ5
  have N5 := Fr.app N4 N5q
  refine Goes.on (T' := T5) (g' := (mkF m 14 #[.val (.ref tm)] [(.ref b1)])) ?_ (fun t => st5.trans)
  have kp6 := kp2.trans K5 (allS (Or.inr (Nat.le_of_eq gb1.symm)) all0)
  rw [hWd]
  exact Goes.retn X5 (v := some (.ref b1)) (fun fs hr => retA X5 hx Bd.returns rfl rfl (hb hby d14_14) hr) (fun h => by rw [Bd.returns] at h; cases h) Bd.notSynchronized (by decide) (by decide) ⟨b1, rfl, N5, kp6, Nat.le_of_eq gb1.symm, EX⟩
def QAM (Z : State) (x : Addr) (h0 : Heap) (n0 : Nat) (v : Option Value) (h : Heap) (L : List Loc) : Prop := v = none ∧ Fr n0 L ∧ h = h0
set_option maxRecDepth 65536 in
set_option maxHeartbeats 40000000 in
theorem rmAM (l : Launch) (Z : State) (a0 : Array Value) (hw : ∀ d ∈ tables_1, d.before a0 Z = true) (ws : List Jvm.Cond) (x : Addr) (h0 : Heap) (n0 : Nat) (Z0 : n0 ≤ h0.size)  :
    MetFree l (⟨"java/util/AbstractMap", "<init>", "()V"⟩ : MethodName) (head1 (Jvm.Cond.code (⟨"java/util/AbstractMap", "<init>", "()V"⟩ : MethodName) jdk_71_method_1_code 1 none :: ws) ({ frames := 1, cells := 0, slots := 0, locals := 12 } : Room)) (fun a_ U => a_ = #[(.ref x)] ∧ Z.Warmed39 U.vm ∧ U.heap = h0) (fun _ _ _ _ _ => True) (fun _ U o U' => ∃ v L, o = .returned v ∧ QAM Z x h0 n0 v U'.heap L ∧ FrameEnd U o U' L ({ frames := 1, cells := 0, slots := 0, locals := 12 } : Room).cells ({ frames := 1, cells := 0, slots := 0, locals := 12 } : Room).slots) := by
  refine MetFree.of_bodySF (plainFor_of_name pn_6) hisR ?_
  intro p e s m args below meth c s₁ Bd hml0 hP hK
  obtain ⟨rfl, hZ, hh⟩ := hP
  have hx := Bd.exec
  have hby := Bd.bytes
  have hml : c.maxLocals = 1 := hml0
  have hown : s.vm.findClass "java/util/AbstractMap" = some m.cls := findClass_of_methodNamed Bd.named
  have hnm := (name_of_methodNamed Bd.named Bd.method).1
  have X0 : Stand p l e ({ frames := 1, cells := 0, slots := 0, locals := 12 } : Room) s m #[(.ref x)] below meth c s₁ [] 0 0 := Stand.of_body Bd
  have e0 : s₁.heap = h0 := by rw [← hh, Bd.state]; rfl
  have N0 := Fr.nil n0
  refine Goes.done ?_
  obtain ⟨W, hWd⟩ : ∃ W : State → Prop, W = EndW s below (QAM Z x h0 n0) ({ frames := 1, cells := 0, slots := 0, locals := 12 } : Room).cells ({ frames := 1, cells := 0, slots := 0, locals := 12 } : Room).slots := ⟨_, rfl⟩
  rw [← hWd]
  have hef : entryFrame m #[(.ref x)] 1 = (mkF m 0 #[.val (.ref x)] []) := by first | (simp [entryFrame, mkF, argsToLocals, Value.category]; done) | rfl
  rw [hef]
  refine Goes.on (T' := s₁) (g' := (mkF m 1 #[.val (.ref x)] [(.ref x)])) ?_ (fun t_ k_ => XS.aloadN X0.here hx rfl (hb hby d21_0) rfl rfl k_)
  obtain ⟨T1, X1, e1, st1⟩ := initO X0 hx hZ hown (hw _ (List.mem_of_getElem? (i := 132) rfl)) (hw _ (List.mem_of_getElem? (i := 12) rfl)) (hw _ (List.mem_of_getElem? (i := 13) rfl)) e0 (g := (mkF m 1 #[.val (.ref x)] [(.ref x)])) rfl (by rw [hml]; rfl) rfl (hb hby d21_1) (by decide) (W := 0) (by show 2 * 0 + _ ≤ _; exact Nat.le_of_eq rfl) (by decide)
  refine Goes.on (T' := T1) (g' := (mkF m 4 #[.val (.ref x)] [])) ?_ st1
  rw [hWd]
  exact Goes.retn X1 (v := none) (fun fs hr => X1.returnOut hx Bd.returns (hb hby d21_4) hr) (fun _ => rfl) Bd.notSynchronized (by decide) (by decide) (by rw [e1]; exact ⟨rfl, N0, rfl⟩)
def QAC (Z : State) (x : Addr) (h0 : Heap) (n0 : Nat) (v : Option Value) (h : Heap) (L : List Loc) : Prop := v = none ∧ Fr n0 L ∧ h = h0
set_option maxRecDepth 65536 in
set_option maxHeartbeats 40000000 in
theorem rmAC (l : Launch) (Z : State) (a0 : Array Value) (hw : ∀ d ∈ tables_1, d.before a0 Z = true) (ws : List Jvm.Cond) (x : Addr) (h0 : Heap) (n0 : Nat) (Z0 : n0 ≤ h0.size)  :
    MetFree l (⟨"java/util/AbstractCollection", "<init>", "()V"⟩ : MethodName) (head1 (Jvm.Cond.code (⟨"java/util/AbstractCollection", "<init>", "()V"⟩ : MethodName) jdk_22_method_1_code 1 none :: ws) ({ frames := 1, cells := 0, slots := 0, locals := 12 } : Room)) (fun a_ U => a_ = #[(.ref x)] ∧ Z.Warmed39 U.vm ∧ U.heap = h0) (fun _ _ _ _ _ => True) (fun _ U o U' => ∃ v L, o = .returned v ∧ QAC Z x h0 n0 v U'.heap L ∧ FrameEnd U o U' L ({ frames := 1, cells := 0, slots := 0, locals := 12 } : Room).cells ({ frames := 1, cells := 0, slots := 0, locals := 12 } : Room).slots) := by
  refine MetFree.of_bodySF (plainFor_of_name pn_7) hisR ?_
  intro p e s m args below meth c s₁ Bd hml0 hP hK
  obtain ⟨rfl, hZ, hh⟩ := hP
  have hx := Bd.exec
  have hby := Bd.bytes
  have hml : c.maxLocals = 1 := hml0
  have hown : s.vm.findClass "java/util/AbstractCollection" = some m.cls := findClass_of_methodNamed Bd.named
  have hnm := (name_of_methodNamed Bd.named Bd.method).1
  have X0 : Stand p l e ({ frames := 1, cells := 0, slots := 0, locals := 12 } : Room) s m #[(.ref x)] below meth c s₁ [] 0 0 := Stand.of_body Bd
  have e0 : s₁.heap = h0 := by rw [← hh, Bd.state]; rfl
  have N0 := Fr.nil n0
  refine Goes.done ?_
  obtain ⟨W, hWd⟩ : ∃ W : State → Prop, W = EndW s below (QAC Z x h0 n0) ({ frames := 1, cells := 0, slots := 0, locals := 12 } : Room).cells ({ frames := 1, cells := 0, slots := 0, locals := 12 } : Room).slots := ⟨_, rfl⟩
  rw [← hWd]
  have hef : entryFrame m #[(.ref x)] 1 = (mkF m 0 #[.val (.ref x)] []) := by first | (simp [entryFrame, mkF, argsToLocals, Value.category]; done) | rfl
  rw [hef]
  refine Goes.on (T' := s₁) (g' := (mkF m 1 #[.val (.ref x)] [(.ref x)])) ?_ (fun t_ k_ => XS.aloadN X0.here hx rfl (hb hby d24_0) rfl rfl k_)
  obtain ⟨T1, X1, e1, st1⟩ := initO X0 hx hZ hown (hw _ (List.mem_of_getElem? (i := 160) rfl)) (hw _ (List.mem_of_getElem? (i := 12) rfl)) (hw _ (List.mem_of_getElem? (i := 13) rfl)) e0 (g := (mkF m 1 #[.val (.ref x)] [(.ref x)])) rfl (by rw [hml]; rfl) rfl (hb hby d24_1) (by decide) (W := 0) (by show 2 * 0 + _ ≤ _; exact Nat.le_of_eq rfl) (by decide)
  refine Goes.on (T' := T1) (g' := (mkF m 4 #[.val (.ref x)] [])) ?_ st1
  rw [hWd]
  exact Goes.retn X1 (v := none) (fun fs hr => X1.returnOut hx Bd.returns (hb hby d24_4) hr) (fun _ => rfl) Bd.notSynchronized (by decide) (by decide) (by rw [e1]; exact ⟨rfl, N0, rfl⟩)
def QAS (Z : State) (x : Addr) (h0 : Heap) (n0 : Nat) (v : Option Value) (h : Heap) (L : List Loc) : Prop := v = none ∧ Fr n0 L ∧ h = h0
set_option maxRecDepth 65536 in
set_option maxHeartbeats 40000000 in
theorem rmAS (l : Launch) (Z : State) (a0 : Array Value) (hw : ∀ d ∈ tables_1, d.before a0 Z = true) (ws : List Jvm.Cond) (x : Addr) (h0 : Heap) (n0 : Nat) (Z0 : n0 ≤ h0.size)  :
    MetFree l (⟨"java/util/AbstractSet", "<init>", "()V"⟩ : MethodName) (head1 (Jvm.Cond.code (⟨"java/util/AbstractSet", "<init>", "()V"⟩ : MethodName) jdk_91_method_1_code 1 none :: ws) ({ frames := 2, cells := 0, slots := 0, locals := 24 } : Room)) (fun a_ U => a_ = #[(.ref x)] ∧ Z.Warmed39 U.vm ∧ U.heap = h0) (fun _ _ _ _ _ => True) (fun _ U o U' => ∃ v L, o = .returned v ∧ QAS Z x h0 n0 v U'.heap L ∧ FrameEnd U o U' L ({ frames := 2, cells := 0, slots := 0, locals := 24 } : Room).cells ({ frames := 2, cells := 0, slots := 0, locals := 24 } : Room).slots) := by
  refine MetFree.of_bodySF (plainFor_of_name pn_8) hisR ?_
  intro p e s m args below meth c s₁ Bd hml0 hP hK
  obtain ⟨rfl, hZ, hh⟩ := hP
  have hx := Bd.exec
  have hby := Bd.bytes
  have hml : c.maxLocals = 1 := hml0
  have hown : s.vm.findClass "java/util/AbstractSet" = some m.cls := findClass_of_methodNamed Bd.named
  have hnm := (name_of_methodNamed Bd.named Bd.method).1
  have X0 : Stand p l e ({ frames := 2, cells := 0, slots := 0, locals := 24 } : Room) s m #[(.ref x)] below meth c s₁ [] 0 0 := Stand.of_body Bd
  have e0 : s₁.heap = h0 := by rw [← hh, Bd.state]; rfl
  have N0 := Fr.nil n0
  refine Goes.done ?_
  obtain ⟨W, hWd⟩ : ∃ W : State → Prop, W = EndW s below (QAS Z x h0 n0) ({ frames := 2, cells := 0, slots := 0, locals := 24 } : Room).cells ({ frames := 2, cells := 0, slots := 0, locals := 24 } : Room).slots := ⟨_, rfl⟩
  rw [← hWd]
  have hef : entryFrame m #[(.ref x)] 1 = (mkF m 0 #[.val (.ref x)] []) := by first | (simp [entryFrame, mkF, argsToLocals, Value.category]; done) | rfl
  rw [hef]
  refine Goes.on (T' := s₁) (g' := (mkF m 1 #[.val (.ref x)] [(.ref x)])) ?_ (fun t_ k_ => XS.aloadN X0.here hx rfl (hb hby d23_0) rfl rfl k_)
  obtain ⟨_, _, ⟨T1, Lq_1, kq_1, nq_1⟩, -, X1, ⟨Lc1, hQ1, l1, y1, z1⟩, st1⟩ := X0.specialBack hx (y := (⟨"java/util/AbstractCollection", "<init>", "()V"⟩ : MethodName)) rfl hown (mvT hZ (hw _ (List.mem_of_getElem? (i := 154) rfl))) (mvT hZ (hw _ (List.mem_of_getElem? (i := 155) rfl))) (mvT hZ (hw _ (List.mem_of_getElem? (i := 159) rfl))) (by decide) (backOf (W := 0) (rmAC l Z a0 hw [] x h0 n0 Z0) hZ (hw _ (List.mem_of_getElem? (i := 159) rfl)) (hw _ (List.mem_of_getElem? (i := 158) rfl)) (by decide) (by decide)) (g := (mkF m 1 #[.val (.ref x)] [(.ref x)])) rfl (by rw [hml]; rfl) (Steps.refl _) (a := x) (argsL := []) (rest := []) (lenOf pd_11 rfl) rfl (by show 2 * 0 + _ ≤ _; exact Nat.le_of_eq rfl) (hb hby d23_1) (fun _ _ => ⟨rfl, e0, (by decide : 0 + 0 ≤ _), (by decide : 0 + 0 ≤ _)⟩)
  dsimp only [Pt.U, Pt.locs, Pt.cells, Pt.slots] at X1 l1 y1 z1 st1 hQ1
  rw [l1, y1, z1] at X1
  change Stand p l e _ _ m _ below meth c T1 _ 0 0 at X1
  obtain ⟨rfl, N1q, eh1⟩ := hQ1
  have N1 := Fr.app N0 N1q
  refine Goes.on (T' := T1) (g' := (mkF m 4 #[.val (.ref x)] [])) ?_ (fun t => st1.trans)
  rw [hWd]
  exact Goes.retn X1 (v := none) (fun fs hr => X1.returnOut hx Bd.returns (hb hby d23_4) hr) (fun _ => rfl) Bd.notSynchronized (by decide) (by decide) (by rw [eh1]; exact ⟨rfl, N1, rfl⟩)
def QHI (Z : State) (x : Addr) (h0 : Heap) (n0 : Nat) (v : Option Value) (h : Heap) (L : List Loc) : Prop := v = none ∧ Fr n0 L ∧ Keep h0 h [x] ∧ Hm0 Z h x
set_option maxRecDepth 65536 in
set_option maxHeartbeats 40000000 in
theorem rmHI (l : Launch) (Z : State) (a0 : Array Value) (hw : ∀ d ∈ tables_1, d.before a0 Z = true) (ws : List Jvm.Cond) (x : Addr) (h0 : Heap) (n0 : Nat) (Z0 : n0 ≤ h0.size) (A : Hm0 Z h0 x) (FL : Fld Z h0 x "java/util/HashMap" "loadFactor" "F" (.float 0)) (ga : n0 ≤ x) :
    MetFree l (⟨"java/util/HashMap", "<init>", "()V"⟩ : MethodName) (head1 (Jvm.Cond.code (⟨"java/util/HashMap", "<init>", "()V"⟩ : MethodName) jdk_69_method_7_code 1 none :: ws) ({ frames := 2, cells := 0, slots := 0, locals := 24 } : Room)) (fun a_ U => a_ = #[(.ref x)] ∧ Z.Warmed39 U.vm ∧ U.heap = h0) (fun _ _ _ _ _ => True) (fun _ U o U' => ∃ v L, o = .returned v ∧ QHI Z x h0 n0 v U'.heap L ∧ FrameEnd U o U' L ({ frames := 2, cells := 0, slots := 0, locals := 24 } : Room).cells ({ frames := 2, cells := 0, slots := 0, locals := 24 } : Room).slots) := by
  refine MetFree.of_bodySF (plainFor_of_name pn_9) hisR ?_
  intro p e s m args below meth c s₁ Bd hml0 hP hK
  obtain ⟨rfl, hZ, hh⟩ := hP
  have hx := Bd.exec
  have hby := Bd.bytes
  have hml : c.maxLocals = 1 := hml0
  have hown : s.vm.findClass "java/util/HashMap" = some m.cls := findClass_of_methodNamed Bd.named
  have hnm := (name_of_methodNamed Bd.named Bd.method).1
  have X0 : Stand p l e ({ frames := 2, cells := 0, slots := 0, locals := 24 } : Room) s m #[(.ref x)] below meth c s₁ [] 0 0 := Stand.of_body Bd
  have e0 : s₁.heap = h0 := by rw [← hh, Bd.state]; rfl
  have N0 := Fr.nil n0
  refine Goes.done ?_
  obtain ⟨W, hWd⟩ : ∃ W : State → Prop, W = EndW s below (QHI Z x h0 n0) ({ frames := 2, cells := 0, slots := 0, locals := 24 } : Room).cells ({ frames := 2, cells := 0, slots := 0, locals := 24 } : Room).slots := ⟨_, rfl⟩
  rw [← hWd]
  have hef : entryFrame m #[(.ref x)] 1 = (mkF m 0 #[.val (.ref x)] []) := by first | (simp [entryFrame, mkF, argsToLocals, Value.category]; done) | rfl
  rw [hef]
  refine Goes.on (T' := s₁) (g' := (mkF m 1 #[.val (.ref x)] [(.ref x)])) ?_ (fun t_ k_ => XS.aloadN X0.here hx rfl (hb hby d20_0) rfl rfl k_)
  obtain ⟨_, _, ⟨T1, Lq_1, kq_1, nq_1⟩, -, X1, ⟨Lc1, hQ1, l1, y1, z1⟩, st1⟩ := X0.specialBack hx (y := (⟨"java/util/AbstractMap", "<init>", "()V"⟩ : MethodName)) rfl hown (mvT hZ (hw _ (List.mem_of_getElem? (i := 126) rfl))) (mvT hZ (hw _ (List.mem_of_getElem? (i := 127) rfl))) (mvT hZ (hw _ (List.mem_of_getElem? (i := 131) rfl))) (by decide) (backOf (W := 0) (rmAM l Z a0 hw [] x h0 n0 Z0) hZ (hw _ (List.mem_of_getElem? (i := 131) rfl)) (hw _ (List.mem_of_getElem? (i := 130) rfl)) (by decide) (by decide)) (g := (mkF m 1 #[.val (.ref x)] [(.ref x)])) rfl (by rw [hml]; rfl) (Steps.refl _) (a := x) (argsL := []) (rest := []) (lenOf pd_11 rfl) rfl (by show 2 * 0 + _ ≤ _; exact Nat.le_of_eq rfl) (hb hby d20_1) (fun _ _ => ⟨rfl, e0, (by decide : 0 + 0 ≤ _), (by decide : 0 + 0 ≤ _)⟩)
  dsimp only [Pt.U, Pt.locs, Pt.cells, Pt.slots] at X1 l1 y1 z1 st1 hQ1
  rw [l1, y1, z1] at X1
  change Stand p l e _ _ m _ below meth c T1 _ 0 0 at X1
  obtain ⟨rfl, N1q, eh1⟩ := hQ1
  have N1 := Fr.app N0 N1q
  refine Goes.on (T' := T1) (g' := (mkF m 4 #[.val (.ref x)] [])) ?_ (fun t => st1.trans)
  refine Goes.on (T' := T1) (g' := (mkF m 5 #[.val (.ref x)] [(.ref x)])) ?_ (fun t_ k_ => XS.aloadN X1.here hx rfl (hb hby d20_4) rfl rfl k_)
  refine Goes.on (T' := T1) (g' := (mkF m 7 #[.val (.ref x)] [(.float (1061158912 : UInt32)), (.ref x)])) ?_ (X1.ldcFloatC hx hown (mvT hZ (hw _ (List.mem_of_getElem? (i := 133) rfl))) (g := (mkF m 5 #[.val (.ref x)] [(.ref x)])) rfl (hb hby d20_5))
  obtain ⟨T2, h2, X2, e2, W2, st2⟩ := putF X1 hx hZ hown (host := "") (Or.inl (hw _ (List.mem_of_getElem? (i := 134) rfl))) Via.refl eh1 FL A.E (Or.inr ⟨(hw _ (List.mem_of_getElem? (i := 135) rfl)), rfl, hnm⟩) (hw _ (List.mem_of_getElem? (i := 121) rfl)) (ty := .float) (by decide) rfl rfl (g := (mkF m 7 #[.val (.ref x)] [(.float (1061158912 : UInt32)), (.ref x)])) rfl rfl (hb hby d20_7)
  have N2 := Fr.snoc X2 N1 ga
  have Z2 : n0 ≤ h2.size := Nat.le_trans Z0 (Nat.le_of_eq W2.size.symm)
  refine Goes.on (T' := T2) (g' := (mkF m 10 #[.val (.ref x)] [])) ?_ st2
  have fx3 := A.E.wr W2
  have fx4 := FL.same W2
  have fx5 := A.T.other W2 (Or.inr (slot_ne (Or.inl (hw _ (List.mem_of_getElem? (i := 201) rfl))) (Or.inr (hw _ (List.mem_of_getElem? (i := 135) rfl))) (by decide) (t := (.array (.object "java/util/HashMap$Node"))) (t' := .float) (by decide) (by decide)))
  have fx6 := A.H.other W2 (Or.inr (slot_ne (Or.inl (hw _ (List.mem_of_getElem? (i := 255) rfl))) (Or.inr (hw _ (List.mem_of_getElem? (i := 135) rfl))) (by decide) (t := .int) (t' := .float) (by decide) (by decide)))
  have fx7 := A.S.other W2 (Or.inr (slot_ne (Or.inl (hw _ (List.mem_of_getElem? (i := 281) rfl))) (Or.inr (hw _ (List.mem_of_getElem? (i := 135) rfl))) (by decide) (t := .int) (t' := .float) (by decide) (by decide)))
  have fx8 := A.C.other W2 (Or.inr (slot_ne (Or.inl (hw _ (List.mem_of_getElem? (i := 279) rfl))) (Or.inr (hw _ (List.mem_of_getElem? (i := 135) rfl))) (by decide) (t := .int) (t' := .float) (by decide) (by decide)))
  rw [hWd]
  exact Goes.retn X2 (v := none) (fun fs hr => X2.returnOut hx Bd.returns (hb hby d20_10) hr) (fun _ => rfl) Bd.notSynchronized (by decide) (by decide) (by rw [e2]; exact ⟨rfl, N2, ((Keep.refl h0 [x]).wr W2 (Or.inl (List.mem_cons_self ..))), fx3, fx5, fx6, fx7, fx8⟩)
def QSI (Z : State) (x : Addr) (h0 : Heap) (n0 : Nat) (v : Option Value) (h : Heap) (L : List Loc) : Prop := v = none ∧ Fr n0 L ∧ Keep h0 h [x]
set_option maxRecDepth 65536 in
set_option maxHeartbeats 40000000 in
theorem rmSI (l : Launch) (Z : State) (a0 : Array Value) (hw : ∀ d ∈ tables_1, d.before a0 Z = true) (ws : List Jvm.Cond) (x : Addr) (h0 : Heap) (n0 : Nat) (Z0 : n0 ≤ h0.size) (E : Exa Z h0 x "java/util/HashSet") (FM : Fld Z h0 x "java/util/HashSet" "map" "Ljava/util/HashMap;" .null) (ga : n0 ≤ x) :
    MetFree l (⟨"java/util/HashSet", "<init>", "()V"⟩ : MethodName) (head1 (Jvm.Cond.code (⟨"java/util/HashSet", "<init>", "()V"⟩ : MethodName) jdk_93_method_1_code 1 none :: ws) ({ frames := 3, cells := 1, slots := 8, locals := 38 } : Room)) (fun a_ U => a_ = #[(.ref x)] ∧ Z.Warmed39 U.vm ∧ U.heap = h0) (fun _ _ _ _ _ => True) (fun _ U o U' => ∃ v L, o = .returned v ∧ QSI Z x h0 n0 v U'.heap L ∧ FrameEnd U o U' L ({ frames := 3, cells := 1, slots := 8, locals := 38 } : Room).cells ({ frames := 3, cells := 1, slots := 8, locals := 38 } : Room).slots) := by
  refine MetFree.of_bodySF (plainFor_of_name pn_10) hisR ?_
  intro p e s m args below meth c s₁ Bd hml0 hP hK
  obtain ⟨rfl, hZ, hh⟩ := hP
  have hx := Bd.exec
  have hby := Bd.bytes
  have hml : c.maxLocals = 1 := hml0
  have hown : s.vm.findClass "java/util/HashSet" = some m.cls := findClass_of_methodNamed Bd.named
  have hnm := (name_of_methodNamed Bd.named Bd.method).1
  have X0 : Stand p l e ({ frames := 3, cells := 1, slots := 8, locals := 38 } : Room) s m #[(.ref x)] below meth c s₁ [] 0 0 := Stand.of_body Bd
  have e0 : s₁.heap = h0 := by rw [← hh, Bd.state]; rfl
  have N0 := Fr.nil n0
  refine Goes.done ?_
  obtain ⟨W, hWd⟩ : ∃ W : State → Prop, W = EndW s below (QSI Z x h0 n0) ({ frames := 3, cells := 1, slots := 8, locals := 38 } : Room).cells ({ frames := 3, cells := 1, slots := 8, locals := 38 } : Room).slots := ⟨_, rfl⟩
  rw [← hWd]
  have hef : entryFrame m #[(.ref x)] 1 = (mkF m 0 #[.val (.ref x)] []) := by first | (simp [entryFrame, mkF, argsToLocals, Value.category]; done) | rfl
  rw [hef]
  refine Goes.on (T' := s₁) (g' := (mkF m 1 #[.val (.ref x)] [(.ref x)])) ?_ (fun t_ k_ => XS.aloadN X0.here hx rfl (hb hby d22_0) rfl rfl k_)
  obtain ⟨_, _, ⟨T1, Lq_1, kq_1, nq_1⟩, -, X1, ⟨Lc1, hQ1, l1, y1, z1⟩, st1⟩ := X0.specialBack hx (y := (⟨"java/util/AbstractSet", "<init>", "()V"⟩ : MethodName)) rfl hown (mvT hZ (hw _ (List.mem_of_getElem? (i := 148) rfl))) (mvT hZ (hw _ (List.mem_of_getElem? (i := 149) rfl))) (mvT hZ (hw _ (List.mem_of_getElem? (i := 153) rfl))) (by decide) (backOf (W := 0) (rmAS l Z a0 hw [] x h0 n0 Z0) hZ (hw _ (List.mem_of_getElem? (i := 153) rfl)) (hw _ (List.mem_of_getElem? (i := 152) rfl)) (by decide) (by decide)) (g := (mkF m 1 #[.val (.ref x)] [(.ref x)])) rfl (by rw [hml]; rfl) (Steps.refl _) (a := x) (argsL := []) (rest := []) (lenOf pd_11 rfl) rfl (by show 2 * 0 + _ ≤ _; exact Nat.le_of_eq rfl) (hb hby d22_1) (fun _ _ => ⟨rfl, e0, (by decide : 0 + 0 ≤ _), (by decide : 0 + 0 ≤ _)⟩)
  dsimp only [Pt.U, Pt.locs, Pt.cells, Pt.slots] at X1 l1 y1 z1 st1 hQ1
  rw [l1, y1, z1] at X1
  change Stand p l e _ _ m _ below meth c T1 _ 0 0 at X1
  obtain ⟨rfl, N1q, eh1⟩ := hQ1
  have N1 := Fr.app N0 N1q
  refine Goes.on (T' := T1) (g' := (mkF m 4 #[.val (.ref x)] [])) ?_ (fun t => st1.trans)
  refine Goes.on (T' := T1) (g' := (mkF m 5 #[.val (.ref x)] [(.ref x)])) ?_ (fun t_ k_ => XS.aloadN X1.here hx rfl (hb hby d22_4) rfl rfl k_)
  have lt0 := E.lt
  obtain ⟨T2, h2, X2, e2, E2, A2, D2, -, st2⟩ := newO X1 hx hZ hown (hw _ (List.mem_of_getElem? (i := 161) rfl)) (hw _ (List.mem_of_getElem? (i := 121) rfl)) (hw _ (List.mem_of_getElem? (i := 122) rfl)) eh1 (g := (mkF m 5 #[.val (.ref x)] [(.ref x)])) rfl (hb hby d22_5) (by decide) (by decide)
  obtain ⟨b2, gb2⟩ : ∃ z, z = h0.size := ⟨_, rfl⟩
  rw [← gb2] at A2 D2 st2
  have Z2 : n0 ≤ h2.size := Nat.le_trans Z0 E2.1
  have g_b2 : n0 ≤ b2 := Nat.le_trans Z0 (Nat.le_of_eq gb2.symm)
  refine Goes.on (T' := T2) (g' := (mkF m 8 #[.val (.ref x)] [(.ref b2), (.ref x)])) ?_ st2
  have F2_table : Fld Z h2 b2 "java/util/HashMap" "table" "[Ljava/util/HashMap$Node;" .null := D2 (Or.inl (hw _ (List.mem_of_getElem? (i := 201) rfl))) (ty := (.array (.object "java/util/HashMap$Node"))) (by decide)
  have F2_threshold : Fld Z h2 b2 "java/util/HashMap" "threshold" "I" (.int (0 : Int32)) := D2 (Or.inl (hw _ (List.mem_of_getElem? (i := 255) rfl))) (ty := .int) (by decide)
  have F2_size : Fld Z h2 b2 "java/util/HashMap" "size" "I" (.int (0 : Int32)) := D2 (Or.inl (hw _ (List.mem_of_getElem? (i := 281) rfl))) (ty := .int) (by decide)
  have F2_modCount : Fld Z h2 b2 "java/util/HashMap" "modCount" "I" (.int (0 : Int32)) := D2 (Or.inl (hw _ (List.mem_of_getElem? (i := 279) rfl))) (ty := .int) (by decide)
  have F2_loadFactor : Fld Z h2 b2 "java/util/HashMap" "loadFactor" "F" (.float 0) := D2 (Or.inr (hw _ (List.mem_of_getElem? (i := 135) rfl))) (ty := .float) (by decide)
  have hm2 : Hm0 Z h2 b2 := ⟨A2, F2_table, F2_threshold, F2_size, F2_modCount⟩
  have fx3 := E.ext E2
  have fx4 := FM.ext E2
  have kp5 := (Keep.refl h0 [x]).ext E2
  refine Goes.on (T' := T2) (g' := (mkF m 9 #[.val (.ref x)] [(.ref b2), (.ref b2), (.ref x)])) ?_ (fun t_ k_ => XS.dup X2.here hx rfl (hb hby d22_8) rfl rfl k_)
  obtain ⟨_, _, ⟨T6, Lq_6, kq_6, nq_6⟩, -, X6, ⟨Lc6, hQ6, l6, y6, z6⟩, st6⟩ := X2.specialBack hx (y := (⟨"java/util/HashMap", "<init>", "()V"⟩ : MethodName)) rfl hown (mvT hZ (hw _ (List.mem_of_getElem? (i := 162) rfl))) (mvT hZ (hw _ (List.mem_of_getElem? (i := 124) rfl))) (mvT hZ (hw _ (List.mem_of_getElem? (i := 125) rfl))) (by decide) (backOf (W := 2) (rmHI l Z a0 hw [] b2 h2 n0 Z2 hm2 F2_loadFactor g_b2) hZ (hw _ (List.mem_of_getElem? (i := 125) rfl)) (hw _ (List.mem_of_getElem? (i := 122) rfl)) (by decide) (by decide)) (g := (mkF m 9 #[.val (.ref x)] [(.ref b2), (.ref b2), (.ref x)])) rfl (by rw [hml]; rfl) (Steps.refl _) (a := b2) (argsL := []) (rest := [(.ref b2), (.ref x)]) (lenOf pd_11 rfl) rfl (by show 2 * 0 + _ ≤ _; exact Nat.le_of_eq rfl) (hb hby d22_9) (fun _ _ => ⟨rfl, e2, (by decide : 1 + 0 ≤ _), (by decide : 8 + 0 ≤ _)⟩)
  dsimp only [Pt.U, Pt.locs, Pt.cells, Pt.slots] at X6 l6 y6 z6 st6 hQ6
  rw [l6, y6, z6] at X6
  change Stand p l e _ _ m _ below meth c T6 _ 1 8 at X6
  obtain ⟨rfl, N6q, K6, -⟩ := hQ6
  have N6 := Fr.app N1 N6q
  refine Goes.on (T' := T6) (g' := (mkF m 12 #[.val (.ref x)] [(.ref b2), (.ref x)])) ?_ (fun t => st6.trans)
  have fx7 := fx3.keep K6
  have fx8 := fx4.keep K6 (ninS (Nat.ne_of_lt (Nat.lt_of_lt_of_le lt0 (Nat.le_of_eq gb2.symm))) nin0)
  have kp9 := kp5.trans K6 (allS (Or.inr (Nat.le_of_eq gb2.symm)) all0)
  have Zc : n0 ≤ T6.heap.size := Nat.le_trans Z2 K6.1
  obtain ⟨T10, h10, X10, e10, W10, st10⟩ := putF X6 hx hZ hown (host := "") (Or.inl (hw _ (List.mem_of_getElem? (i := 164) rfl))) Via.refl rfl fx8 fx7 (Or.inl (hw _ (List.mem_of_getElem? (i := 165) rfl))) (hw _ (List.mem_of_getElem? (i := 143) rfl)) (ty := (.object "java/util/HashMap")) (by decide) rfl rfl (g := (mkF m 12 #[.val (.ref x)] [(.ref b2), (.ref x)])) rfl rfl (hb hby d22_12)
  have N10 := Fr.snoc X10 N6 ga
  have Z10 : n0 ≤ h10.size := Nat.le_trans Zc (Nat.le_of_eq W10.size.symm)
  refine Goes.on (T' := T10) (g' := (mkF m 15 #[.val (.ref x)] [])) ?_ st10
  have kp11 := kp9.wr W10 (Or.inl (by simp))
  rw [hWd]
  exact Goes.retn X10 (v := none) (fun fs hr => X10.returnOut hx Bd.returns (hb hby d22_15) hr) (fun _ => rfl) Bd.notSynchronized (by decide) (by decide) (by rw [e10]; exact ⟨rfl, N10, kp11⟩)
def QOI (Z : State) (x nm : Addr) (h0 : Heap) (n0 : Nat) (v : Option Value) (h : Heap) (L : List Loc) : Prop := v = none ∧ Fr n0 L ∧ Keep h0 h [x] ∧ ∃ mr mp, Exa Z h x "com/example/entitlement/entitlement/ObjectType" ∧ Fld Z h x "com/example/entitlement/entitlement/ObjectType" "relations" "Ljava/util/Map;" (.ref mr) ∧ Fld Z h x "com/example/entitlement/entitlement/ObjectType" "permissions" "Ljava/util/Map;" (.ref mp) ∧ Fld Z h x "com/example/entitlement/entitlement/ObjectType" "actionPermission" "Lcom/example/entitlement/entitlement/Expression;" .null ∧ Hm0 Z h mr ∧ Hm0 Z h mp ∧ mr ≠ mp ∧ h0.size ≤ mr ∧ h0.size ≤ mp
set_option maxRecDepth 65536 in
set_option maxHeartbeats 40000000 in
theorem rmOI (l : Launch) (Z : State) (a0 : Array Value) (hw : ∀ d ∈ tables_1, d.before a0 Z = true) (ws : List Jvm.Cond) (x nm : Addr) (h0 : Heap) (n0 : Nat) (Z0 : n0 ≤ h0.size) (E : Exa Z h0 x "com/example/entitlement/entitlement/ObjectType") (ga : n0 ≤ x) (F0 : Fld Z h0 x "com/example/entitlement/entitlement/ObjectType" "relations" "Ljava/util/Map;" .null) (F1 : Fld Z h0 x "com/example/entitlement/entitlement/ObjectType" "permissions" "Ljava/util/Map;" .null) (F2 : Fld Z h0 x "com/example/entitlement/entitlement/ObjectType" "exclusiveSets" "Ljava/util/Map;" .null) (F3 : Fld Z h0 x "com/example/entitlement/entitlement/ObjectType" "single" "Ljava/util/Set;" .null) (F4 : Fld Z h0 x "com/example/entitlement/entitlement/ObjectType" "readBackwards" "Ljava/util/Map;" .null) (F5 : Fld Z h0 x "com/example/entitlement/entitlement/ObjectType" "anchors" "Ljava/util/Map;" .null) (F6 : Fld Z h0 x "com/example/entitlement/entitlement/ObjectType" "name" "Ljava/lang/String;" .null) (F7 : Fld Z h0 x "com/example/entitlement/entitlement/ObjectType" "actionPermission" "Lcom/example/entitlement/entitlement/Expression;" .null) :
    MetFree l (⟨"com/example/entitlement/entitlement/ObjectType", "<init>", "(Ljava/lang/String;)V"⟩ : MethodName) (head1 (Jvm.Cond.code (⟨"com/example/entitlement/entitlement/ObjectType", "<init>", "(Ljava/lang/String;)V"⟩ : MethodName) prog_20_method_1_code 2 none :: ws) ({ frames := 4, cells := 7, slots := 49, locals := 52 } : Room)) (fun a_ U => a_ = #[(.ref x), (.ref nm)] ∧ Z.Warmed39 U.vm ∧ U.heap = h0) (fun _ _ _ _ _ => True) (fun _ U o U' => ∃ v L, o = .returned v ∧ QOI Z x nm h0 n0 v U'.heap L ∧ FrameEnd U o U' L ({ frames := 4, cells := 7, slots := 49, locals := 52 } : Room).cells ({ frames := 4, cells := 7, slots := 49, locals := 52 } : Room).slots) := by
  refine MetFree.of_bodySF (plainFor_of_name pn_11) hisR ?_
  intro p e s m args below meth c s₁ Bd hml0 hP hK
  obtain ⟨rfl, hZ, hh⟩ := hP
  have hx := Bd.exec
  have hby := Bd.bytes
  have hml : c.maxLocals = 2 := hml0
  have hown : s.vm.findClass "com/example/entitlement/entitlement/ObjectType" = some m.cls := findClass_of_methodNamed Bd.named
  have hnm := (name_of_methodNamed Bd.named Bd.method).1
  have X0 : Stand p l e ({ frames := 4, cells := 7, slots := 49, locals := 52 } : Room) s m #[(.ref x), (.ref nm)] below meth c s₁ [] 0 0 := Stand.of_body Bd
  have e0 : s₁.heap = h0 := by rw [← hh, Bd.state]; rfl
  have N0 := Fr.nil n0
  refine Goes.done ?_
  obtain ⟨W, hWd⟩ : ∃ W : State → Prop, W = EndW s below (QOI Z x nm h0 n0) ({ frames := 4, cells := 7, slots := 49, locals := 52 } : Room).cells ({ frames := 4, cells := 7, slots := 49, locals := 52 } : Room).slots := ⟨_, rfl⟩
  rw [← hWd]
  have hef : entryFrame m #[(.ref x), (.ref nm)] 2 = (mkF m 0 #[.val (.ref x), .val (.ref nm)] []) := by first | (simp [entryFrame, mkF, argsToLocals, Value.category]; done) | rfl
  rw [hef]
  refine Goes.on (T' := s₁) (g' := (mkF m 1 #[.val (.ref x), .val (.ref nm)] [(.ref x)])) ?_ (fun t_ k_ => XS.aloadN X0.here hx rfl (hb hby d19_0) rfl rfl k_)
  obtain ⟨T1, X1, e1, st1⟩ := initO X0 hx hZ hown (hw _ (List.mem_of_getElem? (i := 119) rfl)) (hw _ (List.mem_of_getElem? (i := 12) rfl)) (hw _ (List.mem_of_getElem? (i := 13) rfl)) e0 (g := (mkF m 1 #[.val (.ref x), .val (.ref nm)] [(.ref x)])) rfl (by rw [hml]; rfl) rfl (hb hby d19_1) (by decide) (W := 0) (by show 2 * 0 + _ ≤ _; exact Nat.le_of_eq rfl) (by decide)
  refine Goes.on (T' := T1) (g' := (mkF m 4 #[.val (.ref x), .val (.ref nm)] [])) ?_ st1
  refine Goes.on (T' := T1) (g' := (mkF m 5 #[.val (.ref x), .val (.ref nm)] [(.ref x)])) ?_ (fun t_ k_ => XS.aloadN X1.here hx rfl (hb hby d19_4) rfl rfl k_)
  have lt1 := E.lt
  obtain ⟨T2, h2, X2, e2, E2, A2, D2, -, st2⟩ := newO X1 hx hZ hown (hw _ (List.mem_of_getElem? (i := 120) rfl)) (hw _ (List.mem_of_getElem? (i := 121) rfl)) (hw _ (List.mem_of_getElem? (i := 122) rfl)) e1 (g := (mkF m 5 #[.val (.ref x), .val (.ref nm)] [(.ref x)])) rfl (hb hby d19_5) (by decide) (by decide)
  obtain ⟨b2, gb2⟩ : ∃ z, z = h0.size := ⟨_, rfl⟩
  rw [← gb2] at A2 D2 st2
  have Z2 : n0 ≤ h2.size := Nat.le_trans Z0 E2.1
  have g_b2 : n0 ≤ b2 := Nat.le_trans Z0 (Nat.le_of_eq gb2.symm)
  refine Goes.on (T' := T2) (g' := (mkF m 8 #[.val (.ref x), .val (.ref nm)] [(.ref b2), (.ref x)])) ?_ st2
  have F2_table : Fld Z h2 b2 "java/util/HashMap" "table" "[Ljava/util/HashMap$Node;" .null := D2 (Or.inl (hw _ (List.mem_of_getElem? (i := 201) rfl))) (ty := (.array (.object "java/util/HashMap$Node"))) (by decide)
  have F2_threshold : Fld Z h2 b2 "java/util/HashMap" "threshold" "I" (.int (0 : Int32)) := D2 (Or.inl (hw _ (List.mem_of_getElem? (i := 255) rfl))) (ty := .int) (by decide)
  have F2_size : Fld Z h2 b2 "java/util/HashMap" "size" "I" (.int (0 : Int32)) := D2 (Or.inl (hw _ (List.mem_of_getElem? (i := 281) rfl))) (ty := .int) (by decide)
  have F2_modCount : Fld Z h2 b2 "java/util/HashMap" "modCount" "I" (.int (0 : Int32)) := D2 (Or.inl (hw _ (List.mem_of_getElem? (i := 279) rfl))) (ty := .int) (by decide)
  have F2_loadFactor : Fld Z h2 b2 "java/util/HashMap" "loadFactor" "F" (.float 0) := D2 (Or.inr (hw _ (List.mem_of_getElem? (i := 135) rfl))) (ty := .float) (by decide)
  have hm2 : Hm0 Z h2 b2 := ⟨A2, F2_table, F2_threshold, F2_size, F2_modCount⟩
  have fx3 := F0.ext E2
  have fx4 := F1.ext E2
  have fx5 := F2.ext E2
  have fx6 := F3.ext E2
  have fx7 := F4.ext E2
  have fx8 := F5.ext E2
  have fx9 := F6.ext E2
  have fx10 := F7.ext E2
  have fx11 := E.ext E2
  have kp12 := (Keep.refl h0 [x]).ext E2
  have ke2 : Keep _ _ [] := (Keep.refl _ []).ext E2
  have sz2 : h0.size ≤ b2 := Nat.le_trans (Keep.refl h0 [x]).1 (Nat.le_of_eq gb2.symm)
  refine Goes.on (T' := T2) (g' := (mkF m 9 #[.val (.ref x), .val (.ref nm)] [(.ref b2), (.ref b2), (.ref x)])) ?_ (fun t_ k_ => XS.dup X2.here hx rfl (hb hby d19_8) rfl rfl k_)
  obtain ⟨_, _, ⟨T13, Lq_13, kq_13, nq_13⟩, -, X13, ⟨Lc13, hQ13, l13, y13, z13⟩, st13⟩ := X2.specialBack hx (y := (⟨"java/util/HashMap", "<init>", "()V"⟩ : MethodName)) rfl hown (mvT hZ (hw _ (List.mem_of_getElem? (i := 123) rfl))) (mvT hZ (hw _ (List.mem_of_getElem? (i := 124) rfl))) (mvT hZ (hw _ (List.mem_of_getElem? (i := 125) rfl))) (by decide) (backOf (W := 2) (rmHI l Z a0 hw [] b2 h2 n0 Z2 hm2 F2_loadFactor g_b2) hZ (hw _ (List.mem_of_getElem? (i := 125) rfl)) (hw _ (List.mem_of_getElem? (i := 122) rfl)) (by decide) (by decide)) (g := (mkF m 9 #[.val (.ref x), .val (.ref nm)] [(.ref b2), (.ref b2), (.ref x)])) rfl (by rw [hml]; rfl) (Steps.refl _) (a := b2) (argsL := []) (rest := [(.ref b2), (.ref x)]) (lenOf pd_11 rfl) rfl (by show 2 * 0 + _ ≤ _; exact Nat.le_of_eq rfl) (hb hby d19_9) (fun _ _ => ⟨rfl, e2, (by decide : 1 + 0 ≤ _), (by decide : 8 + 0 ≤ _)⟩)
  dsimp only [Pt.U, Pt.locs, Pt.cells, Pt.slots] at X13 l13 y13 z13 st13 hQ13
  rw [l13, y13, z13] at X13
  change Stand p l e _ _ m _ below meth c T13 _ 1 8 at X13
  obtain ⟨rfl, N13q, K13, hn13⟩ := hQ13
  have N13 := Fr.app N0 N13q
  refine Goes.on (T' := T13) (g' := (mkF m 12 #[.val (.ref x), .val (.ref nm)] [(.ref b2), (.ref x)])) ?_ (fun t => st13.trans)
  have fx14 := fx3.keep K13 (ninS (Nat.ne_of_lt (Nat.lt_of_lt_of_le lt1 (Nat.le_of_eq gb2.symm))) nin0)
  have fx15 := fx4.keep K13 (ninS (Nat.ne_of_lt (Nat.lt_of_lt_of_le lt1 (Nat.le_of_eq gb2.symm))) nin0)
  have fx16 := fx5.keep K13 (ninS (Nat.ne_of_lt (Nat.lt_of_lt_of_le lt1 (Nat.le_of_eq gb2.symm))) nin0)
  have fx17 := fx6.keep K13 (ninS (Nat.ne_of_lt (Nat.lt_of_lt_of_le lt1 (Nat.le_of_eq gb2.symm))) nin0)
  have fx18 := fx7.keep K13 (ninS (Nat.ne_of_lt (Nat.lt_of_lt_of_le lt1 (Nat.le_of_eq gb2.symm))) nin0)
  have fx19 := fx8.keep K13 (ninS (Nat.ne_of_lt (Nat.lt_of_lt_of_le lt1 (Nat.le_of_eq gb2.symm))) nin0)
  have fx20 := fx9.keep K13 (ninS (Nat.ne_of_lt (Nat.lt_of_lt_of_le lt1 (Nat.le_of_eq gb2.symm))) nin0)
  have fx21 := fx10.keep K13 (ninS (Nat.ne_of_lt (Nat.lt_of_lt_of_le lt1 (Nat.le_of_eq gb2.symm))) nin0)
  have fx22 := fx11.keep K13
  have kp23 := kp12.trans K13 (allS (Or.inr sz2) all0)
  have Zc13 : n0 ≤ T13.heap.size := Nat.le_trans Z2 K13.1
  obtain ⟨T24, h24, X24, e24, W24, st24⟩ := putF X13 hx hZ hown (host := "") (Or.inl (hw _ (List.mem_of_getElem? (i := 136) rfl))) Via.refl rfl fx14 fx22 (Or.inr ⟨(hw _ (List.mem_of_getElem? (i := 137) rfl)), rfl, hnm⟩) (hw _ (List.mem_of_getElem? (i := 114) rfl)) (ty := (.object "java/util/Map")) (by decide) rfl rfl (g := (mkF m 12 #[.val (.ref x), .val (.ref nm)] [(.ref b2), (.ref x)])) rfl rfl (hb hby d19_12)
  have N24 := Fr.snoc X24 N13 ga
  have Z24 : n0 ≤ h24.size := Nat.le_trans Zc13 (Nat.le_of_eq W24.size.symm)
  refine Goes.on (T' := T24) (g' := (mkF m 15 #[.val (.ref x), .val (.ref nm)] [])) ?_ st24
  have fx25 := fx14.same W24
  have fx26 := fx15.other W24 (Or.inr (slot_ne (Or.inr (hw _ (List.mem_of_getElem? (i := 139) rfl))) (Or.inr (hw _ (List.mem_of_getElem? (i := 137) rfl))) (by decide) (t := (.object "java/util/Map")) (t' := (.object "java/util/Map")) (by decide) (by decide)))
  have fx27 := fx16.other W24 (Or.inr (slot_ne (Or.inr (hw _ (List.mem_of_getElem? (i := 141) rfl))) (Or.inr (hw _ (List.mem_of_getElem? (i := 137) rfl))) (by decide) (t := (.object "java/util/Map")) (t' := (.object "java/util/Map")) (by decide) (by decide)))
  have fx28 := fx17.other W24 (Or.inr (slot_ne (Or.inr (hw _ (List.mem_of_getElem? (i := 167) rfl))) (Or.inr (hw _ (List.mem_of_getElem? (i := 137) rfl))) (by decide) (t := (.object "java/util/Set")) (t' := (.object "java/util/Map")) (by decide) (by decide)))
  have fx29 := fx18.other W24 (Or.inr (slot_ne (Or.inr (hw _ (List.mem_of_getElem? (i := 169) rfl))) (Or.inr (hw _ (List.mem_of_getElem? (i := 137) rfl))) (by decide) (t := (.object "java/util/Map")) (t' := (.object "java/util/Map")) (by decide) (by decide)))
  have fx30 := fx19.other W24 (Or.inr (slot_ne (Or.inr (hw _ (List.mem_of_getElem? (i := 171) rfl))) (Or.inr (hw _ (List.mem_of_getElem? (i := 137) rfl))) (by decide) (t := (.object "java/util/Map")) (t' := (.object "java/util/Map")) (by decide) (by decide)))
  have fx31 := fx20.other W24 (Or.inr (slot_ne (Or.inr (hw _ (List.mem_of_getElem? (i := 173) rfl))) (Or.inr (hw _ (List.mem_of_getElem? (i := 137) rfl))) (by decide) (t := (.object "java/lang/String")) (t' := (.object "java/util/Map")) (by decide) (by decide)))
  have fx32 := fx21.other W24 (Or.inr (slot_ne (Or.inl (hw _ (List.mem_of_getElem? (i := 180) rfl))) (Or.inr (hw _ (List.mem_of_getElem? (i := 137) rfl))) (by decide) (t := (.object "com/example/entitlement/entitlement/Expression")) (t' := (.object "java/util/Map")) (by decide) (by decide)))
  have fx33 := fx22.wr W24
  have kp34 := kp23.wr W24 (Or.inl (by simp))
  have kw24 : Keep _ _ [x] := (Keep.refl _ [x]).wr W24 (Or.inl (List.mem_cons_self ..))
  have hq35 := hn13.keep kw24 (ninS (Ne.symm (Nat.ne_of_lt (Nat.lt_of_lt_of_le lt1 (Nat.le_of_eq gb2.symm)))) nin0)
  refine Goes.on (T' := T24) (g' := (mkF m 16 #[.val (.ref x), .val (.ref nm)] [(.ref x)])) ?_ (fun t_ k_ => XS.aloadN X24.here hx rfl (hb hby d19_15) rfl rfl k_)
  have lt35 := fx33.lt
  obtain ⟨T36, h36, X36, e36, E36, A36, D36, -, st36⟩ := newO X24 hx hZ hown (hw _ (List.mem_of_getElem? (i := 120) rfl)) (hw _ (List.mem_of_getElem? (i := 121) rfl)) (hw _ (List.mem_of_getElem? (i := 122) rfl)) e24 (g := (mkF m 16 #[.val (.ref x), .val (.ref nm)] [(.ref x)])) rfl (hb hby d19_16) (by decide) (by decide)
  obtain ⟨b36, gb36⟩ : ∃ z, z = h24.size := ⟨_, rfl⟩
  rw [← gb36] at A36 D36 st36
  have Z36 : n0 ≤ h36.size := Nat.le_trans Z24 E36.1
  have g_b36 : n0 ≤ b36 := Nat.le_trans Z24 (Nat.le_of_eq gb36.symm)
  refine Goes.on (T' := T36) (g' := (mkF m 19 #[.val (.ref x), .val (.ref nm)] [(.ref b36), (.ref x)])) ?_ st36
  have F36_table : Fld Z h36 b36 "java/util/HashMap" "table" "[Ljava/util/HashMap$Node;" .null := D36 (Or.inl (hw _ (List.mem_of_getElem? (i := 201) rfl))) (ty := (.array (.object "java/util/HashMap$Node"))) (by decide)
  have F36_threshold : Fld Z h36 b36 "java/util/HashMap" "threshold" "I" (.int (0 : Int32)) := D36 (Or.inl (hw _ (List.mem_of_getElem? (i := 255) rfl))) (ty := .int) (by decide)
  have F36_size : Fld Z h36 b36 "java/util/HashMap" "size" "I" (.int (0 : Int32)) := D36 (Or.inl (hw _ (List.mem_of_getElem? (i := 281) rfl))) (ty := .int) (by decide)
  have F36_modCount : Fld Z h36 b36 "java/util/HashMap" "modCount" "I" (.int (0 : Int32)) := D36 (Or.inl (hw _ (List.mem_of_getElem? (i := 279) rfl))) (ty := .int) (by decide)
  have F36_loadFactor : Fld Z h36 b36 "java/util/HashMap" "loadFactor" "F" (.float 0) := D36 (Or.inr (hw _ (List.mem_of_getElem? (i := 135) rfl))) (ty := .float) (by decide)
  have hm36 : Hm0 Z h36 b36 := ⟨A36, F36_table, F36_threshold, F36_size, F36_modCount⟩
  have fx37 := fx25.ext E36
  have fx38 := fx26.ext E36
  have fx39 := fx27.ext E36
  have fx40 := fx28.ext E36
  have fx41 := fx29.ext E36
  have fx42 := fx30.ext E36
  have fx43 := fx31.ext E36
  have fx44 := fx32.ext E36
  have fx45 := fx33.ext E36
  have kp46 := kp34.ext E36
  have ke36 : Keep _ _ [] := (Keep.refl _ []).ext E36
  have sz36 : h0.size ≤ b36 := Nat.le_trans kp34.1 (Nat.le_of_eq gb36.symm)
  have nqb2_36 : b2 ≠ b36 := Nat.ne_of_lt (Nat.lt_of_lt_of_le hq35.E.lt (Nat.le_of_eq gb36.symm))
  have hq47 := hq35.keep ke36 nin0
  refine Goes.on (T' := T36) (g' := (mkF m 20 #[.val (.ref x), .val (.ref nm)] [(.ref b36), (.ref b36), (.ref x)])) ?_ (fun t_ k_ => XS.dup X36.here hx rfl (hb hby d19_19) rfl rfl k_)
  obtain ⟨_, _, ⟨T48, Lq_48, kq_48, nq_48⟩, -, X48, ⟨Lc48, hQ48, l48, y48, z48⟩, st48⟩ := X36.specialBack hx (y := (⟨"java/util/HashMap", "<init>", "()V"⟩ : MethodName)) rfl hown (mvT hZ (hw _ (List.mem_of_getElem? (i := 123) rfl))) (mvT hZ (hw _ (List.mem_of_getElem? (i := 124) rfl))) (mvT hZ (hw _ (List.mem_of_getElem? (i := 125) rfl))) (by decide) (backOf (W := 2) (rmHI l Z a0 hw [] b36 h36 n0 Z36 hm36 F36_loadFactor g_b36) hZ (hw _ (List.mem_of_getElem? (i := 125) rfl)) (hw _ (List.mem_of_getElem? (i := 122) rfl)) (by decide) (by decide)) (g := (mkF m 20 #[.val (.ref x), .val (.ref nm)] [(.ref b36), (.ref b36), (.ref x)])) rfl (by rw [hml]; rfl) (Steps.refl _) (a := b36) (argsL := []) (rest := [(.ref b36), (.ref x)]) (lenOf pd_11 rfl) rfl (by show 2 * 0 + _ ≤ _; exact Nat.le_of_eq rfl) (hb hby d19_20) (fun _ _ => ⟨rfl, e36, (by decide : 2 + 0 ≤ _), (by decide : 16 + 0 ≤ _)⟩)
  dsimp only [Pt.U, Pt.locs, Pt.cells, Pt.slots] at X48 l48 y48 z48 st48 hQ48
  rw [l48, y48, z48] at X48
  change Stand p l e _ _ m _ below meth c T48 _ 2 16 at X48
  obtain ⟨rfl, N48q, K48, hn48⟩ := hQ48
  have N48 := Fr.app N24 N48q
  refine Goes.on (T' := T48) (g' := (mkF m 23 #[.val (.ref x), .val (.ref nm)] [(.ref b36), (.ref x)])) ?_ (fun t => st48.trans)
  have fx49 := fx37.keep K48 (ninS (Nat.ne_of_lt (Nat.lt_of_lt_of_le lt35 (Nat.le_of_eq gb36.symm))) nin0)
  have fx50 := fx38.keep K48 (ninS (Nat.ne_of_lt (Nat.lt_of_lt_of_le lt35 (Nat.le_of_eq gb36.symm))) nin0)
  have fx51 := fx39.keep K48 (ninS (Nat.ne_of_lt (Nat.lt_of_lt_of_le lt35 (Nat.le_of_eq gb36.symm))) nin0)
  have fx52 := fx40.keep K48 (ninS (Nat.ne_of_lt (Nat.lt_of_lt_of_le lt35 (Nat.le_of_eq gb36.symm))) nin0)
  have fx53 := fx41.keep K48 (ninS (Nat.ne_of_lt (Nat.lt_of_lt_of_le lt35 (Nat.le_of_eq gb36.symm))) nin0)
  have fx54 := fx42.keep K48 (ninS (Nat.ne_of_lt (Nat.lt_of_lt_of_le lt35 (Nat.le_of_eq gb36.symm))) nin0)
  have fx55 := fx43.keep K48 (ninS (Nat.ne_of_lt (Nat.lt_of_lt_of_le lt35 (Nat.le_of_eq gb36.symm))) nin0)
  have fx56 := fx44.keep K48 (ninS (Nat.ne_of_lt (Nat.lt_of_lt_of_le lt35 (Nat.le_of_eq gb36.symm))) nin0)
  have fx57 := fx45.keep K48
  have hq58 := hq47.keep K48 (ninS nqb2_36 nin0)
  have kp59 := kp46.trans K48 (allS (Or.inr sz36) all0)
  have Zc48 : n0 ≤ T48.heap.size := Nat.le_trans Z36 K48.1
  obtain ⟨T60, h60, X60, e60, W60, st60⟩ := putF X48 hx hZ hown (host := "") (Or.inl (hw _ (List.mem_of_getElem? (i := 138) rfl))) Via.refl rfl fx50 fx57 (Or.inr ⟨(hw _ (List.mem_of_getElem? (i := 139) rfl)), rfl, hnm⟩) (hw _ (List.mem_of_getElem? (i := 114) rfl)) (ty := (.object "java/util/Map")) (by decide) rfl rfl (g := (mkF m 23 #[.val (.ref x), .val (.ref nm)] [(.ref b36), (.ref x)])) rfl rfl (hb hby d19_23)
  have N60 := Fr.snoc X60 N48 ga
  have Z60 : n0 ≤ h60.size := Nat.le_trans Zc48 (Nat.le_of_eq W60.size.symm)
  refine Goes.on (T' := T60) (g' := (mkF m 26 #[.val (.ref x), .val (.ref nm)] [])) ?_ st60
  have fx61 := fx49.other W60 (Or.inr (slot_ne (Or.inr (hw _ (List.mem_of_getElem? (i := 137) rfl))) (Or.inr (hw _ (List.mem_of_getElem? (i := 139) rfl))) (by decide) (t := (.object "java/util/Map")) (t' := (.object "java/util/Map")) (by decide) (by decide)))
  have fx62 := fx50.same W60
  have fx63 := fx51.other W60 (Or.inr (slot_ne (Or.inr (hw _ (List.mem_of_getElem? (i := 141) rfl))) (Or.inr (hw _ (List.mem_of_getElem? (i := 139) rfl))) (by decide) (t := (.object "java/util/Map")) (t' := (.object "java/util/Map")) (by decide) (by decide)))
  have fx64 := fx52.other W60 (Or.inr (slot_ne (Or.inr (hw _ (List.mem_of_getElem? (i := 167) rfl))) (Or.inr (hw _ (List.mem_of_getElem? (i := 139) rfl))) (by decide) (t := (.object "java/util/Set")) (t' := (.object "java/util/Map")) (by decide) (by decide)))
  have fx65 := fx53.other W60 (Or.inr (slot_ne (Or.inr (hw _ (List.mem_of_getElem? (i := 169) rfl))) (Or.inr (hw _ (List.mem_of_getElem? (i := 139) rfl))) (by decide) (t := (.object "java/util/Map")) (t' := (.object "java/util/Map")) (by decide) (by decide)))
  have fx66 := fx54.other W60 (Or.inr (slot_ne (Or.inr (hw _ (List.mem_of_getElem? (i := 171) rfl))) (Or.inr (hw _ (List.mem_of_getElem? (i := 139) rfl))) (by decide) (t := (.object "java/util/Map")) (t' := (.object "java/util/Map")) (by decide) (by decide)))
  have fx67 := fx55.other W60 (Or.inr (slot_ne (Or.inr (hw _ (List.mem_of_getElem? (i := 173) rfl))) (Or.inr (hw _ (List.mem_of_getElem? (i := 139) rfl))) (by decide) (t := (.object "java/lang/String")) (t' := (.object "java/util/Map")) (by decide) (by decide)))
  have fx68 := fx56.other W60 (Or.inr (slot_ne (Or.inl (hw _ (List.mem_of_getElem? (i := 180) rfl))) (Or.inr (hw _ (List.mem_of_getElem? (i := 139) rfl))) (by decide) (t := (.object "com/example/entitlement/entitlement/Expression")) (t' := (.object "java/util/Map")) (by decide) (by decide)))
  have fx69 := fx57.wr W60
  have kp70 := kp59.wr W60 (Or.inl (by simp))
  have kw60 : Keep _ _ [x] := (Keep.refl _ [x]).wr W60 (Or.inl (List.mem_cons_self ..))
  have hq71 := hq58.keep kw60 (ninS (Ne.symm (Nat.ne_of_lt (Nat.lt_of_lt_of_le lt1 (Nat.le_of_eq gb2.symm)))) nin0)
  have hq72 := hn48.keep kw60 (ninS (Ne.symm (Nat.ne_of_lt (Nat.lt_of_lt_of_le lt35 (Nat.le_of_eq gb36.symm)))) nin0)
  refine Goes.on (T' := T60) (g' := (mkF m 27 #[.val (.ref x), .val (.ref nm)] [(.ref x)])) ?_ (fun t_ k_ => XS.aloadN X60.here hx rfl (hb hby d19_26) rfl rfl k_)
  have lt72 := fx69.lt
  obtain ⟨T73, h73, X73, e73, E73, A73, D73, -, st73⟩ := newO X60 hx hZ hown (hw _ (List.mem_of_getElem? (i := 120) rfl)) (hw _ (List.mem_of_getElem? (i := 121) rfl)) (hw _ (List.mem_of_getElem? (i := 122) rfl)) e60 (g := (mkF m 27 #[.val (.ref x), .val (.ref nm)] [(.ref x)])) rfl (hb hby d19_27) (by decide) (by decide)
  obtain ⟨b73, gb73⟩ : ∃ z, z = h60.size := ⟨_, rfl⟩
  rw [← gb73] at A73 D73 st73
  have Z73 : n0 ≤ h73.size := Nat.le_trans Z60 E73.1
  have g_b73 : n0 ≤ b73 := Nat.le_trans Z60 (Nat.le_of_eq gb73.symm)
  refine Goes.on (T' := T73) (g' := (mkF m 30 #[.val (.ref x), .val (.ref nm)] [(.ref b73), (.ref x)])) ?_ st73
  have F73_table : Fld Z h73 b73 "java/util/HashMap" "table" "[Ljava/util/HashMap$Node;" .null := D73 (Or.inl (hw _ (List.mem_of_getElem? (i := 201) rfl))) (ty := (.array (.object "java/util/HashMap$Node"))) (by decide)
  have F73_threshold : Fld Z h73 b73 "java/util/HashMap" "threshold" "I" (.int (0 : Int32)) := D73 (Or.inl (hw _ (List.mem_of_getElem? (i := 255) rfl))) (ty := .int) (by decide)
  have F73_size : Fld Z h73 b73 "java/util/HashMap" "size" "I" (.int (0 : Int32)) := D73 (Or.inl (hw _ (List.mem_of_getElem? (i := 281) rfl))) (ty := .int) (by decide)
  have F73_modCount : Fld Z h73 b73 "java/util/HashMap" "modCount" "I" (.int (0 : Int32)) := D73 (Or.inl (hw _ (List.mem_of_getElem? (i := 279) rfl))) (ty := .int) (by decide)
  have F73_loadFactor : Fld Z h73 b73 "java/util/HashMap" "loadFactor" "F" (.float 0) := D73 (Or.inr (hw _ (List.mem_of_getElem? (i := 135) rfl))) (ty := .float) (by decide)
  have hm73 : Hm0 Z h73 b73 := ⟨A73, F73_table, F73_threshold, F73_size, F73_modCount⟩
  have fx74 := fx61.ext E73
  have fx75 := fx62.ext E73
  have fx76 := fx63.ext E73
  have fx77 := fx64.ext E73
  have fx78 := fx65.ext E73
  have fx79 := fx66.ext E73
  have fx80 := fx67.ext E73
  have fx81 := fx68.ext E73
  have fx82 := fx69.ext E73
  have kp83 := kp70.ext E73
  have ke73 : Keep _ _ [] := (Keep.refl _ []).ext E73
  have sz73 : h0.size ≤ b73 := Nat.le_trans kp70.1 (Nat.le_of_eq gb73.symm)
  have nqb2_73 : b2 ≠ b73 := Nat.ne_of_lt (Nat.lt_of_lt_of_le hq71.E.lt (Nat.le_of_eq gb73.symm))
  have nqb36_73 : b36 ≠ b73 := Nat.ne_of_lt (Nat.lt_of_lt_of_le hq72.E.lt (Nat.le_of_eq gb73.symm))
  have hq84 := hq71.keep ke73 nin0
  have hq85 := hq72.keep ke73 nin0
  refine Goes.on (T' := T73) (g' := (mkF m 31 #[.val (.ref x), .val (.ref nm)] [(.ref b73), (.ref b73), (.ref x)])) ?_ (fun t_ k_ => XS.dup X73.here hx rfl (hb hby d19_30) rfl rfl k_)
  obtain ⟨_, _, ⟨T86, Lq_86, kq_86, nq_86⟩, -, X86, ⟨Lc86, hQ86, l86, y86, z86⟩, st86⟩ := X73.specialBack hx (y := (⟨"java/util/HashMap", "<init>", "()V"⟩ : MethodName)) rfl hown (mvT hZ (hw _ (List.mem_of_getElem? (i := 123) rfl))) (mvT hZ (hw _ (List.mem_of_getElem? (i := 124) rfl))) (mvT hZ (hw _ (List.mem_of_getElem? (i := 125) rfl))) (by decide) (backOf (W := 2) (rmHI l Z a0 hw [] b73 h73 n0 Z73 hm73 F73_loadFactor g_b73) hZ (hw _ (List.mem_of_getElem? (i := 125) rfl)) (hw _ (List.mem_of_getElem? (i := 122) rfl)) (by decide) (by decide)) (g := (mkF m 31 #[.val (.ref x), .val (.ref nm)] [(.ref b73), (.ref b73), (.ref x)])) rfl (by rw [hml]; rfl) (Steps.refl _) (a := b73) (argsL := []) (rest := [(.ref b73), (.ref x)]) (lenOf pd_11 rfl) rfl (by show 2 * 0 + _ ≤ _; exact Nat.le_of_eq rfl) (hb hby d19_31) (fun _ _ => ⟨rfl, e73, (by decide : 3 + 0 ≤ _), (by decide : 24 + 0 ≤ _)⟩)
  dsimp only [Pt.U, Pt.locs, Pt.cells, Pt.slots] at X86 l86 y86 z86 st86 hQ86
  rw [l86, y86, z86] at X86
  change Stand p l e _ _ m _ below meth c T86 _ 3 24 at X86
  obtain ⟨rfl, N86q, K86, hn86⟩ := hQ86
  have N86 := Fr.app N60 N86q
  refine Goes.on (T' := T86) (g' := (mkF m 34 #[.val (.ref x), .val (.ref nm)] [(.ref b73), (.ref x)])) ?_ (fun t => st86.trans)
  have fx87 := fx74.keep K86 (ninS (Nat.ne_of_lt (Nat.lt_of_lt_of_le lt72 (Nat.le_of_eq gb73.symm))) nin0)
  have fx88 := fx75.keep K86 (ninS (Nat.ne_of_lt (Nat.lt_of_lt_of_le lt72 (Nat.le_of_eq gb73.symm))) nin0)
  have fx89 := fx76.keep K86 (ninS (Nat.ne_of_lt (Nat.lt_of_lt_of_le lt72 (Nat.le_of_eq gb73.symm))) nin0)
  have fx90 := fx77.keep K86 (ninS (Nat.ne_of_lt (Nat.lt_of_lt_of_le lt72 (Nat.le_of_eq gb73.symm))) nin0)
  have fx91 := fx78.keep K86 (ninS (Nat.ne_of_lt (Nat.lt_of_lt_of_le lt72 (Nat.le_of_eq gb73.symm))) nin0)
  have fx92 := fx79.keep K86 (ninS (Nat.ne_of_lt (Nat.lt_of_lt_of_le lt72 (Nat.le_of_eq gb73.symm))) nin0)
  have fx93 := fx80.keep K86 (ninS (Nat.ne_of_lt (Nat.lt_of_lt_of_le lt72 (Nat.le_of_eq gb73.symm))) nin0)
  have fx94 := fx81.keep K86 (ninS (Nat.ne_of_lt (Nat.lt_of_lt_of_le lt72 (Nat.le_of_eq gb73.symm))) nin0)
  have fx95 := fx82.keep K86
  have hq96 := hq84.keep K86 (ninS nqb2_73 nin0)
  have hq97 := hq85.keep K86 (ninS nqb36_73 nin0)
  have kp98 := kp83.trans K86 (allS (Or.inr sz73) all0)
  have Zc86 : n0 ≤ T86.heap.size := Nat.le_trans Z73 K86.1
  obtain ⟨T99, h99, X99, e99, W99, st99⟩ := putF X86 hx hZ hown (host := "") (Or.inl (hw _ (List.mem_of_getElem? (i := 140) rfl))) Via.refl rfl fx89 fx95 (Or.inr ⟨(hw _ (List.mem_of_getElem? (i := 141) rfl)), rfl, hnm⟩) (hw _ (List.mem_of_getElem? (i := 114) rfl)) (ty := (.object "java/util/Map")) (by decide) rfl rfl (g := (mkF m 34 #[.val (.ref x), .val (.ref nm)] [(.ref b73), (.ref x)])) rfl rfl (hb hby d19_34)
  have N99 := Fr.snoc X99 N86 ga
  have Z99 : n0 ≤ h99.size := Nat.le_trans Zc86 (Nat.le_of_eq W99.size.symm)
  refine Goes.on (T' := T99) (g' := (mkF m 37 #[.val (.ref x), .val (.ref nm)] [])) ?_ st99
  have fx100 := fx87.other W99 (Or.inr (slot_ne (Or.inr (hw _ (List.mem_of_getElem? (i := 137) rfl))) (Or.inr (hw _ (List.mem_of_getElem? (i := 141) rfl))) (by decide) (t := (.object "java/util/Map")) (t' := (.object "java/util/Map")) (by decide) (by decide)))
  have fx101 := fx88.other W99 (Or.inr (slot_ne (Or.inr (hw _ (List.mem_of_getElem? (i := 139) rfl))) (Or.inr (hw _ (List.mem_of_getElem? (i := 141) rfl))) (by decide) (t := (.object "java/util/Map")) (t' := (.object "java/util/Map")) (by decide) (by decide)))
  have fx102 := fx89.same W99
  have fx103 := fx90.other W99 (Or.inr (slot_ne (Or.inr (hw _ (List.mem_of_getElem? (i := 167) rfl))) (Or.inr (hw _ (List.mem_of_getElem? (i := 141) rfl))) (by decide) (t := (.object "java/util/Set")) (t' := (.object "java/util/Map")) (by decide) (by decide)))
  have fx104 := fx91.other W99 (Or.inr (slot_ne (Or.inr (hw _ (List.mem_of_getElem? (i := 169) rfl))) (Or.inr (hw _ (List.mem_of_getElem? (i := 141) rfl))) (by decide) (t := (.object "java/util/Map")) (t' := (.object "java/util/Map")) (by decide) (by decide)))
  have fx105 := fx92.other W99 (Or.inr (slot_ne (Or.inr (hw _ (List.mem_of_getElem? (i := 171) rfl))) (Or.inr (hw _ (List.mem_of_getElem? (i := 141) rfl))) (by decide) (t := (.object "java/util/Map")) (t' := (.object "java/util/Map")) (by decide) (by decide)))
  have fx106 := fx93.other W99 (Or.inr (slot_ne (Or.inr (hw _ (List.mem_of_getElem? (i := 173) rfl))) (Or.inr (hw _ (List.mem_of_getElem? (i := 141) rfl))) (by decide) (t := (.object "java/lang/String")) (t' := (.object "java/util/Map")) (by decide) (by decide)))
  have fx107 := fx94.other W99 (Or.inr (slot_ne (Or.inl (hw _ (List.mem_of_getElem? (i := 180) rfl))) (Or.inr (hw _ (List.mem_of_getElem? (i := 141) rfl))) (by decide) (t := (.object "com/example/entitlement/entitlement/Expression")) (t' := (.object "java/util/Map")) (by decide) (by decide)))
  have fx108 := fx95.wr W99
  have kp109 := kp98.wr W99 (Or.inl (by simp))
  have kw99 : Keep _ _ [x] := (Keep.refl _ [x]).wr W99 (Or.inl (List.mem_cons_self ..))
  have hq110 := hq96.keep kw99 (ninS (Ne.symm (Nat.ne_of_lt (Nat.lt_of_lt_of_le lt1 (Nat.le_of_eq gb2.symm)))) nin0)
  have hq111 := hq97.keep kw99 (ninS (Ne.symm (Nat.ne_of_lt (Nat.lt_of_lt_of_le lt35 (Nat.le_of_eq gb36.symm)))) nin0)
  have hq112 := hn86.keep kw99 (ninS (Ne.symm (Nat.ne_of_lt (Nat.lt_of_lt_of_le lt72 (Nat.le_of_eq gb73.symm)))) nin0)
  refine Goes.on (T' := T99) (g' := (mkF m 38 #[.val (.ref x), .val (.ref nm)] [(.ref x)])) ?_ (fun t_ k_ => XS.aloadN X99.here hx rfl (hb hby d19_37) rfl rfl k_)
  have lt112 := fx108.lt
  obtain ⟨T113, h113, X113, e113, E113, A113, D113, -, st113⟩ := newO X99 hx hZ hown (hw _ (List.mem_of_getElem? (i := 142) rfl)) (hw _ (List.mem_of_getElem? (i := 143) rfl)) (hw _ (List.mem_of_getElem? (i := 144) rfl)) e99 (g := (mkF m 38 #[.val (.ref x), .val (.ref nm)] [(.ref x)])) rfl (hb hby d19_38) (by decide) (by decide)
  obtain ⟨b113, gb113⟩ : ∃ z, z = h99.size := ⟨_, rfl⟩
  rw [← gb113] at A113 D113 st113
  have Z113 : n0 ≤ h113.size := Nat.le_trans Z99 E113.1
  have g_b113 : n0 ≤ b113 := Nat.le_trans Z99 (Nat.le_of_eq gb113.symm)
  refine Goes.on (T' := T113) (g' := (mkF m 41 #[.val (.ref x), .val (.ref nm)] [(.ref b113), (.ref x)])) ?_ st113
  have F113_map : Fld Z h113 b113 "java/util/HashSet" "map" "Ljava/util/HashMap;" .null := D113 (Or.inl (hw _ (List.mem_of_getElem? (i := 165) rfl))) (ty := (.object "java/util/HashMap")) (by decide)
  have fx114 := fx100.ext E113
  have fx115 := fx101.ext E113
  have fx116 := fx102.ext E113
  have fx117 := fx103.ext E113
  have fx118 := fx104.ext E113
  have fx119 := fx105.ext E113
  have fx120 := fx106.ext E113
  have fx121 := fx107.ext E113
  have fx122 := fx108.ext E113
  have kp123 := kp109.ext E113
  have ke113 : Keep _ _ [] := (Keep.refl _ []).ext E113
  have sz113 : h0.size ≤ b113 := Nat.le_trans kp109.1 (Nat.le_of_eq gb113.symm)
  have nqb2_113 : b2 ≠ b113 := Nat.ne_of_lt (Nat.lt_of_lt_of_le hq110.E.lt (Nat.le_of_eq gb113.symm))
  have nqb36_113 : b36 ≠ b113 := Nat.ne_of_lt (Nat.lt_of_lt_of_le hq111.E.lt (Nat.le_of_eq gb113.symm))
  have hq124 := hq110.keep ke113 nin0
  have hq125 := hq111.keep ke113 nin0
  refine Goes.on (T' := T113) (g' := (mkF m 42 #[.val (.ref x), .val (.ref nm)] [(.ref b113), (.ref b113), (.ref x)])) ?_ (fun t_ k_ => XS.dup X113.here hx rfl (hb hby d19_41) rfl rfl k_)
  obtain ⟨_, _, ⟨T126, Lq_126, kq_126, nq_126⟩, -, X126, ⟨Lc126, hQ126, l126, y126, z126⟩, st126⟩ := X113.specialBack hx (y := (⟨"java/util/HashSet", "<init>", "()V"⟩ : MethodName)) rfl hown (mvT hZ (hw _ (List.mem_of_getElem? (i := 145) rfl))) (mvT hZ (hw _ (List.mem_of_getElem? (i := 146) rfl))) (mvT hZ (hw _ (List.mem_of_getElem? (i := 147) rfl))) (by decide) (backOf (W := 2) (rmSI l Z a0 hw [] b113 h113 n0 Z113 A113 F113_map g_b113) hZ (hw _ (List.mem_of_getElem? (i := 147) rfl)) (hw _ (List.mem_of_getElem? (i := 144) rfl)) (by decide) (by decide)) (g := (mkF m 42 #[.val (.ref x), .val (.ref nm)] [(.ref b113), (.ref b113), (.ref x)])) rfl (by rw [hml]; rfl) (Steps.refl _) (a := b113) (argsL := []) (rest := [(.ref b113), (.ref x)]) (lenOf pd_11 rfl) rfl (by show 2 * 0 + _ ≤ _; exact Nat.le_of_eq rfl) (hb hby d19_42) (fun _ _ => ⟨rfl, e113, (by decide : 4 + 1 ≤ _), (by decide : 25 + 8 ≤ _)⟩)
  dsimp only [Pt.U, Pt.locs, Pt.cells, Pt.slots] at X126 l126 y126 z126 st126 hQ126
  rw [l126, y126, z126] at X126
  change Stand p l e _ _ m _ below meth c T126 _ 5 33 at X126
  obtain ⟨rfl, N126q, K126⟩ := hQ126
  have N126 := Fr.app N99 N126q
  refine Goes.on (T' := T126) (g' := (mkF m 45 #[.val (.ref x), .val (.ref nm)] [(.ref b113), (.ref x)])) ?_ (fun t => st126.trans)
  have fx127 := fx114.keep K126 (ninS (Nat.ne_of_lt (Nat.lt_of_lt_of_le lt112 (Nat.le_of_eq gb113.symm))) nin0)
  have fx128 := fx115.keep K126 (ninS (Nat.ne_of_lt (Nat.lt_of_lt_of_le lt112 (Nat.le_of_eq gb113.symm))) nin0)
  have fx129 := fx116.keep K126 (ninS (Nat.ne_of_lt (Nat.lt_of_lt_of_le lt112 (Nat.le_of_eq gb113.symm))) nin0)
  have fx130 := fx117.keep K126 (ninS (Nat.ne_of_lt (Nat.lt_of_lt_of_le lt112 (Nat.le_of_eq gb113.symm))) nin0)
  have fx131 := fx118.keep K126 (ninS (Nat.ne_of_lt (Nat.lt_of_lt_of_le lt112 (Nat.le_of_eq gb113.symm))) nin0)
  have fx132 := fx119.keep K126 (ninS (Nat.ne_of_lt (Nat.lt_of_lt_of_le lt112 (Nat.le_of_eq gb113.symm))) nin0)
  have fx133 := fx120.keep K126 (ninS (Nat.ne_of_lt (Nat.lt_of_lt_of_le lt112 (Nat.le_of_eq gb113.symm))) nin0)
  have fx134 := fx121.keep K126 (ninS (Nat.ne_of_lt (Nat.lt_of_lt_of_le lt112 (Nat.le_of_eq gb113.symm))) nin0)
  have fx135 := fx122.keep K126
  have hq136 := hq124.keep K126 (ninS nqb2_113 nin0)
  have hq137 := hq125.keep K126 (ninS nqb36_113 nin0)
  have kp138 := kp123.trans K126 (allS (Or.inr sz113) all0)
  have Zc126 : n0 ≤ T126.heap.size := Nat.le_trans Z113 K126.1
  obtain ⟨T139, h139, X139, e139, W139, st139⟩ := putF X126 hx hZ hown (host := "") (Or.inl (hw _ (List.mem_of_getElem? (i := 166) rfl))) Via.refl rfl fx130 fx135 (Or.inr ⟨(hw _ (List.mem_of_getElem? (i := 167) rfl)), rfl, hnm⟩) (hw _ (List.mem_of_getElem? (i := 114) rfl)) (ty := (.object "java/util/Set")) (by decide) rfl rfl (g := (mkF m 45 #[.val (.ref x), .val (.ref nm)] [(.ref b113), (.ref x)])) rfl rfl (hb hby d19_45)
  have N139 := Fr.snoc X139 N126 ga
  have Z139 : n0 ≤ h139.size := Nat.le_trans Zc126 (Nat.le_of_eq W139.size.symm)
  refine Goes.on (T' := T139) (g' := (mkF m 48 #[.val (.ref x), .val (.ref nm)] [])) ?_ st139
  have fx140 := fx127.other W139 (Or.inr (slot_ne (Or.inr (hw _ (List.mem_of_getElem? (i := 137) rfl))) (Or.inr (hw _ (List.mem_of_getElem? (i := 167) rfl))) (by decide) (t := (.object "java/util/Map")) (t' := (.object "java/util/Set")) (by decide) (by decide)))
  have fx141 := fx128.other W139 (Or.inr (slot_ne (Or.inr (hw _ (List.mem_of_getElem? (i := 139) rfl))) (Or.inr (hw _ (List.mem_of_getElem? (i := 167) rfl))) (by decide) (t := (.object "java/util/Map")) (t' := (.object "java/util/Set")) (by decide) (by decide)))
  have fx142 := fx129.other W139 (Or.inr (slot_ne (Or.inr (hw _ (List.mem_of_getElem? (i := 141) rfl))) (Or.inr (hw _ (List.mem_of_getElem? (i := 167) rfl))) (by decide) (t := (.object "java/util/Map")) (t' := (.object "java/util/Set")) (by decide) (by decide)))
  have fx143 := fx130.same W139
  have fx144 := fx131.other W139 (Or.inr (slot_ne (Or.inr (hw _ (List.mem_of_getElem? (i := 169) rfl))) (Or.inr (hw _ (List.mem_of_getElem? (i := 167) rfl))) (by decide) (t := (.object "java/util/Map")) (t' := (.object "java/util/Set")) (by decide) (by decide)))
  have fx145 := fx132.other W139 (Or.inr (slot_ne (Or.inr (hw _ (List.mem_of_getElem? (i := 171) rfl))) (Or.inr (hw _ (List.mem_of_getElem? (i := 167) rfl))) (by decide) (t := (.object "java/util/Map")) (t' := (.object "java/util/Set")) (by decide) (by decide)))
  have fx146 := fx133.other W139 (Or.inr (slot_ne (Or.inr (hw _ (List.mem_of_getElem? (i := 173) rfl))) (Or.inr (hw _ (List.mem_of_getElem? (i := 167) rfl))) (by decide) (t := (.object "java/lang/String")) (t' := (.object "java/util/Set")) (by decide) (by decide)))
  have fx147 := fx134.other W139 (Or.inr (slot_ne (Or.inl (hw _ (List.mem_of_getElem? (i := 180) rfl))) (Or.inr (hw _ (List.mem_of_getElem? (i := 167) rfl))) (by decide) (t := (.object "com/example/entitlement/entitlement/Expression")) (t' := (.object "java/util/Set")) (by decide) (by decide)))
  have fx148 := fx135.wr W139
  have kp149 := kp138.wr W139 (Or.inl (by simp))
  have kw139 : Keep _ _ [x] := (Keep.refl _ [x]).wr W139 (Or.inl (List.mem_cons_self ..))
  have hq150 := hq136.keep kw139 (ninS (Ne.symm (Nat.ne_of_lt (Nat.lt_of_lt_of_le lt1 (Nat.le_of_eq gb2.symm)))) nin0)
  have hq151 := hq137.keep kw139 (ninS (Ne.symm (Nat.ne_of_lt (Nat.lt_of_lt_of_le lt35 (Nat.le_of_eq gb36.symm)))) nin0)
  refine Goes.on (T' := T139) (g' := (mkF m 49 #[.val (.ref x), .val (.ref nm)] [(.ref x)])) ?_ (fun t_ k_ => XS.aloadN X139.here hx rfl (hb hby d19_48) rfl rfl k_)
  have lt151 := fx148.lt
  obtain ⟨T152, h152, X152, e152, E152, A152, D152, -, st152⟩ := newO X139 hx hZ hown (hw _ (List.mem_of_getElem? (i := 120) rfl)) (hw _ (List.mem_of_getElem? (i := 121) rfl)) (hw _ (List.mem_of_getElem? (i := 122) rfl)) e139 (g := (mkF m 49 #[.val (.ref x), .val (.ref nm)] [(.ref x)])) rfl (hb hby d19_49) (by decide) (by decide)
  obtain ⟨b152, gb152⟩ : ∃ z, z = h139.size := ⟨_, rfl⟩
  rw [← gb152] at A152 D152 st152
  have Z152 : n0 ≤ h152.size := Nat.le_trans Z139 E152.1
  have g_b152 : n0 ≤ b152 := Nat.le_trans Z139 (Nat.le_of_eq gb152.symm)
  refine Goes.on (T' := T152) (g' := (mkF m 52 #[.val (.ref x), .val (.ref nm)] [(.ref b152), (.ref x)])) ?_ st152
  have F152_table : Fld Z h152 b152 "java/util/HashMap" "table" "[Ljava/util/HashMap$Node;" .null := D152 (Or.inl (hw _ (List.mem_of_getElem? (i := 201) rfl))) (ty := (.array (.object "java/util/HashMap$Node"))) (by decide)
  have F152_threshold : Fld Z h152 b152 "java/util/HashMap" "threshold" "I" (.int (0 : Int32)) := D152 (Or.inl (hw _ (List.mem_of_getElem? (i := 255) rfl))) (ty := .int) (by decide)
  have F152_size : Fld Z h152 b152 "java/util/HashMap" "size" "I" (.int (0 : Int32)) := D152 (Or.inl (hw _ (List.mem_of_getElem? (i := 281) rfl))) (ty := .int) (by decide)
  have F152_modCount : Fld Z h152 b152 "java/util/HashMap" "modCount" "I" (.int (0 : Int32)) := D152 (Or.inl (hw _ (List.mem_of_getElem? (i := 279) rfl))) (ty := .int) (by decide)
  have F152_loadFactor : Fld Z h152 b152 "java/util/HashMap" "loadFactor" "F" (.float 0) := D152 (Or.inr (hw _ (List.mem_of_getElem? (i := 135) rfl))) (ty := .float) (by decide)
  have hm152 : Hm0 Z h152 b152 := ⟨A152, F152_table, F152_threshold, F152_size, F152_modCount⟩
  have fx153 := fx140.ext E152
  have fx154 := fx141.ext E152
  have fx155 := fx142.ext E152
  have fx156 := fx143.ext E152
  have fx157 := fx144.ext E152
  have fx158 := fx145.ext E152
  have fx159 := fx146.ext E152
  have fx160 := fx147.ext E152
  have fx161 := fx148.ext E152
  have kp162 := kp149.ext E152
  have ke152 : Keep _ _ [] := (Keep.refl _ []).ext E152
  have sz152 : h0.size ≤ b152 := Nat.le_trans kp149.1 (Nat.le_of_eq gb152.symm)
  have nqb2_152 : b2 ≠ b152 := Nat.ne_of_lt (Nat.lt_of_lt_of_le hq150.E.lt (Nat.le_of_eq gb152.symm))
  have nqb36_152 : b36 ≠ b152 := Nat.ne_of_lt (Nat.lt_of_lt_of_le hq151.E.lt (Nat.le_of_eq gb152.symm))
  have hq163 := hq150.keep ke152 nin0
  have hq164 := hq151.keep ke152 nin0
  refine Goes.on (T' := T152) (g' := (mkF m 53 #[.val (.ref x), .val (.ref nm)] [(.ref b152), (.ref b152), (.ref x)])) ?_ (fun t_ k_ => XS.dup X152.here hx rfl (hb hby d19_52) rfl rfl k_)
  obtain ⟨_, _, ⟨T165, Lq_165, kq_165, nq_165⟩, -, X165, ⟨Lc165, hQ165, l165, y165, z165⟩, st165⟩ := X152.specialBack hx (y := (⟨"java/util/HashMap", "<init>", "()V"⟩ : MethodName)) rfl hown (mvT hZ (hw _ (List.mem_of_getElem? (i := 123) rfl))) (mvT hZ (hw _ (List.mem_of_getElem? (i := 124) rfl))) (mvT hZ (hw _ (List.mem_of_getElem? (i := 125) rfl))) (by decide) (backOf (W := 2) (rmHI l Z a0 hw [] b152 h152 n0 Z152 hm152 F152_loadFactor g_b152) hZ (hw _ (List.mem_of_getElem? (i := 125) rfl)) (hw _ (List.mem_of_getElem? (i := 122) rfl)) (by decide) (by decide)) (g := (mkF m 53 #[.val (.ref x), .val (.ref nm)] [(.ref b152), (.ref b152), (.ref x)])) rfl (by rw [hml]; rfl) (Steps.refl _) (a := b152) (argsL := []) (rest := [(.ref b152), (.ref x)]) (lenOf pd_11 rfl) rfl (by show 2 * 0 + _ ≤ _; exact Nat.le_of_eq rfl) (hb hby d19_53) (fun _ _ => ⟨rfl, e152, (by decide : 6 + 0 ≤ _), (by decide : 41 + 0 ≤ _)⟩)
  dsimp only [Pt.U, Pt.locs, Pt.cells, Pt.slots] at X165 l165 y165 z165 st165 hQ165
  rw [l165, y165, z165] at X165
  change Stand p l e _ _ m _ below meth c T165 _ 6 41 at X165
  obtain ⟨rfl, N165q, K165, hn165⟩ := hQ165
  have N165 := Fr.app N139 N165q
  refine Goes.on (T' := T165) (g' := (mkF m 56 #[.val (.ref x), .val (.ref nm)] [(.ref b152), (.ref x)])) ?_ (fun t => st165.trans)
  have fx166 := fx153.keep K165 (ninS (Nat.ne_of_lt (Nat.lt_of_lt_of_le lt151 (Nat.le_of_eq gb152.symm))) nin0)
  have fx167 := fx154.keep K165 (ninS (Nat.ne_of_lt (Nat.lt_of_lt_of_le lt151 (Nat.le_of_eq gb152.symm))) nin0)
  have fx168 := fx155.keep K165 (ninS (Nat.ne_of_lt (Nat.lt_of_lt_of_le lt151 (Nat.le_of_eq gb152.symm))) nin0)
  have fx169 := fx156.keep K165 (ninS (Nat.ne_of_lt (Nat.lt_of_lt_of_le lt151 (Nat.le_of_eq gb152.symm))) nin0)
  have fx170 := fx157.keep K165 (ninS (Nat.ne_of_lt (Nat.lt_of_lt_of_le lt151 (Nat.le_of_eq gb152.symm))) nin0)
  have fx171 := fx158.keep K165 (ninS (Nat.ne_of_lt (Nat.lt_of_lt_of_le lt151 (Nat.le_of_eq gb152.symm))) nin0)
  have fx172 := fx159.keep K165 (ninS (Nat.ne_of_lt (Nat.lt_of_lt_of_le lt151 (Nat.le_of_eq gb152.symm))) nin0)
  have fx173 := fx160.keep K165 (ninS (Nat.ne_of_lt (Nat.lt_of_lt_of_le lt151 (Nat.le_of_eq gb152.symm))) nin0)
  have fx174 := fx161.keep K165
  have hq175 := hq163.keep K165 (ninS nqb2_152 nin0)
  have hq176 := hq164.keep K165 (ninS nqb36_152 nin0)
  have kp177 := kp162.trans K165 (allS (Or.inr sz152) all0)
  have Zc165 : n0 ≤ T165.heap.size := Nat.le_trans Z152 K165.1
  obtain ⟨T178, h178, X178, e178, W178, st178⟩ := putF X165 hx hZ hown (host := "") (Or.inl (hw _ (List.mem_of_getElem? (i := 168) rfl))) Via.refl rfl fx170 fx174 (Or.inr ⟨(hw _ (List.mem_of_getElem? (i := 169) rfl)), rfl, hnm⟩) (hw _ (List.mem_of_getElem? (i := 114) rfl)) (ty := (.object "java/util/Map")) (by decide) rfl rfl (g := (mkF m 56 #[.val (.ref x), .val (.ref nm)] [(.ref b152), (.ref x)])) rfl rfl (hb hby d19_56)
  have N178 := Fr.snoc X178 N165 ga
  have Z178 : n0 ≤ h178.size := Nat.le_trans Zc165 (Nat.le_of_eq W178.size.symm)
  refine Goes.on (T' := T178) (g' := (mkF m 59 #[.val (.ref x), .val (.ref nm)] [])) ?_ st178
  have fx179 := fx166.other W178 (Or.inr (slot_ne (Or.inr (hw _ (List.mem_of_getElem? (i := 137) rfl))) (Or.inr (hw _ (List.mem_of_getElem? (i := 169) rfl))) (by decide) (t := (.object "java/util/Map")) (t' := (.object "java/util/Map")) (by decide) (by decide)))
  have fx180 := fx167.other W178 (Or.inr (slot_ne (Or.inr (hw _ (List.mem_of_getElem? (i := 139) rfl))) (Or.inr (hw _ (List.mem_of_getElem? (i := 169) rfl))) (by decide) (t := (.object "java/util/Map")) (t' := (.object "java/util/Map")) (by decide) (by decide)))
  have fx181 := fx168.other W178 (Or.inr (slot_ne (Or.inr (hw _ (List.mem_of_getElem? (i := 141) rfl))) (Or.inr (hw _ (List.mem_of_getElem? (i := 169) rfl))) (by decide) (t := (.object "java/util/Map")) (t' := (.object "java/util/Map")) (by decide) (by decide)))
  have fx182 := fx169.other W178 (Or.inr (slot_ne (Or.inr (hw _ (List.mem_of_getElem? (i := 167) rfl))) (Or.inr (hw _ (List.mem_of_getElem? (i := 169) rfl))) (by decide) (t := (.object "java/util/Set")) (t' := (.object "java/util/Map")) (by decide) (by decide)))
  have fx183 := fx170.same W178
  have fx184 := fx171.other W178 (Or.inr (slot_ne (Or.inr (hw _ (List.mem_of_getElem? (i := 171) rfl))) (Or.inr (hw _ (List.mem_of_getElem? (i := 169) rfl))) (by decide) (t := (.object "java/util/Map")) (t' := (.object "java/util/Map")) (by decide) (by decide)))
  have fx185 := fx172.other W178 (Or.inr (slot_ne (Or.inr (hw _ (List.mem_of_getElem? (i := 173) rfl))) (Or.inr (hw _ (List.mem_of_getElem? (i := 169) rfl))) (by decide) (t := (.object "java/lang/String")) (t' := (.object "java/util/Map")) (by decide) (by decide)))
  have fx186 := fx173.other W178 (Or.inr (slot_ne (Or.inl (hw _ (List.mem_of_getElem? (i := 180) rfl))) (Or.inr (hw _ (List.mem_of_getElem? (i := 169) rfl))) (by decide) (t := (.object "com/example/entitlement/entitlement/Expression")) (t' := (.object "java/util/Map")) (by decide) (by decide)))
  have fx187 := fx174.wr W178
  have kp188 := kp177.wr W178 (Or.inl (by simp))
  have kw178 : Keep _ _ [x] := (Keep.refl _ [x]).wr W178 (Or.inl (List.mem_cons_self ..))
  have hq189 := hq175.keep kw178 (ninS (Ne.symm (Nat.ne_of_lt (Nat.lt_of_lt_of_le lt1 (Nat.le_of_eq gb2.symm)))) nin0)
  have hq190 := hq176.keep kw178 (ninS (Ne.symm (Nat.ne_of_lt (Nat.lt_of_lt_of_le lt35 (Nat.le_of_eq gb36.symm)))) nin0)
  have hq191 := hn165.keep kw178 (ninS (Ne.symm (Nat.ne_of_lt (Nat.lt_of_lt_of_le lt151 (Nat.le_of_eq gb152.symm)))) nin0)
  refine Goes.on (T' := T178) (g' := (mkF m 60 #[.val (.ref x), .val (.ref nm)] [(.ref x)])) ?_ (fun t_ k_ => XS.aloadN X178.here hx rfl (hb hby d19_59) rfl rfl k_)
  have lt191 := fx187.lt
  obtain ⟨T192, h192, X192, e192, E192, A192, D192, -, st192⟩ := newO X178 hx hZ hown (hw _ (List.mem_of_getElem? (i := 120) rfl)) (hw _ (List.mem_of_getElem? (i := 121) rfl)) (hw _ (List.mem_of_getElem? (i := 122) rfl)) e178 (g := (mkF m 60 #[.val (.ref x), .val (.ref nm)] [(.ref x)])) rfl (hb hby d19_60) (by decide) (by decide)
  obtain ⟨b192, gb192⟩ : ∃ z, z = h178.size := ⟨_, rfl⟩
  rw [← gb192] at A192 D192 st192
  have Z192 : n0 ≤ h192.size := Nat.le_trans Z178 E192.1
  have g_b192 : n0 ≤ b192 := Nat.le_trans Z178 (Nat.le_of_eq gb192.symm)
  refine Goes.on (T' := T192) (g' := (mkF m 63 #[.val (.ref x), .val (.ref nm)] [(.ref b192), (.ref x)])) ?_ st192
  have F192_table : Fld Z h192 b192 "java/util/HashMap" "table" "[Ljava/util/HashMap$Node;" .null := D192 (Or.inl (hw _ (List.mem_of_getElem? (i := 201) rfl))) (ty := (.array (.object "java/util/HashMap$Node"))) (by decide)
  have F192_threshold : Fld Z h192 b192 "java/util/HashMap" "threshold" "I" (.int (0 : Int32)) := D192 (Or.inl (hw _ (List.mem_of_getElem? (i := 255) rfl))) (ty := .int) (by decide)
  have F192_size : Fld Z h192 b192 "java/util/HashMap" "size" "I" (.int (0 : Int32)) := D192 (Or.inl (hw _ (List.mem_of_getElem? (i := 281) rfl))) (ty := .int) (by decide)
  have F192_modCount : Fld Z h192 b192 "java/util/HashMap" "modCount" "I" (.int (0 : Int32)) := D192 (Or.inl (hw _ (List.mem_of_getElem? (i := 279) rfl))) (ty := .int) (by decide)
  have F192_loadFactor : Fld Z h192 b192 "java/util/HashMap" "loadFactor" "F" (.float 0) := D192 (Or.inr (hw _ (List.mem_of_getElem? (i := 135) rfl))) (ty := .float) (by decide)
  have hm192 : Hm0 Z h192 b192 := ⟨A192, F192_table, F192_threshold, F192_size, F192_modCount⟩
  have fx193 := fx179.ext E192
  have fx194 := fx180.ext E192
  have fx195 := fx181.ext E192
  have fx196 := fx182.ext E192
  have fx197 := fx183.ext E192
  have fx198 := fx184.ext E192
  have fx199 := fx185.ext E192
  have fx200 := fx186.ext E192
  have fx201 := fx187.ext E192
  have kp202 := kp188.ext E192
  have ke192 : Keep _ _ [] := (Keep.refl _ []).ext E192
  have sz192 : h0.size ≤ b192 := Nat.le_trans kp188.1 (Nat.le_of_eq gb192.symm)
  have nqb2_192 : b2 ≠ b192 := Nat.ne_of_lt (Nat.lt_of_lt_of_le hq189.E.lt (Nat.le_of_eq gb192.symm))
  have nqb36_192 : b36 ≠ b192 := Nat.ne_of_lt (Nat.lt_of_lt_of_le hq190.E.lt (Nat.le_of_eq gb192.symm))
  have hq203 := hq189.keep ke192 nin0
  have hq204 := hq190.keep ke192 nin0
  refine Goes.on (T' := T192) (g' := (mkF m 64 #[.val (.ref x), .val (.ref nm)] [(.ref b192), (.ref b192), (.ref x)])) ?_ (fun t_ k_ => XS.dup X192.here hx rfl (hb hby d19_63) rfl rfl k_)
  obtain ⟨_, _, ⟨T205, Lq_205, kq_205, nq_205⟩, -, X205, ⟨Lc205, hQ205, l205, y205, z205⟩, st205⟩ := X192.specialBack hx (y := (⟨"java/util/HashMap", "<init>", "()V"⟩ : MethodName)) rfl hown (mvT hZ (hw _ (List.mem_of_getElem? (i := 123) rfl))) (mvT hZ (hw _ (List.mem_of_getElem? (i := 124) rfl))) (mvT hZ (hw _ (List.mem_of_getElem? (i := 125) rfl))) (by decide) (backOf (W := 2) (rmHI l Z a0 hw [] b192 h192 n0 Z192 hm192 F192_loadFactor g_b192) hZ (hw _ (List.mem_of_getElem? (i := 125) rfl)) (hw _ (List.mem_of_getElem? (i := 122) rfl)) (by decide) (by decide)) (g := (mkF m 64 #[.val (.ref x), .val (.ref nm)] [(.ref b192), (.ref b192), (.ref x)])) rfl (by rw [hml]; rfl) (Steps.refl _) (a := b192) (argsL := []) (rest := [(.ref b192), (.ref x)]) (lenOf pd_11 rfl) rfl (by show 2 * 0 + _ ≤ _; exact Nat.le_of_eq rfl) (hb hby d19_64) (fun _ _ => ⟨rfl, e192, (by decide : 7 + 0 ≤ _), (by decide : 49 + 0 ≤ _)⟩)
  dsimp only [Pt.U, Pt.locs, Pt.cells, Pt.slots] at X205 l205 y205 z205 st205 hQ205
  rw [l205, y205, z205] at X205
  change Stand p l e _ _ m _ below meth c T205 _ 7 49 at X205
  obtain ⟨rfl, N205q, K205, hn205⟩ := hQ205
  have N205 := Fr.app N178 N205q
  refine Goes.on (T' := T205) (g' := (mkF m 67 #[.val (.ref x), .val (.ref nm)] [(.ref b192), (.ref x)])) ?_ (fun t => st205.trans)
  have fx206 := fx193.keep K205 (ninS (Nat.ne_of_lt (Nat.lt_of_lt_of_le lt191 (Nat.le_of_eq gb192.symm))) nin0)
  have fx207 := fx194.keep K205 (ninS (Nat.ne_of_lt (Nat.lt_of_lt_of_le lt191 (Nat.le_of_eq gb192.symm))) nin0)
  have fx208 := fx195.keep K205 (ninS (Nat.ne_of_lt (Nat.lt_of_lt_of_le lt191 (Nat.le_of_eq gb192.symm))) nin0)
  have fx209 := fx196.keep K205 (ninS (Nat.ne_of_lt (Nat.lt_of_lt_of_le lt191 (Nat.le_of_eq gb192.symm))) nin0)
  have fx210 := fx197.keep K205 (ninS (Nat.ne_of_lt (Nat.lt_of_lt_of_le lt191 (Nat.le_of_eq gb192.symm))) nin0)
  have fx211 := fx198.keep K205 (ninS (Nat.ne_of_lt (Nat.lt_of_lt_of_le lt191 (Nat.le_of_eq gb192.symm))) nin0)
  have fx212 := fx199.keep K205 (ninS (Nat.ne_of_lt (Nat.lt_of_lt_of_le lt191 (Nat.le_of_eq gb192.symm))) nin0)
  have fx213 := fx200.keep K205 (ninS (Nat.ne_of_lt (Nat.lt_of_lt_of_le lt191 (Nat.le_of_eq gb192.symm))) nin0)
  have fx214 := fx201.keep K205
  have hq215 := hq203.keep K205 (ninS nqb2_192 nin0)
  have hq216 := hq204.keep K205 (ninS nqb36_192 nin0)
  have kp217 := kp202.trans K205 (allS (Or.inr sz192) all0)
  have Zc205 : n0 ≤ T205.heap.size := Nat.le_trans Z192 K205.1
  obtain ⟨T218, h218, X218, e218, W218, st218⟩ := putF X205 hx hZ hown (host := "") (Or.inl (hw _ (List.mem_of_getElem? (i := 170) rfl))) Via.refl rfl fx211 fx214 (Or.inr ⟨(hw _ (List.mem_of_getElem? (i := 171) rfl)), rfl, hnm⟩) (hw _ (List.mem_of_getElem? (i := 114) rfl)) (ty := (.object "java/util/Map")) (by decide) rfl rfl (g := (mkF m 67 #[.val (.ref x), .val (.ref nm)] [(.ref b192), (.ref x)])) rfl rfl (hb hby d19_67)
  have N218 := Fr.snoc X218 N205 ga
  have Z218 : n0 ≤ h218.size := Nat.le_trans Zc205 (Nat.le_of_eq W218.size.symm)
  refine Goes.on (T' := T218) (g' := (mkF m 70 #[.val (.ref x), .val (.ref nm)] [])) ?_ st218
  have fx219 := fx206.other W218 (Or.inr (slot_ne (Or.inr (hw _ (List.mem_of_getElem? (i := 137) rfl))) (Or.inr (hw _ (List.mem_of_getElem? (i := 171) rfl))) (by decide) (t := (.object "java/util/Map")) (t' := (.object "java/util/Map")) (by decide) (by decide)))
  have fx220 := fx207.other W218 (Or.inr (slot_ne (Or.inr (hw _ (List.mem_of_getElem? (i := 139) rfl))) (Or.inr (hw _ (List.mem_of_getElem? (i := 171) rfl))) (by decide) (t := (.object "java/util/Map")) (t' := (.object "java/util/Map")) (by decide) (by decide)))
  have fx221 := fx208.other W218 (Or.inr (slot_ne (Or.inr (hw _ (List.mem_of_getElem? (i := 141) rfl))) (Or.inr (hw _ (List.mem_of_getElem? (i := 171) rfl))) (by decide) (t := (.object "java/util/Map")) (t' := (.object "java/util/Map")) (by decide) (by decide)))
  have fx222 := fx209.other W218 (Or.inr (slot_ne (Or.inr (hw _ (List.mem_of_getElem? (i := 167) rfl))) (Or.inr (hw _ (List.mem_of_getElem? (i := 171) rfl))) (by decide) (t := (.object "java/util/Set")) (t' := (.object "java/util/Map")) (by decide) (by decide)))
  have fx223 := fx210.other W218 (Or.inr (slot_ne (Or.inr (hw _ (List.mem_of_getElem? (i := 169) rfl))) (Or.inr (hw _ (List.mem_of_getElem? (i := 171) rfl))) (by decide) (t := (.object "java/util/Map")) (t' := (.object "java/util/Map")) (by decide) (by decide)))
  have fx224 := fx211.same W218
  have fx225 := fx212.other W218 (Or.inr (slot_ne (Or.inr (hw _ (List.mem_of_getElem? (i := 173) rfl))) (Or.inr (hw _ (List.mem_of_getElem? (i := 171) rfl))) (by decide) (t := (.object "java/lang/String")) (t' := (.object "java/util/Map")) (by decide) (by decide)))
  have fx226 := fx213.other W218 (Or.inr (slot_ne (Or.inl (hw _ (List.mem_of_getElem? (i := 180) rfl))) (Or.inr (hw _ (List.mem_of_getElem? (i := 171) rfl))) (by decide) (t := (.object "com/example/entitlement/entitlement/Expression")) (t' := (.object "java/util/Map")) (by decide) (by decide)))
  have fx227 := fx214.wr W218
  have kp228 := kp217.wr W218 (Or.inl (by simp))
  have kw218 : Keep _ _ [x] := (Keep.refl _ [x]).wr W218 (Or.inl (List.mem_cons_self ..))
  have hq229 := hq215.keep kw218 (ninS (Ne.symm (Nat.ne_of_lt (Nat.lt_of_lt_of_le lt1 (Nat.le_of_eq gb2.symm)))) nin0)
  have hq230 := hq216.keep kw218 (ninS (Ne.symm (Nat.ne_of_lt (Nat.lt_of_lt_of_le lt35 (Nat.le_of_eq gb36.symm)))) nin0)
  have hq231 := hn205.keep kw218 (ninS (Ne.symm (Nat.ne_of_lt (Nat.lt_of_lt_of_le lt191 (Nat.le_of_eq gb192.symm)))) nin0)
  refine Goes.on (T' := T218) (g' := (mkF m 71 #[.val (.ref x), .val (.ref nm)] [(.ref x)])) ?_ (fun t_ k_ => XS.aloadN X218.here hx rfl (hb hby d19_70) rfl rfl k_)
  refine Goes.on (T' := T218) (g' := (mkF m 72 #[.val (.ref x), .val (.ref nm)] [(.ref nm), (.ref x)])) ?_ (fun t_ k_ => XS.aloadN X218.here hx rfl (hb hby d19_71) rfl rfl k_)
  obtain ⟨T232, h232, X232, e232, W232, st232⟩ := putF X218 hx hZ hown (host := "") (Or.inl (hw _ (List.mem_of_getElem? (i := 172) rfl))) Via.refl e218 fx225 fx227 (Or.inr ⟨(hw _ (List.mem_of_getElem? (i := 173) rfl)), rfl, hnm⟩) (hw _ (List.mem_of_getElem? (i := 114) rfl)) (ty := (.object "java/lang/String")) (by decide) rfl rfl (g := (mkF m 72 #[.val (.ref x), .val (.ref nm)] [(.ref nm), (.ref x)])) rfl rfl (hb hby d19_72)
  have N232 := Fr.snoc X232 N218 ga
  have Z232 : n0 ≤ h232.size := Nat.le_trans Z218 (Nat.le_of_eq W232.size.symm)
  refine Goes.on (T' := T232) (g' := (mkF m 75 #[.val (.ref x), .val (.ref nm)] [])) ?_ st232
  have fx233 := fx219.other W232 (Or.inr (slot_ne (Or.inr (hw _ (List.mem_of_getElem? (i := 137) rfl))) (Or.inr (hw _ (List.mem_of_getElem? (i := 173) rfl))) (by decide) (t := (.object "java/util/Map")) (t' := (.object "java/lang/String")) (by decide) (by decide)))
  have fx234 := fx220.other W232 (Or.inr (slot_ne (Or.inr (hw _ (List.mem_of_getElem? (i := 139) rfl))) (Or.inr (hw _ (List.mem_of_getElem? (i := 173) rfl))) (by decide) (t := (.object "java/util/Map")) (t' := (.object "java/lang/String")) (by decide) (by decide)))
  have fx235 := fx221.other W232 (Or.inr (slot_ne (Or.inr (hw _ (List.mem_of_getElem? (i := 141) rfl))) (Or.inr (hw _ (List.mem_of_getElem? (i := 173) rfl))) (by decide) (t := (.object "java/util/Map")) (t' := (.object "java/lang/String")) (by decide) (by decide)))
  have fx236 := fx222.other W232 (Or.inr (slot_ne (Or.inr (hw _ (List.mem_of_getElem? (i := 167) rfl))) (Or.inr (hw _ (List.mem_of_getElem? (i := 173) rfl))) (by decide) (t := (.object "java/util/Set")) (t' := (.object "java/lang/String")) (by decide) (by decide)))
  have fx237 := fx223.other W232 (Or.inr (slot_ne (Or.inr (hw _ (List.mem_of_getElem? (i := 169) rfl))) (Or.inr (hw _ (List.mem_of_getElem? (i := 173) rfl))) (by decide) (t := (.object "java/util/Map")) (t' := (.object "java/lang/String")) (by decide) (by decide)))
  have fx238 := fx224.other W232 (Or.inr (slot_ne (Or.inr (hw _ (List.mem_of_getElem? (i := 171) rfl))) (Or.inr (hw _ (List.mem_of_getElem? (i := 173) rfl))) (by decide) (t := (.object "java/util/Map")) (t' := (.object "java/lang/String")) (by decide) (by decide)))
  have fx239 := fx225.same W232
  have fx240 := fx226.other W232 (Or.inr (slot_ne (Or.inl (hw _ (List.mem_of_getElem? (i := 180) rfl))) (Or.inr (hw _ (List.mem_of_getElem? (i := 173) rfl))) (by decide) (t := (.object "com/example/entitlement/entitlement/Expression")) (t' := (.object "java/lang/String")) (by decide) (by decide)))
  have fx241 := fx227.wr W232
  have kp242 := kp228.wr W232 (Or.inl (by simp))
  have kw232 : Keep _ _ [x] := (Keep.refl _ [x]).wr W232 (Or.inl (List.mem_cons_self ..))
  have hq243 := hq229.keep kw232 (ninS (Ne.symm (Nat.ne_of_lt (Nat.lt_of_lt_of_le lt1 (Nat.le_of_eq gb2.symm)))) nin0)
  have hq244 := hq230.keep kw232 (ninS (Ne.symm (Nat.ne_of_lt (Nat.lt_of_lt_of_le lt35 (Nat.le_of_eq gb36.symm)))) nin0)
  rw [hWd]
  exact Goes.retn X232 (v := none) (fun fs hr => X232.returnOut hx Bd.returns (hb hby d19_75) hr) (fun _ => rfl) Bd.notSynchronized (by decide) (by decide) (by rw [e232]; exact ⟨rfl, N232, kp242, b2, b36, fx241, fx233, fx234, fx240, hq243, hq244, nqb2_36, sz2, sz36⟩)
def QN0 (Z : State) (x : Addr) (h0 : Heap) (n0 : Nat) (v : Option Value) (h : Heap) (L : List Loc) : Prop := v = some (.int (0)) ∧ Fr n0 L ∧ h = h0
set_option maxRecDepth 65536 in
set_option maxHeartbeats 40000000 in
theorem rmN0 (l : Launch) (Z : State) (a0 : Array Value) (hw : ∀ d ∈ tables_1, d.before a0 Z = true) (ws : List Jvm.Cond) (x : Addr) (h0 : Heap) (n0 : Nat) (Z0 : n0 ≤ h0.size) (FA : Fld Z h0 x "com/example/entitlement/entitlement/ObjectType" "actionPermission" "Lcom/example/entitlement/entitlement/Expression;" .null) :
    MetFree l (⟨"com/example/entitlement/entitlement/ObjectType", "hasActionPermission", "()Z"⟩ : MethodName) (head1 (Jvm.Cond.code (⟨"com/example/entitlement/entitlement/ObjectType", "hasActionPermission", "()Z"⟩ : MethodName) prog_20_method_10_code 1 (some .boolean) :: ws) ({ frames := 0, cells := 0, slots := 0, locals := 0 } : Room)) (fun a_ U => a_ = #[(.ref x)] ∧ Z.Warmed39 U.vm ∧ U.heap = h0) (fun _ _ _ _ _ => True) (fun _ U o U' => ∃ v L, o = .returned v ∧ QN0 Z x h0 n0 v U'.heap L ∧ FrameEnd U o U' L ({ frames := 0, cells := 0, slots := 0, locals := 0 } : Room).cells ({ frames := 0, cells := 0, slots := 0, locals := 0 } : Room).slots) := by
  refine MetFree.of_bodySF (plainFor_of_name pn_11) hisR ?_
  intro p e s m args below meth c s₁ Bd hml0 hP hK
  obtain ⟨rfl, hZ, hh⟩ := hP
  have hx := Bd.exec
  have hby := Bd.bytes
  have hml : c.maxLocals = 1 := hml0
  have hown : s.vm.findClass "com/example/entitlement/entitlement/ObjectType" = some m.cls := findClass_of_methodNamed Bd.named
  have hnm := (name_of_methodNamed Bd.named Bd.method).1
  have X0 : Stand p l e ({ frames := 0, cells := 0, slots := 0, locals := 0 } : Room) s m #[(.ref x)] below meth c s₁ [] 0 0 := Stand.of_body Bd
  have e0 : s₁.heap = h0 := by rw [← hh, Bd.state]; rfl
  have N0 := Fr.nil n0
  refine Goes.done ?_
  obtain ⟨W, hWd⟩ : ∃ W : State → Prop, W = EndW s below (QN0 Z x h0 n0) ({ frames := 0, cells := 0, slots := 0, locals := 0 } : Room).cells ({ frames := 0, cells := 0, slots := 0, locals := 0 } : Room).slots := ⟨_, rfl⟩
  rw [← hWd]
  have hef : entryFrame m #[(.ref x)] 1 = (mkF m 0 #[.val (.ref x)] []) := by first | (simp [entryFrame, mkF, argsToLocals, Value.category]; done) | rfl
  rw [hef]
  refine Goes.on (T' := s₁) (g' := (mkF m 1 #[.val (.ref x)] [(.ref x)])) ?_ (fun t_ k_ => XS.aloadN X0.here hx rfl (hb hby d25_0) rfl rfl k_)
  obtain ⟨T1, X1, e1, st1⟩ := getF X0 hx hZ hown (host := "") (Or.inl (hw _ (List.mem_of_getElem? (i := 179) rfl))) Via.refl e0 FA (g := (mkF m 1 #[.val (.ref x)] [(.ref x)])) rfl rfl (hb hby d25_1)
  refine Goes.on (T' := T1) (g' := (mkF m 4 #[.val (.ref x)] [.null])) ?_ st1
  refine Goes.on (T' := T1) (g' := (mkF m 11 #[.val (.ref x)] [])) ?_ (fun t_ k_ => XS.ifnullYes X1.here hx rfl (pc0 := 4) (pc' := 11) rfl (hb hby d25_4) rfl (by decide) (by decide) k_)
  refine Goes.on (T' := T1) (g' := (mkF m 12 #[.val (.ref x)] [(.int (0 : Int32))])) ?_ (fun t_ k_ => XS.iconst X1.here hx rfl (hb hby d25_11) k_)
  rw [hWd]
  exact Goes.retn X1 (v := some (.int (nar .boolean (0 : Int32)))) (fun fs hr => retN X1 hx (t := .boolean) Bd.returns (by simp) (hb hby d25_12) hr) (fun h => by rw [Bd.returns] at h; cases h) Bd.notSynchronized (by decide) (by decide) (by rw [e1]; exact ⟨rfl, N0, rfl⟩)
def QN1 (Z : State) (x : Addr) (av : Addr) (h0 : Heap) (n0 : Nat) (v : Option Value) (h : Heap) (L : List Loc) : Prop := v = some (.int (1)) ∧ Fr n0 L ∧ h = h0
set_option maxRecDepth 65536 in
set_option maxHeartbeats 40000000 in
theorem rmN1 (l : Launch) (Z : State) (a0 : Array Value) (hw : ∀ d ∈ tables_1, d.before a0 Z = true) (ws : List Jvm.Cond) (x : Addr) (av : Addr) (h0 : Heap) (n0 : Nat) (Z0 : n0 ≤ h0.size) (FA : Fld Z h0 x "com/example/entitlement/entitlement/ObjectType" "actionPermission" "Lcom/example/entitlement/entitlement/Expression;" (.ref av)) :
    MetFree l (⟨"com/example/entitlement/entitlement/ObjectType", "hasActionPermission", "()Z"⟩ : MethodName) (head1 (Jvm.Cond.code (⟨"com/example/entitlement/entitlement/ObjectType", "hasActionPermission", "()Z"⟩ : MethodName) prog_20_method_10_code 1 (some .boolean) :: ws) ({ frames := 0, cells := 0, slots := 0, locals := 0 } : Room)) (fun a_ U => a_ = #[(.ref x)] ∧ Z.Warmed39 U.vm ∧ U.heap = h0) (fun _ _ _ _ _ => True) (fun _ U o U' => ∃ v L, o = .returned v ∧ QN1 Z x av h0 n0 v U'.heap L ∧ FrameEnd U o U' L ({ frames := 0, cells := 0, slots := 0, locals := 0 } : Room).cells ({ frames := 0, cells := 0, slots := 0, locals := 0 } : Room).slots) := by
  refine MetFree.of_bodySF (plainFor_of_name pn_11) hisR ?_
  intro p e s m args below meth c s₁ Bd hml0 hP hK
  obtain ⟨rfl, hZ, hh⟩ := hP
  have hx := Bd.exec
  have hby := Bd.bytes
  have hml : c.maxLocals = 1 := hml0
  have hown : s.vm.findClass "com/example/entitlement/entitlement/ObjectType" = some m.cls := findClass_of_methodNamed Bd.named
  have hnm := (name_of_methodNamed Bd.named Bd.method).1
  have X0 : Stand p l e ({ frames := 0, cells := 0, slots := 0, locals := 0 } : Room) s m #[(.ref x)] below meth c s₁ [] 0 0 := Stand.of_body Bd
  have e0 : s₁.heap = h0 := by rw [← hh, Bd.state]; rfl
  have N0 := Fr.nil n0
  refine Goes.done ?_
  obtain ⟨W, hWd⟩ : ∃ W : State → Prop, W = EndW s below (QN1 Z x av h0 n0) ({ frames := 0, cells := 0, slots := 0, locals := 0 } : Room).cells ({ frames := 0, cells := 0, slots := 0, locals := 0 } : Room).slots := ⟨_, rfl⟩
  rw [← hWd]
  have hef : entryFrame m #[(.ref x)] 1 = (mkF m 0 #[.val (.ref x)] []) := by first | (simp [entryFrame, mkF, argsToLocals, Value.category]; done) | rfl
  rw [hef]
  refine Goes.on (T' := s₁) (g' := (mkF m 1 #[.val (.ref x)] [(.ref x)])) ?_ (fun t_ k_ => XS.aloadN X0.here hx rfl (hb hby d25_0) rfl rfl k_)
  obtain ⟨T1, X1, e1, st1⟩ := getF X0 hx hZ hown (host := "") (Or.inl (hw _ (List.mem_of_getElem? (i := 179) rfl))) Via.refl e0 FA (g := (mkF m 1 #[.val (.ref x)] [(.ref x)])) rfl rfl (hb hby d25_1)
  refine Goes.on (T' := T1) (g' := (mkF m 4 #[.val (.ref x)] [(.ref av)])) ?_ st1
  refine Goes.on (T' := T1) (g' := (mkF m 7 #[.val (.ref x)] [])) ?_ (fun t_ k_ => XS.ifnullNo X1.here hx rfl (hb hby d25_4) rfl k_)
  refine Goes.on (T' := T1) (g' := (mkF m 8 #[.val (.ref x)] [(.int (1 : Int32))])) ?_ (fun t_ k_ => XS.iconst X1.here hx rfl (hb hby d25_7) k_)
  refine Goes.on (T' := T1) (g' := (mkF m 12 #[.val (.ref x)] [(.int (1 : Int32))])) ?_ (fun t_ k_ => XS.goto X1.here hx rfl (pc0 := 8) (pc' := 12) rfl (hb hby d25_8) (by decide) (by decide) k_)
  rw [hWd]
  exact Goes.retn X1 (v := some (.int (nar .boolean (1 : Int32)))) (fun fs hr => retN X1 hx (t := .boolean) Bd.returns (by simp) (hb hby d25_12) hr) (fun h => by rw [Bd.returns] at h; cases h) Bd.notSynchronized (by decide) (by decide) (by rw [e1]; exact ⟨rfl, N0, rfl⟩)
def QSA (Z : State) (x av mr mp : Addr) (h0 : Heap) (n0 : Nat) (v : Option Value) (h : Heap) (L : List Loc) : Prop := v = none ∧ Fr n0 L ∧ Keep h0 h [x] ∧ Exa Z h x "com/example/entitlement/entitlement/ObjectType" ∧ Fld Z h x "com/example/entitlement/entitlement/ObjectType" "relations" "Ljava/util/Map;" (.ref mr) ∧ Fld Z h x "com/example/entitlement/entitlement/ObjectType" "permissions" "Ljava/util/Map;" (.ref mp) ∧ Fld Z h x "com/example/entitlement/entitlement/ObjectType" "actionPermission" "Lcom/example/entitlement/entitlement/Expression;" (.ref av)
set_option maxRecDepth 65536 in
set_option maxHeartbeats 40000000 in
theorem rmSA (l : Launch) (Z : State) (a0 : Array Value) (hw : ∀ d ∈ tables_1, d.before a0 Z = true) (ws : List Jvm.Cond) (x av mr mp : Addr) (h0 : Heap) (n0 : Nat) (Z0 : n0 ≤ h0.size) (E : Exa Z h0 x "com/example/entitlement/entitlement/ObjectType") (FR : Fld Z h0 x "com/example/entitlement/entitlement/ObjectType" "relations" "Ljava/util/Map;" (.ref mr)) (FP : Fld Z h0 x "com/example/entitlement/entitlement/ObjectType" "permissions" "Ljava/util/Map;" (.ref mp)) (FA : Fld Z h0 x "com/example/entitlement/entitlement/ObjectType" "actionPermission" "Lcom/example/entitlement/entitlement/Expression;" .null) (ga : n0 ≤ x) :
    MetFree l (⟨"com/example/entitlement/entitlement/ObjectType", "setActionPermission", "(Lcom/example/entitlement/entitlement/Expression;)V"⟩ : MethodName) (head1 (Jvm.Cond.code (⟨"com/example/entitlement/entitlement/ObjectType", "setActionPermission", "(Lcom/example/entitlement/entitlement/Expression;)V"⟩ : MethodName) prog_20_method_17_code 2 none :: ws) ({ frames := 0, cells := 0, slots := 0, locals := 0 } : Room)) (fun a_ U => a_ = #[(.ref x), (.ref av)] ∧ Z.Warmed39 U.vm ∧ U.heap = h0) (fun _ _ _ _ _ => True) (fun _ U o U' => ∃ v L, o = .returned v ∧ QSA Z x av mr mp h0 n0 v U'.heap L ∧ FrameEnd U o U' L ({ frames := 0, cells := 0, slots := 0, locals := 0 } : Room).cells ({ frames := 0, cells := 0, slots := 0, locals := 0 } : Room).slots) := by
  refine MetFree.of_bodySF (plainFor_of_name pn_11) hisR ?_
  intro p e s m args below meth c s₁ Bd hml0 hP hK
  obtain ⟨rfl, hZ, hh⟩ := hP
  have hx := Bd.exec
  have hby := Bd.bytes
  have hml : c.maxLocals = 2 := hml0
  have hown : s.vm.findClass "com/example/entitlement/entitlement/ObjectType" = some m.cls := findClass_of_methodNamed Bd.named
  have hnm := (name_of_methodNamed Bd.named Bd.method).1
  have X0 : Stand p l e ({ frames := 0, cells := 0, slots := 0, locals := 0 } : Room) s m #[(.ref x), (.ref av)] below meth c s₁ [] 0 0 := Stand.of_body Bd
  have e0 : s₁.heap = h0 := by rw [← hh, Bd.state]; rfl
  have N0 := Fr.nil n0
  refine Goes.done ?_
  obtain ⟨W, hWd⟩ : ∃ W : State → Prop, W = EndW s below (QSA Z x av mr mp h0 n0) ({ frames := 0, cells := 0, slots := 0, locals := 0 } : Room).cells ({ frames := 0, cells := 0, slots := 0, locals := 0 } : Room).slots := ⟨_, rfl⟩
  rw [← hWd]
  have hef : entryFrame m #[(.ref x), (.ref av)] 2 = (mkF m 0 #[.val (.ref x), .val (.ref av)] []) := by first | (simp [entryFrame, mkF, argsToLocals, Value.category]; done) | rfl
  rw [hef]
  refine Goes.on (T' := s₁) (g' := (mkF m 1 #[.val (.ref x), .val (.ref av)] [(.ref x)])) ?_ (fun t_ k_ => XS.aloadN X0.here hx rfl (hb hby d41_0) rfl rfl k_)
  refine Goes.on (T' := s₁) (g' := (mkF m 2 #[.val (.ref x), .val (.ref av)] [(.ref av), (.ref x)])) ?_ (fun t_ k_ => XS.aloadN X0.here hx rfl (hb hby d41_1) rfl rfl k_)
  obtain ⟨T1, h1, X1, e1, W1, st1⟩ := putF X0 hx hZ hown (host := "") (Or.inl (hw _ (List.mem_of_getElem? (i := 179) rfl))) Via.refl e0 FA E (Or.inl (hw _ (List.mem_of_getElem? (i := 180) rfl))) (hw _ (List.mem_of_getElem? (i := 114) rfl)) (ty := (.object "com/example/entitlement/entitlement/Expression")) (by decide) rfl rfl (g := (mkF m 2 #[.val (.ref x), .val (.ref av)] [(.ref av), (.ref x)])) rfl rfl (hb hby d41_2)
  have N1 := Fr.snoc X1 N0 ga
  have Z1 : n0 ≤ h1.size := Nat.le_trans Z0 (Nat.le_of_eq W1.size.symm)
  refine Goes.on (T' := T1) (g' := (mkF m 5 #[.val (.ref x), .val (.ref av)] [])) ?_ st1
  have fx2 := E.wr W1
  have fx3 := FR.other W1 (Or.inr (slot_ne (Or.inr (hw _ (List.mem_of_getElem? (i := 137) rfl))) (Or.inl (hw _ (List.mem_of_getElem? (i := 180) rfl))) (by decide) (t := (.object "java/util/Map")) (t' := (.object "com/example/entitlement/entitlement/Expression")) (by decide) (by decide)))
  have fx4 := FP.other W1 (Or.inr (slot_ne (Or.inr (hw _ (List.mem_of_getElem? (i := 139) rfl))) (Or.inl (hw _ (List.mem_of_getElem? (i := 180) rfl))) (by decide) (t := (.object "java/util/Map")) (t' := (.object "com/example/entitlement/entitlement/Expression")) (by decide) (by decide)))
  have fx5 := FA.same W1
  rw [hWd]
  exact Goes.retn X1 (v := none) (fun fs hr => X1.returnOut hx Bd.returns (hb hby d41_5) hr) (fun _ => rfl) Bd.notSynchronized (by decide) (by decide) (by rw [e1]; exact ⟨rfl, N1, ((Keep.refl h0 [x]).wr W1 (Or.inl (List.mem_cons_self ..))), fx2, fx3, fx4, fx5⟩)
def QHH (Z : State) (x t : Addr) (kt : ClassId) (c_ : Int32) (zc : Int32) (h0 : Heap) (n0 : Nat) (v : Option Value) (h : Heap) (L : List Loc) : Prop := v = some (.int (own_hh c_)) ∧ Fr n0 L ∧ Keep h0 h [x] ∧ S1 Z h x t kt c_
set_option maxRecDepth 65536 in
set_option maxHeartbeats 40000000 in
theorem rmHH (l : Launch) (Z : State) (a0 : Array Value) (hw : ∀ d ∈ tables_1, d.before a0 Z = true) (ws : List Jvm.Cond) (x t : Addr) (kt : ClassId) (c_ : Int32) (zc : Int32) (h0 : Heap) (n0 : Nat) (Z0 : n0 ≤ h0.size) (A : S1 Z h0 x t kt c_) (ga : n0 ≤ x) (hca : ¬ c_ < 0) (hcb : ¬ (255 : Int32) < c_) (CS : Sta Z Z.heap "java/lang/String" "COMPACT_STRINGS" "Z" (.int zc)) (hzc : ¬ zc = (0 : Int32)) (X0_ : Old Z n0 h0) :
    MetFree l (⟨"java/util/HashMap", "hash", "(Ljava/lang/Object;)I"⟩ : MethodName) (head1 (Jvm.Cond.code (⟨"java/util/HashMap", "hash", "(Ljava/lang/Object;)I"⟩ : MethodName) jdk_69_method_1_code 2 (some .int) :: ws) ({ frames := 2, cells := 0, slots := 0, locals := 25 } : Room)) (fun a_ U => a_ = #[(.ref x)] ∧ Z.Warmed39 U.vm ∧ U.heap = h0) (fun _ _ _ _ _ => True) (fun _ U o U' => ∃ v L, o = .returned v ∧ QHH Z x t kt c_ zc h0 n0 v U'.heap L ∧ FrameEnd U o U' L ({ frames := 2, cells := 0, slots := 0, locals := 25 } : Room).cells ({ frames := 2, cells := 0, slots := 0, locals := 25 } : Room).slots) := by
  refine MetFree.of_bodySF (plainFor_of_name pn_9) hisR ?_
  intro p e s m args below meth c s₁ Bd hml0 hP hK
  obtain ⟨rfl, hZ, hh⟩ := hP
  have hx := Bd.exec
  have hby := Bd.bytes
  have hml : c.maxLocals = 2 := hml0
  have hown : s.vm.findClass "java/util/HashMap" = some m.cls := findClass_of_methodNamed Bd.named
  have hnm := (name_of_methodNamed Bd.named Bd.method).1
  have X0 : Stand p l e ({ frames := 2, cells := 0, slots := 0, locals := 25 } : Room) s m #[(.ref x)] below meth c s₁ [] 0 0 := Stand.of_body Bd
  have e0 : s₁.heap = h0 := by rw [← hh, Bd.state]; rfl
  have N0 := Fr.nil n0
  refine Goes.done ?_
  obtain ⟨W, hWd⟩ : ∃ W : State → Prop, W = EndW s below (QHH Z x t kt c_ zc h0 n0) ({ frames := 2, cells := 0, slots := 0, locals := 25 } : Room).cells ({ frames := 2, cells := 0, slots := 0, locals := 25 } : Room).slots := ⟨_, rfl⟩
  rw [← hWd]
  have hef : entryFrame m #[(.ref x)] 2 = (mkF m 0 #[.val (.ref x), .unset] []) := by first | (simp [entryFrame, mkF, argsToLocals, Value.category]; done) | rfl
  rw [hef]
  refine Goes.on (T' := s₁) (g' := (mkF m 1 #[.val (.ref x), .unset] [(.ref x)])) ?_ (fun t_ k_ => XS.aloadN X0.here hx rfl (hb hby d32_0) rfl rfl k_)
  refine Goes.on (T' := s₁) (g' := (mkF m 8 #[.val (.ref x), .unset] [])) ?_ (fun t_ k_ => XS.ifnonnullYes X0.here hx rfl (pc0 := 1) (pc' := 8) rfl (hb hby d32_1) rfl (by decide) (by decide) k_)
  refine Goes.on (T' := s₁) (g' := (mkF m 9 #[.val (.ref x), .unset] [(.ref x)])) ?_ (fun t_ k_ => XS.aloadN X0.here hx rfl (hb hby d32_8) rfl rfl k_)
  obtain ⟨cq1, kq1, q1a, q1b, q1c⟩ := isOf hZ e0 A.exa
  obtain ⟨_, _, ⟨T1, Lq_1, kq_1, nq_1⟩, -, X1, ⟨Lc1, hQ1, l1, y1, z1⟩, st1⟩ := X0.virtualBack hx (y := (⟨"java/lang/Object", "hashCode", "()I"⟩ : MethodName)) (z := (⟨"java/lang/String", "hashCode", "()I"⟩ : MethodName)) hown (mvT hZ (hw _ (List.mem_of_getElem? (i := 226) rfl))) (mvT hZ (hw _ (List.mem_of_getElem? (i := 227) rfl))) (own_nfO hZ (hw _ (List.mem_of_getElem? (i := 104) rfl)) rfl) (mvT hZ (hw _ (List.mem_of_getElem? (i := 229) rfl))) (mvT hZ (hw _ (List.mem_of_getElem? (i := 230) rfl))) (by decide) (backOf (W := 0) (rmSH l Z a0 hw [] x t kt c_ zc h0 n0 Z0 A ga hca hcb CS hzc X0_) hZ (hw _ (List.mem_of_getElem? (i := 231) rfl)) (hw _ (List.mem_of_getElem? (i := 3) rfl)) (by decide) (by decide)) q1a q1c (g := (mkF m 9 #[.val (.ref x), .unset] [(.ref x)])) rfl (by rw [hml]; rfl) (Steps.refl _) (argsL := []) (rest := []) (lenOf pd_12 rfl) rfl (by show 2 * 0 + _ ≤ _; exact Nat.le_of_eq rfl) (hb hby d32_9) (fun _ _ => ⟨rfl, e0, (by decide : 0 + 0 ≤ _), (by decide : 0 + 0 ≤ _)⟩)
  dsimp only [Pt.U, Pt.locs, Pt.cells, Pt.slots] at X1 l1 y1 z1 st1 hQ1
  rw [l1, y1, z1] at X1
  change Stand p l e _ _ m _ below meth c T1 _ 0 0 at X1
  obtain ⟨rfl, N1q, KX, SX⟩ := hQ1
  have N1 := Fr.app N0 N1q
  refine Goes.on (T' := T1) (g' := (mkF m 12 #[.val (.ref x), .unset] [(.int c_)])) ?_ (fun t => st1.trans)
  refine Goes.on (T' := T1) (g' := (mkF m 13 #[.val (.ref x), .unset] [(.int c_), (.int c_)])) ?_ (fun t_ k_ => XS.dup X1.here hx rfl (hb hby d32_12) rfl rfl k_)
  refine Goes.on (T' := T1) (g' := (mkF m 14 #[.val (.ref x), .val (.int c_)] [(.int c_)])) ?_ (fun t_ k_ => XS.istoreN X1.here hx rfl (hb hby d32_13) rfl (l' := #[.val (.ref x), .val (.int c_)]) rfl k_)
  refine Goes.on (T' := T1) (g' := (mkF m 15 #[.val (.ref x), .val (.int c_)] [(.int c_), (.int c_)])) ?_ (fun t_ k_ => XS.iloadN X1.here hx rfl (hb hby d32_14) rfl k_)
  refine Goes.on (T' := T1) (g' := (mkF m 17 #[.val (.ref x), .val (.int c_)] [(.int (16 : Int32)), (.int c_), (.int c_)])) ?_ (fun t_ k_ => XS.bipush X1.here hx rfl (hb hby d32_15) k_)
  refine Goes.on (T' := T1) (g' := (mkF m 18 #[.val (.ref x), .val (.int c_)] [(.int ((c_.toUInt32 >>> ((16 : Int32) &&& 31).toUInt32).toInt32)), (.int c_)])) ?_ (fun t_ k_ => XS.iushr X1.here hx rfl (hb hby d32_17) rfl k_)
  refine Goes.on (T' := T1) (g' := (mkF m 19 #[.val (.ref x), .val (.int c_)] [(.int (c_ ^^^ ((c_.toUInt32 >>> ((16 : Int32) &&& 31).toUInt32).toInt32)))])) ?_ (fun t_ k_ => XS.ixor X1.here hx rfl (hb hby d32_18) rfl k_)
  rw [hWd]
  exact Goes.retn X1 (v := some (.int (c_ ^^^ ((c_.toUInt32 >>> ((16 : Int32) &&& 31).toUInt32).toInt32)))) (fun fs hr => retI X1 hx Bd.returns (hb hby d32_19) hr) (fun h => by rw [Bd.returns] at h; cases h) Bd.notSynchronized (by decide) (by decide) ⟨rfl, N1, KX, SX⟩
def QRZ (Z : State) (m_ : Addr) (h0 : Heap) (n0 : Nat) (v : Option Value) (h : Heap) (L : List Loc) : Prop := ∃ b kb, v = some (.ref b) ∧ Fr n0 L ∧ Keep h0 h [m_] ∧ h0.size ≤ b ∧ Exa Z h m_ "java/util/HashMap" ∧ Fld Z h m_ "java/util/HashMap" "table" "[Ljava/util/HashMap$Node;" (.ref b) ∧ Fld Z h m_ "java/util/HashMap" "threshold" "I" (.int (12 : Int32)) ∧ Fld Z h m_ "java/util/HashMap" "size" "I" (.int (0 : Int32)) ∧ Fld Z h m_ "java/util/HashMap" "modCount" "I" (.int (0 : Int32)) ∧ Arv Z h b kb (.object "java/util/HashMap$Node") (16 : Int32) [] .null ∧ Ovr Z kb "java/util/HashMap$Node"
set_option maxRecDepth 65536 in
set_option maxHeartbeats 40000000 in
theorem rmRZ (l : Launch) (Z : State) (a0 : Array Value) (hw : ∀ d ∈ tables_1, d.before a0 Z = true) (ws : List Jvm.Cond) (m_ : Addr) (h0 : Heap) (n0 : Nat) (Z0 : n0 ≤ h0.size) (A : Hm0 Z h0 m_) (ga : n0 ≤ m_) :
    MetFree l (⟨"java/util/HashMap", "resize", "()[Ljava/util/HashMap$Node;"⟩ : MethodName) (head1 (Jvm.Cond.code (⟨"java/util/HashMap", "resize", "()[Ljava/util/HashMap$Node;"⟩ : MethodName) jdk_69_method_17_code 14 (some (.array (.object "java/util/HashMap$Node"))) :: ws) ({ frames := 0, cells := 1, slots := 16, locals := 0 } : Room)) (fun a_ U => a_ = #[(.ref m_)] ∧ Z.Warmed39 U.vm ∧ U.heap = h0) (fun _ _ _ _ _ => True) (fun _ U o U' => ∃ v L, o = .returned v ∧ QRZ Z m_ h0 n0 v U'.heap L ∧ FrameEnd U o U' L ({ frames := 0, cells := 1, slots := 16, locals := 0 } : Room).cells ({ frames := 0, cells := 1, slots := 16, locals := 0 } : Room).slots) := by
  refine MetFree.of_bodySF (plainFor_of_name pn_9) hisR ?_
  intro p e s m args below meth c s₁ Bd hml0 hP hK
  obtain ⟨rfl, hZ, hh⟩ := hP
  have hx := Bd.exec
  have hby := Bd.bytes
  have hml : c.maxLocals = 14 := hml0
  have hown : s.vm.findClass "java/util/HashMap" = some m.cls := findClass_of_methodNamed Bd.named
  have hnm := (name_of_methodNamed Bd.named Bd.method).1
  have X0 : Stand p l e ({ frames := 0, cells := 1, slots := 16, locals := 0 } : Room) s m #[(.ref m_)] below meth c s₁ [] 0 0 := Stand.of_body Bd
  have e0 : s₁.heap = h0 := by rw [← hh, Bd.state]; rfl
  have N0 := Fr.nil n0
  refine Goes.done ?_
  obtain ⟨W, hWd⟩ : ∃ W : State → Prop, W = EndW s below (QRZ Z m_ h0 n0) ({ frames := 0, cells := 1, slots := 16, locals := 0 } : Room).cells ({ frames := 0, cells := 1, slots := 16, locals := 0 } : Room).slots := ⟨_, rfl⟩
  rw [← hWd]
  have hef : entryFrame m #[(.ref m_)] 14 = (mkF m 0 #[.val (.ref m_), .unset, .unset, .unset, .unset, .unset, .unset, .unset, .unset, .unset, .unset, .unset, .unset, .unset] []) := by first | (simp [entryFrame, mkF, argsToLocals, Value.category]; done) | rfl
  rw [hef]
  refine Goes.on (T' := s₁) (g' := (mkF m 1 #[.val (.ref m_), .unset, .unset, .unset, .unset, .unset, .unset, .unset, .unset, .unset, .unset, .unset, .unset, .unset] [(.ref m_)])) ?_ (fun t_ k_ => XS.aloadN X0.here hx rfl (hb hby d37_0) rfl rfl k_)
  obtain ⟨T1, X1, e1, st1⟩ := getF X0 hx hZ hown (host := "") (Or.inl (hw _ (List.mem_of_getElem? (i := 200) rfl))) Via.refl e0 A.T (g := (mkF m 1 #[.val (.ref m_), .unset, .unset, .unset, .unset, .unset, .unset, .unset, .unset, .unset, .unset, .unset, .unset, .unset] [(.ref m_)])) rfl rfl (hb hby d37_1)
  refine Goes.on (T' := T1) (g' := (mkF m 4 #[.val (.ref m_), .unset, .unset, .unset, .unset, .unset, .unset, .unset, .unset, .unset, .unset, .unset, .unset, .unset] [.null])) ?_ st1
  refine Goes.on (T' := T1) (g' := (mkF m 5 #[.val (.ref m_), .val .null, .unset, .unset, .unset, .unset, .unset, .unset, .unset, .unset, .unset, .unset, .unset, .unset] [])) ?_ (fun t_ k_ => XS.astoreN X1.here hx rfl (hb hby d37_4) rfl rfl (l' := #[.val (.ref m_), .val .null, .unset, .unset, .unset, .unset, .unset, .unset, .unset, .unset, .unset, .unset, .unset, .unset]) rfl k_)
  refine Goes.on (T' := T1) (g' := (mkF m 6 #[.val (.ref m_), .val .null, .unset, .unset, .unset, .unset, .unset, .unset, .unset, .unset, .unset, .unset, .unset, .unset] [.null])) ?_ (fun t_ k_ => XS.aloadN X1.here hx rfl (hb hby d37_5) rfl rfl k_)
  refine Goes.on (T' := T1) (g' := (mkF m 9 #[.val (.ref m_), .val .null, .unset, .unset, .unset, .unset, .unset, .unset, .unset, .unset, .unset, .unset, .unset, .unset] [])) ?_ (fun t_ k_ => XS.ifnonnullNo X1.here hx rfl (hb hby d37_6) rfl k_)
  refine Goes.on (T' := T1) (g' := (mkF m 10 #[.val (.ref m_), .val .null, .unset, .unset, .unset, .unset, .unset, .unset, .unset, .unset, .unset, .unset, .unset, .unset] [(.int (0 : Int32))])) ?_ (fun t_ k_ => XS.iconst X1.here hx rfl (hb hby d37_9) k_)
  refine Goes.on (T' := T1) (g' := (mkF m 15 #[.val (.ref m_), .val .null, .unset, .unset, .unset, .unset, .unset, .unset, .unset, .unset, .unset, .unset, .unset, .unset] [(.int (0 : Int32))])) ?_ (fun t_ k_ => XS.goto X1.here hx rfl (pc0 := 10) (pc' := 15) rfl (hb hby d37_10) (by decide) (by decide) k_)
  refine Goes.on (T' := T1) (g' := (mkF m 16 #[.val (.ref m_), .val .null, .val (.int (0 : Int32)), .unset, .unset, .unset, .unset, .unset, .unset, .unset, .unset, .unset, .unset, .unset] [])) ?_ (fun t_ k_ => XS.istoreN X1.here hx rfl (hb hby d37_15) rfl (l' := #[.val (.ref m_), .val .null, .val (.int (0 : Int32)), .unset, .unset, .unset, .unset, .unset, .unset, .unset, .unset, .unset, .unset, .unset]) rfl k_)
  refine Goes.on (T' := T1) (g' := (mkF m 17 #[.val (.ref m_), .val .null, .val (.int (0 : Int32)), .unset, .unset, .unset, .unset, .unset, .unset, .unset, .unset, .unset, .unset, .unset] [(.ref m_)])) ?_ (fun t_ k_ => XS.aloadN X1.here hx rfl (hb hby d37_16) rfl rfl k_)
  obtain ⟨T2, X2, e2, st2⟩ := getF X1 hx hZ hown (host := "") (Or.inl (hw _ (List.mem_of_getElem? (i := 254) rfl))) Via.refl e1 A.H (g := (mkF m 17 #[.val (.ref m_), .val .null, .val (.int (0 : Int32)), .unset, .unset, .unset, .unset, .unset, .unset, .unset, .unset, .unset, .unset, .unset] [(.ref m_)])) rfl rfl (hb hby d37_17)
  refine Goes.on (T' := T2) (g' := (mkF m 20 #[.val (.ref m_), .val .null, .val (.int (0 : Int32)), .unset, .unset, .unset, .unset, .unset, .unset, .unset, .unset, .unset, .unset, .unset] [(.int (0 : Int32))])) ?_ st2
  refine Goes.on (T' := T2) (g' := (mkF m 21 #[.val (.ref m_), .val .null, .val (.int (0 : Int32)), .val (.int (0 : Int32)), .unset, .unset, .unset, .unset, .unset, .unset, .unset, .unset, .unset, .unset] [])) ?_ (fun t_ k_ => XS.istoreN X2.here hx rfl (hb hby d37_20) rfl (l' := #[.val (.ref m_), .val .null, .val (.int (0 : Int32)), .val (.int (0 : Int32)), .unset, .unset, .unset, .unset, .unset, .unset, .unset, .unset, .unset, .unset]) rfl k_)
  refine Goes.on (T' := T2) (g' := (mkF m 22 #[.val (.ref m_), .val .null, .val (.int (0 : Int32)), .val (.int (0 : Int32)), .unset, .unset, .unset, .unset, .unset, .unset, .unset, .unset, .unset, .unset] [(.int (0 : Int32))])) ?_ (fun t_ k_ => XS.iconst X2.here hx rfl (hb hby d37_21) k_)
  refine Goes.on (T' := T2) (g' := (mkF m 24 #[.val (.ref m_), .val .null, .val (.int (0 : Int32)), .val (.int (0 : Int32)), .unset, .val (.int (0 : Int32)), .unset, .unset, .unset, .unset, .unset, .unset, .unset, .unset] [])) ?_ (fun t_ k_ => XS.istore X2.here hx rfl (hb hby d37_22) rfl (l' := #[.val (.ref m_), .val .null, .val (.int (0 : Int32)), .val (.int (0 : Int32)), .unset, .val (.int (0 : Int32)), .unset, .unset, .unset, .unset, .unset, .unset, .unset, .unset]) rfl k_)
  refine Goes.on (T' := T2) (g' := (mkF m 25 #[.val (.ref m_), .val .null, .val (.int (0 : Int32)), .val (.int (0 : Int32)), .unset, .val (.int (0 : Int32)), .unset, .unset, .unset, .unset, .unset, .unset, .unset, .unset] [(.int (0 : Int32))])) ?_ (fun t_ k_ => XS.iloadN X2.here hx rfl (hb hby d37_24) rfl k_)
  refine Goes.on (T' := T2) (g' := (mkF m 67 #[.val (.ref m_), .val .null, .val (.int (0 : Int32)), .val (.int (0 : Int32)), .unset, .val (.int (0 : Int32)), .unset, .unset, .unset, .unset, .unset, .unset, .unset, .unset] [])) ?_ (fun t_ k_ => XS.ifYes X2.here hx rfl (pc0 := 25) (pc' := 67) rfl (hb hby d37_25) rfl (by decide) (by decide) (by decide) k_)
  refine Goes.on (T' := T2) (g' := (mkF m 68 #[.val (.ref m_), .val .null, .val (.int (0 : Int32)), .val (.int (0 : Int32)), .unset, .val (.int (0 : Int32)), .unset, .unset, .unset, .unset, .unset, .unset, .unset, .unset] [(.int (0 : Int32))])) ?_ (fun t_ k_ => XS.iloadN X2.here hx rfl (hb hby d37_67) rfl k_)
  refine Goes.on (T' := T2) (g' := (mkF m 77 #[.val (.ref m_), .val .null, .val (.int (0 : Int32)), .val (.int (0 : Int32)), .unset, .val (.int (0 : Int32)), .unset, .unset, .unset, .unset, .unset, .unset, .unset, .unset] [])) ?_ (fun t_ k_ => XS.ifYes X2.here hx rfl (pc0 := 68) (pc' := 77) rfl (hb hby d37_68) rfl (by decide) (by decide) (by decide) k_)
  refine Goes.on (T' := T2) (g' := (mkF m 79 #[.val (.ref m_), .val .null, .val (.int (0 : Int32)), .val (.int (0 : Int32)), .unset, .val (.int (0 : Int32)), .unset, .unset, .unset, .unset, .unset, .unset, .unset, .unset] [(.int (16 : Int32))])) ?_ (fun t_ k_ => XS.bipush X2.here hx rfl (hb hby d37_77) k_)
  refine Goes.on (T' := T2) (g' := (mkF m 81 #[.val (.ref m_), .val .null, .val (.int (0 : Int32)), .val (.int (0 : Int32)), .val (.int (16 : Int32)), .val (.int (0 : Int32)), .unset, .unset, .unset, .unset, .unset, .unset, .unset, .unset] [])) ?_ (fun t_ k_ => XS.istore X2.here hx rfl (hb hby d37_79) rfl (l' := #[.val (.ref m_), .val .null, .val (.int (0 : Int32)), .val (.int (0 : Int32)), .val (.int (16 : Int32)), .val (.int (0 : Int32)), .unset, .unset, .unset, .unset, .unset, .unset, .unset, .unset]) rfl k_)
  refine Goes.on (T' := T2) (g' := (mkF m 83 #[.val (.ref m_), .val .null, .val (.int (0 : Int32)), .val (.int (0 : Int32)), .val (.int (16 : Int32)), .val (.int (0 : Int32)), .unset, .unset, .unset, .unset, .unset, .unset, .unset, .unset] [(.int (12 : Int32))])) ?_ (fun t_ k_ => XS.bipush X2.here hx rfl (hb hby d37_81) k_)
  refine Goes.on (T' := T2) (g' := (mkF m 85 #[.val (.ref m_), .val .null, .val (.int (0 : Int32)), .val (.int (0 : Int32)), .val (.int (16 : Int32)), .val (.int (12 : Int32)), .unset, .unset, .unset, .unset, .unset, .unset, .unset, .unset] [])) ?_ (fun t_ k_ => XS.istore X2.here hx rfl (hb hby d37_83) rfl (l' := #[.val (.ref m_), .val .null, .val (.int (0 : Int32)), .val (.int (0 : Int32)), .val (.int (16 : Int32)), .val (.int (12 : Int32)), .unset, .unset, .unset, .unset, .unset, .unset, .unset, .unset]) rfl k_)
  refine Goes.on (T' := T2) (g' := (mkF m 87 #[.val (.ref m_), .val .null, .val (.int (0 : Int32)), .val (.int (0 : Int32)), .val (.int (16 : Int32)), .val (.int (12 : Int32)), .unset, .unset, .unset, .unset, .unset, .unset, .unset, .unset] [(.int (12 : Int32))])) ?_ (fun t_ k_ => XS.iload X2.here hx rfl (hb hby d37_85) rfl k_)
  refine Goes.on (T' := T2) (g' := (mkF m 125 #[.val (.ref m_), .val .null, .val (.int (0 : Int32)), .val (.int (0 : Int32)), .val (.int (16 : Int32)), .val (.int (12 : Int32)), .unset, .unset, .unset, .unset, .unset, .unset, .unset, .unset] [])) ?_ (fun t_ k_ => XS.ifYes X2.here hx rfl (pc0 := 87) (pc' := 125) rfl (hb hby d37_87) rfl (by decide) (by decide) (by decide) k_)
  refine Goes.on (T' := T2) (g' := (mkF m 126 #[.val (.ref m_), .val .null, .val (.int (0 : Int32)), .val (.int (0 : Int32)), .val (.int (16 : Int32)), .val (.int (12 : Int32)), .unset, .unset, .unset, .unset, .unset, .unset, .unset, .unset] [(.ref m_)])) ?_ (fun t_ k_ => XS.aloadN X2.here hx rfl (hb hby d37_125) rfl rfl k_)
  refine Goes.on (T' := T2) (g' := (mkF m 128 #[.val (.ref m_), .val .null, .val (.int (0 : Int32)), .val (.int (0 : Int32)), .val (.int (16 : Int32)), .val (.int (12 : Int32)), .unset, .unset, .unset, .unset, .unset, .unset, .unset, .unset] [(.int (12 : Int32)), (.ref m_)])) ?_ (fun t_ k_ => XS.iload X2.here hx rfl (hb hby d37_126) rfl k_)
  obtain ⟨T3, h3, X3, e3, W3, st3⟩ := putF X2 hx hZ hown (host := "") (Or.inl (hw _ (List.mem_of_getElem? (i := 254) rfl))) Via.refl e2 A.H A.E (Or.inl (hw _ (List.mem_of_getElem? (i := 255) rfl))) (hw _ (List.mem_of_getElem? (i := 121) rfl)) (ty := .int) (by decide) rfl rfl (g := (mkF m 128 #[.val (.ref m_), .val .null, .val (.int (0 : Int32)), .val (.int (0 : Int32)), .val (.int (16 : Int32)), .val (.int (12 : Int32)), .unset, .unset, .unset, .unset, .unset, .unset, .unset, .unset] [(.int (12 : Int32)), (.ref m_)])) rfl rfl (hb hby d37_128)
  have N3 := Fr.snoc X3 N0 ga
  have Z3 : n0 ≤ h3.size := Nat.le_trans Z0 (Nat.le_of_eq W3.size.symm)
  refine Goes.on (T' := T3) (g' := (mkF m 131 #[.val (.ref m_), .val .null, .val (.int (0 : Int32)), .val (.int (0 : Int32)), .val (.int (16 : Int32)), .val (.int (12 : Int32)), .unset, .unset, .unset, .unset, .unset, .unset, .unset, .unset] [])) ?_ st3
  have fx4 := A.E.wr W3
  have fx5 := A.T.other W3 (Or.inr (slot_ne (Or.inl (hw _ (List.mem_of_getElem? (i := 201) rfl))) (Or.inl (hw _ (List.mem_of_getElem? (i := 255) rfl))) (by decide) (t := (.array (.object "java/util/HashMap$Node"))) (t' := .int) (by decide) (by decide)))
  have fx6 := A.H.same W3
  have fx7 := A.S.other W3 (Or.inr (slot_ne (Or.inl (hw _ (List.mem_of_getElem? (i := 281) rfl))) (Or.inl (hw _ (List.mem_of_getElem? (i := 255) rfl))) (by decide) (t := .int) (t' := .int) (by decide) (by decide)))
  have fx8 := A.C.other W3 (Or.inr (slot_ne (Or.inl (hw _ (List.mem_of_getElem? (i := 279) rfl))) (Or.inl (hw _ (List.mem_of_getElem? (i := 255) rfl))) (by decide) (t := .int) (t' := .int) (by decide) (by decide)))
  have kp9 := (Keep.refl h0 [m_]).wr W3 (Or.inl (by simp))
  refine Goes.on (T' := T3) (g' := (mkF m 133 #[.val (.ref m_), .val .null, .val (.int (0 : Int32)), .val (.int (0 : Int32)), .val (.int (16 : Int32)), .val (.int (12 : Int32)), .unset, .unset, .unset, .unset, .unset, .unset, .unset, .unset] [(.int (16 : Int32))])) ?_ (fun t_ k_ => XS.iload X3.here hx rfl (hb hby d37_131) rfl k_)
  obtain ⟨T10, h10, k10, X10, e10, E10, A10, O10, st10⟩ := newR X3 hx hZ hown (hw _ (List.mem_of_getElem? (i := 256) rfl)) (hw _ (List.mem_of_getElem? (i := 257) rfl)) e3 (g := (mkF m 133 #[.val (.ref m_), .val .null, .val (.int (0 : Int32)), .val (.int (0 : Int32)), .val (.int (16 : Int32)), .val (.int (12 : Int32)), .unset, .unset, .unset, .unset, .unset, .unset, .unset, .unset] [(.int (16 : Int32))])) rfl (hb hby d37_133) rfl (by decide) (cap := 16) (by decide) (by decide) (by decide) (by decide)
  obtain ⟨b10, gb10⟩ : ∃ z, z = h3.size := ⟨_, rfl⟩
  rw [← gb10] at A10 st10
  have V10 := Arv.new A10 (by decide)
  have Z10 : n0 ≤ h10.size := Nat.le_trans Z3 E10.1
  have g_b10 : n0 ≤ b10 := Nat.le_trans Z3 (Nat.le_of_eq gb10.symm)
  refine Goes.on (T' := T10) (g' := (mkF m 136 #[.val (.ref m_), .val .null, .val (.int (0 : Int32)), .val (.int (0 : Int32)), .val (.int (16 : Int32)), .val (.int (12 : Int32)), .unset, .unset, .unset, .unset, .unset, .unset, .unset, .unset] [(.ref b10)])) ?_ st10
  have fx11 := fx4.ext E10
  have fx12 := fx5.ext E10
  have fx13 := fx6.ext E10
  have fx14 := fx7.ext E10
  have fx15 := fx8.ext E10
  have kp16 := kp9.ext E10
  have szb : h0.size ≤ b10 := Nat.le_trans kp9.1 (Nat.le_of_eq gb10.symm)
  refine Goes.on (T' := T10) (g' := (mkF m 138 #[.val (.ref m_), .val .null, .val (.int (0 : Int32)), .val (.int (0 : Int32)), .val (.int (16 : Int32)), .val (.int (12 : Int32)), .val (.ref b10), .unset, .unset, .unset, .unset, .unset, .unset, .unset] [])) ?_ (fun t_ k_ => XS.astore X10.here hx rfl (hb hby d37_136) rfl rfl (l' := #[.val (.ref m_), .val .null, .val (.int (0 : Int32)), .val (.int (0 : Int32)), .val (.int (16 : Int32)), .val (.int (12 : Int32)), .val (.ref b10), .unset, .unset, .unset, .unset, .unset, .unset, .unset]) rfl k_)
  refine Goes.on (T' := T10) (g' := (mkF m 139 #[.val (.ref m_), .val .null, .val (.int (0 : Int32)), .val (.int (0 : Int32)), .val (.int (16 : Int32)), .val (.int (12 : Int32)), .val (.ref b10), .unset, .unset, .unset, .unset, .unset, .unset, .unset] [(.ref m_)])) ?_ (fun t_ k_ => XS.aloadN X10.here hx rfl (hb hby d37_138) rfl rfl k_)
  refine Goes.on (T' := T10) (g' := (mkF m 141 #[.val (.ref m_), .val .null, .val (.int (0 : Int32)), .val (.int (0 : Int32)), .val (.int (16 : Int32)), .val (.int (12 : Int32)), .val (.ref b10), .unset, .unset, .unset, .unset, .unset, .unset, .unset] [(.ref b10), (.ref m_)])) ?_ (fun t_ k_ => XS.aload X10.here hx rfl (hb hby d37_139) rfl rfl k_)
  obtain ⟨T17, h17, X17, e17, W17, st17⟩ := putF X10 hx hZ hown (host := "") (Or.inl (hw _ (List.mem_of_getElem? (i := 200) rfl))) Via.refl e10 fx12 fx11 (Or.inl (hw _ (List.mem_of_getElem? (i := 201) rfl))) (hw _ (List.mem_of_getElem? (i := 121) rfl)) (ty := (.array (.object "java/util/HashMap$Node"))) (by decide) rfl rfl (g := (mkF m 141 #[.val (.ref m_), .val .null, .val (.int (0 : Int32)), .val (.int (0 : Int32)), .val (.int (16 : Int32)), .val (.int (12 : Int32)), .val (.ref b10), .unset, .unset, .unset, .unset, .unset, .unset, .unset] [(.ref b10), (.ref m_)])) rfl rfl (hb hby d37_141)
  have N17 := Fr.snoc X17 N3 ga
  have Z17 : n0 ≤ h17.size := Nat.le_trans Z10 (Nat.le_of_eq W17.size.symm)
  refine Goes.on (T' := T17) (g' := (mkF m 144 #[.val (.ref m_), .val .null, .val (.int (0 : Int32)), .val (.int (0 : Int32)), .val (.int (16 : Int32)), .val (.int (12 : Int32)), .val (.ref b10), .unset, .unset, .unset, .unset, .unset, .unset, .unset] [])) ?_ st17
  have fx18 := fx11.wr W17
  have fx19 := fx12.same W17
  have fx20 := fx13.other W17 (Or.inr (slot_ne (Or.inl (hw _ (List.mem_of_getElem? (i := 255) rfl))) (Or.inl (hw _ (List.mem_of_getElem? (i := 201) rfl))) (by decide) (t := .int) (t' := (.array (.object "java/util/HashMap$Node"))) (by decide) (by decide)))
  have fx21 := fx14.other W17 (Or.inr (slot_ne (Or.inl (hw _ (List.mem_of_getElem? (i := 281) rfl))) (Or.inl (hw _ (List.mem_of_getElem? (i := 201) rfl))) (by decide) (t := .int) (t' := (.array (.object "java/util/HashMap$Node"))) (by decide) (by decide)))
  have fx22 := fx15.other W17 (Or.inr (slot_ne (Or.inl (hw _ (List.mem_of_getElem? (i := 279) rfl))) (Or.inl (hw _ (List.mem_of_getElem? (i := 201) rfl))) (by decide) (t := .int) (t' := (.array (.object "java/util/HashMap$Node"))) (by decide) (by decide)))
  have fx23 := V10.other W17 (Ne.symm (Nat.ne_of_lt (Nat.lt_of_lt_of_le fx4.lt (Nat.le_of_eq gb10.symm))))
  have kp24 := kp16.wr W17 (Or.inl (by simp))
  refine Goes.on (T' := T17) (g' := (mkF m 145 #[.val (.ref m_), .val .null, .val (.int (0 : Int32)), .val (.int (0 : Int32)), .val (.int (16 : Int32)), .val (.int (12 : Int32)), .val (.ref b10), .unset, .unset, .unset, .unset, .unset, .unset, .unset] [.null])) ?_ (fun t_ k_ => XS.aloadN X17.here hx rfl (hb hby d37_144) rfl rfl k_)
  refine Goes.on (T' := T17) (g' := (mkF m 353 #[.val (.ref m_), .val .null, .val (.int (0 : Int32)), .val (.int (0 : Int32)), .val (.int (16 : Int32)), .val (.int (12 : Int32)), .val (.ref b10), .unset, .unset, .unset, .unset, .unset, .unset, .unset] [])) ?_ (fun t_ k_ => XS.ifnullYes X17.here hx rfl (pc0 := 145) (pc' := 353) rfl (hb hby d37_145) rfl (by decide) (by decide) k_)
  refine Goes.on (T' := T17) (g' := (mkF m 355 #[.val (.ref m_), .val .null, .val (.int (0 : Int32)), .val (.int (0 : Int32)), .val (.int (16 : Int32)), .val (.int (12 : Int32)), .val (.ref b10), .unset, .unset, .unset, .unset, .unset, .unset, .unset] [(.ref b10)])) ?_ (fun t_ k_ => XS.aload X17.here hx rfl (hb hby d37_353) rfl rfl k_)
  rw [hWd]
  exact Goes.retn X17 (v := some (.ref b10)) (fun fs hr => retA X17 hx Bd.returns rfl rfl (hb hby d37_355) hr) (fun h => by rw [Bd.returns] at h; cases h) Bd.notSynchronized (by decide) (by decide) (by rw [e17]; exact ⟨b10, k10, rfl, N17, kp24, szb, fx18, fx19, fx20, fx21, fx22, fx23, O10⟩)
def QND (Z : State) (x : Addr) (k u : Addr) (hv : Int32) (h0 : Heap) (n0 : Nat) (v : Option Value) (h : Heap) (L : List Loc) : Prop := v = none ∧ Fr n0 L ∧ Keep h0 h [x] ∧ Exa Z h x "java/util/HashMap$Node" ∧ Fld Z h x "java/util/HashMap$Node" "hash" "I" (.int hv) ∧ Fld Z h x "java/util/HashMap$Node" "key" "Ljava/lang/Object;" (.ref k) ∧ Fld Z h x "java/util/HashMap$Node" "value" "Ljava/lang/Object;" (.ref u) ∧ Fld Z h x "java/util/HashMap$Node" "next" "Ljava/util/HashMap$Node;" .null
set_option maxRecDepth 65536 in
set_option maxHeartbeats 40000000 in
theorem rmND (l : Launch) (Z : State) (a0 : Array Value) (hw : ∀ d ∈ tables_1, d.before a0 Z = true) (ws : List Jvm.Cond) (x : Addr) (k u : Addr) (hv : Int32) (h0 : Heap) (n0 : Nat) (Z0 : n0 ≤ h0.size) (E : Exa Z h0 x "java/util/HashMap$Node") (ga : n0 ≤ x) (F0 : Fld Z h0 x "java/util/HashMap$Node" "hash" "I" (.int (0 : Int32))) (F1 : Fld Z h0 x "java/util/HashMap$Node" "key" "Ljava/lang/Object;" .null) (F2 : Fld Z h0 x "java/util/HashMap$Node" "value" "Ljava/lang/Object;" .null) (F3 : Fld Z h0 x "java/util/HashMap$Node" "next" "Ljava/util/HashMap$Node;" .null)  :
    MetFree l (⟨"java/util/HashMap$Node", "<init>", "(ILjava/lang/Object;Ljava/lang/Object;Ljava/util/HashMap$Node;)V"⟩ : MethodName) (head1 (Jvm.Cond.code (⟨"java/util/HashMap$Node", "<init>", "(ILjava/lang/Object;Ljava/lang/Object;Ljava/util/HashMap$Node;)V"⟩ : MethodName) jdk_70_method_1_code 5 none :: ws) ({ frames := 1, cells := 0, slots := 0, locals := 12 } : Room)) (fun a_ U => a_ = #[(.ref x), (.int hv), (.ref k), (.ref u), .null] ∧ Z.Warmed39 U.vm ∧ U.heap = h0) (fun _ _ _ _ _ => True) (fun _ U o U' => ∃ v L, o = .returned v ∧ QND Z x k u hv h0 n0 v U'.heap L ∧ FrameEnd U o U' L ({ frames := 1, cells := 0, slots := 0, locals := 12 } : Room).cells ({ frames := 1, cells := 0, slots := 0, locals := 12 } : Room).slots) := by
  refine MetFree.of_bodySF (plainFor_of_name pn_12) hisR ?_
  intro p e s m args below meth c s₁ Bd hml0 hP hK
  obtain ⟨rfl, hZ, hh⟩ := hP
  have hx := Bd.exec
  have hby := Bd.bytes
  have hml : c.maxLocals = 5 := hml0
  have hown : s.vm.findClass "java/util/HashMap$Node" = some m.cls := findClass_of_methodNamed Bd.named
  have hnm := (name_of_methodNamed Bd.named Bd.method).1
  have X0 : Stand p l e ({ frames := 1, cells := 0, slots := 0, locals := 12 } : Room) s m #[(.ref x), (.int hv), (.ref k), (.ref u), .null] below meth c s₁ [] 0 0 := Stand.of_body Bd
  have e0 : s₁.heap = h0 := by rw [← hh, Bd.state]; rfl
  have N0 := Fr.nil n0
  refine Goes.done ?_
  obtain ⟨W, hWd⟩ : ∃ W : State → Prop, W = EndW s below (QND Z x k u hv h0 n0) ({ frames := 1, cells := 0, slots := 0, locals := 12 } : Room).cells ({ frames := 1, cells := 0, slots := 0, locals := 12 } : Room).slots := ⟨_, rfl⟩
  rw [← hWd]
  have hef : entryFrame m #[(.ref x), (.int hv), (.ref k), (.ref u), .null] 5 = (mkF m 0 #[.val (.ref x), .val (.int hv), .val (.ref k), .val (.ref u), .val .null] []) := by first | (simp [entryFrame, mkF, argsToLocals, Value.category]; done) | rfl
  rw [hef]
  refine Goes.on (T' := s₁) (g' := (mkF m 1 #[.val (.ref x), .val (.int hv), .val (.ref k), .val (.ref u), .val .null] [(.ref x)])) ?_ (fun t_ k_ => XS.aloadN X0.here hx rfl (hb hby d39_0) rfl rfl k_)
  obtain ⟨T1, X1, e1, st1⟩ := initO X0 hx hZ hown (hw _ (List.mem_of_getElem? (i := 269) rfl)) (hw _ (List.mem_of_getElem? (i := 12) rfl)) (hw _ (List.mem_of_getElem? (i := 13) rfl)) e0 (g := (mkF m 1 #[.val (.ref x), .val (.int hv), .val (.ref k), .val (.ref u), .val .null] [(.ref x)])) rfl (by rw [hml]; rfl) rfl (hb hby d39_1) (by decide) (W := 0) (by show 2 * 0 + _ ≤ _; exact Nat.le_of_eq rfl) (by decide)
  refine Goes.on (T' := T1) (g' := (mkF m 4 #[.val (.ref x), .val (.int hv), .val (.ref k), .val (.ref u), .val .null] [])) ?_ st1
  refine Goes.on (T' := T1) (g' := (mkF m 5 #[.val (.ref x), .val (.int hv), .val (.ref k), .val (.ref u), .val .null] [(.ref x)])) ?_ (fun t_ k_ => XS.aloadN X1.here hx rfl (hb hby d39_4) rfl rfl k_)
  refine Goes.on (T' := T1) (g' := (mkF m 6 #[.val (.ref x), .val (.int hv), .val (.ref k), .val (.ref u), .val .null] [(.int hv), (.ref x)])) ?_ (fun t_ k_ => XS.iloadN X1.here hx rfl (hb hby d39_5) rfl k_)
  obtain ⟨T2, h2, X2, e2, W2, st2⟩ := putF X1 hx hZ hown (host := "") (Or.inl (hw _ (List.mem_of_getElem? (i := 270) rfl))) Via.refl e1 F0 E (Or.inr ⟨(hw _ (List.mem_of_getElem? (i := 271) rfl)), rfl, hnm⟩) (hw _ (List.mem_of_getElem? (i := 263) rfl)) (ty := .int) (by decide) rfl rfl (g := (mkF m 6 #[.val (.ref x), .val (.int hv), .val (.ref k), .val (.ref u), .val .null] [(.int hv), (.ref x)])) rfl rfl (hb hby d39_6)
  have N2 := Fr.snoc X2 N0 ga
  have Z2 : n0 ≤ h2.size := Nat.le_trans Z0 (Nat.le_of_eq W2.size.symm)
  refine Goes.on (T' := T2) (g' := (mkF m 9 #[.val (.ref x), .val (.int hv), .val (.ref k), .val (.ref u), .val .null] [])) ?_ st2
  have fx3 := F0.same W2
  have fx4 := F1.other W2 (Or.inr (slot_ne (Or.inr (hw _ (List.mem_of_getElem? (i := 273) rfl))) (Or.inr (hw _ (List.mem_of_getElem? (i := 271) rfl))) (by decide) (t := (.object "java/lang/Object")) (t' := .int) (by decide) (by decide)))
  have fx5 := F2.other W2 (Or.inr (slot_ne (Or.inl (hw _ (List.mem_of_getElem? (i := 275) rfl))) (Or.inr (hw _ (List.mem_of_getElem? (i := 271) rfl))) (by decide) (t := (.object "java/lang/Object")) (t' := .int) (by decide) (by decide)))
  have fx6 := F3.other W2 (Or.inr (slot_ne (Or.inl (hw _ (List.mem_of_getElem? (i := 277) rfl))) (Or.inr (hw _ (List.mem_of_getElem? (i := 271) rfl))) (by decide) (t := (.object "java/util/HashMap$Node")) (t' := .int) (by decide) (by decide)))
  have fx7 := E.wr W2
  have kp8 := (Keep.refl h0 [x]).wr W2 (Or.inl (by simp))
  refine Goes.on (T' := T2) (g' := (mkF m 10 #[.val (.ref x), .val (.int hv), .val (.ref k), .val (.ref u), .val .null] [(.ref x)])) ?_ (fun t_ k_ => XS.aloadN X2.here hx rfl (hb hby d39_9) rfl rfl k_)
  refine Goes.on (T' := T2) (g' := (mkF m 11 #[.val (.ref x), .val (.int hv), .val (.ref k), .val (.ref u), .val .null] [(.ref k), (.ref x)])) ?_ (fun t_ k_ => XS.aloadN X2.here hx rfl (hb hby d39_10) rfl rfl k_)
  obtain ⟨T9, h9, X9, e9, W9, st9⟩ := putF X2 hx hZ hown (host := "") (Or.inl (hw _ (List.mem_of_getElem? (i := 272) rfl))) Via.refl e2 fx4 fx7 (Or.inr ⟨(hw _ (List.mem_of_getElem? (i := 273) rfl)), rfl, hnm⟩) (hw _ (List.mem_of_getElem? (i := 263) rfl)) (ty := (.object "java/lang/Object")) (by decide) rfl rfl (g := (mkF m 11 #[.val (.ref x), .val (.int hv), .val (.ref k), .val (.ref u), .val .null] [(.ref k), (.ref x)])) rfl rfl (hb hby d39_11)
  have N9 := Fr.snoc X9 N2 ga
  have Z9 : n0 ≤ h9.size := Nat.le_trans Z2 (Nat.le_of_eq W9.size.symm)
  refine Goes.on (T' := T9) (g' := (mkF m 14 #[.val (.ref x), .val (.int hv), .val (.ref k), .val (.ref u), .val .null] [])) ?_ st9
  have fx10 := fx3.other W9 (Or.inr (slot_ne (Or.inr (hw _ (List.mem_of_getElem? (i := 271) rfl))) (Or.inr (hw _ (List.mem_of_getElem? (i := 273) rfl))) (by decide) (t := .int) (t' := (.object "java/lang/Object")) (by decide) (by decide)))
  have fx11 := fx4.same W9
  have fx12 := fx5.other W9 (Or.inr (slot_ne (Or.inl (hw _ (List.mem_of_getElem? (i := 275) rfl))) (Or.inr (hw _ (List.mem_of_getElem? (i := 273) rfl))) (by decide) (t := (.object "java/lang/Object")) (t' := (.object "java/lang/Object")) (by decide) (by decide)))
  have fx13 := fx6.other W9 (Or.inr (slot_ne (Or.inl (hw _ (List.mem_of_getElem? (i := 277) rfl))) (Or.inr (hw _ (List.mem_of_getElem? (i := 273) rfl))) (by decide) (t := (.object "java/util/HashMap$Node")) (t' := (.object "java/lang/Object")) (by decide) (by decide)))
  have fx14 := fx7.wr W9
  have kp15 := kp8.wr W9 (Or.inl (by simp))
  refine Goes.on (T' := T9) (g' := (mkF m 15 #[.val (.ref x), .val (.int hv), .val (.ref k), .val (.ref u), .val .null] [(.ref x)])) ?_ (fun t_ k_ => XS.aloadN X9.here hx rfl (hb hby d39_14) rfl rfl k_)
  refine Goes.on (T' := T9) (g' := (mkF m 16 #[.val (.ref x), .val (.int hv), .val (.ref k), .val (.ref u), .val .null] [(.ref u), (.ref x)])) ?_ (fun t_ k_ => XS.aloadN X9.here hx rfl (hb hby d39_15) rfl rfl k_)
  obtain ⟨T16, h16, X16, e16, W16, st16⟩ := putF X9 hx hZ hown (host := "") (Or.inl (hw _ (List.mem_of_getElem? (i := 274) rfl))) Via.refl e9 fx12 fx14 (Or.inl (hw _ (List.mem_of_getElem? (i := 275) rfl))) (hw _ (List.mem_of_getElem? (i := 263) rfl)) (ty := (.object "java/lang/Object")) (by decide) rfl rfl (g := (mkF m 16 #[.val (.ref x), .val (.int hv), .val (.ref k), .val (.ref u), .val .null] [(.ref u), (.ref x)])) rfl rfl (hb hby d39_16)
  have N16 := Fr.snoc X16 N9 ga
  have Z16 : n0 ≤ h16.size := Nat.le_trans Z9 (Nat.le_of_eq W16.size.symm)
  refine Goes.on (T' := T16) (g' := (mkF m 19 #[.val (.ref x), .val (.int hv), .val (.ref k), .val (.ref u), .val .null] [])) ?_ st16
  have fx17 := fx10.other W16 (Or.inr (slot_ne (Or.inr (hw _ (List.mem_of_getElem? (i := 271) rfl))) (Or.inl (hw _ (List.mem_of_getElem? (i := 275) rfl))) (by decide) (t := .int) (t' := (.object "java/lang/Object")) (by decide) (by decide)))
  have fx18 := fx11.other W16 (Or.inr (slot_ne (Or.inr (hw _ (List.mem_of_getElem? (i := 273) rfl))) (Or.inl (hw _ (List.mem_of_getElem? (i := 275) rfl))) (by decide) (t := (.object "java/lang/Object")) (t' := (.object "java/lang/Object")) (by decide) (by decide)))
  have fx19 := fx12.same W16
  have fx20 := fx13.other W16 (Or.inr (slot_ne (Or.inl (hw _ (List.mem_of_getElem? (i := 277) rfl))) (Or.inl (hw _ (List.mem_of_getElem? (i := 275) rfl))) (by decide) (t := (.object "java/util/HashMap$Node")) (t' := (.object "java/lang/Object")) (by decide) (by decide)))
  have fx21 := fx14.wr W16
  have kp22 := kp15.wr W16 (Or.inl (by simp))
  refine Goes.on (T' := T16) (g' := (mkF m 20 #[.val (.ref x), .val (.int hv), .val (.ref k), .val (.ref u), .val .null] [(.ref x)])) ?_ (fun t_ k_ => XS.aloadN X16.here hx rfl (hb hby d39_19) rfl rfl k_)
  refine Goes.on (T' := T16) (g' := (mkF m 22 #[.val (.ref x), .val (.int hv), .val (.ref k), .val (.ref u), .val .null] [.null, (.ref x)])) ?_ (fun t_ k_ => XS.aload X16.here hx rfl (hb hby d39_20) rfl rfl k_)
  obtain ⟨T23, h23, X23, e23, W23, st23⟩ := putF X16 hx hZ hown (host := "") (Or.inl (hw _ (List.mem_of_getElem? (i := 276) rfl))) Via.refl e16 fx20 fx21 (Or.inl (hw _ (List.mem_of_getElem? (i := 277) rfl))) (hw _ (List.mem_of_getElem? (i := 263) rfl)) (ty := (.object "java/util/HashMap$Node")) (by decide) rfl rfl (g := (mkF m 22 #[.val (.ref x), .val (.int hv), .val (.ref k), .val (.ref u), .val .null] [.null, (.ref x)])) rfl rfl (hb hby d39_22)
  have N23 := Fr.snoc X23 N16 ga
  have Z23 : n0 ≤ h23.size := Nat.le_trans Z16 (Nat.le_of_eq W23.size.symm)
  refine Goes.on (T' := T23) (g' := (mkF m 25 #[.val (.ref x), .val (.int hv), .val (.ref k), .val (.ref u), .val .null] [])) ?_ st23
  have fx24 := fx17.other W23 (Or.inr (slot_ne (Or.inr (hw _ (List.mem_of_getElem? (i := 271) rfl))) (Or.inl (hw _ (List.mem_of_getElem? (i := 277) rfl))) (by decide) (t := .int) (t' := (.object "java/util/HashMap$Node")) (by decide) (by decide)))
  have fx25 := fx18.other W23 (Or.inr (slot_ne (Or.inr (hw _ (List.mem_of_getElem? (i := 273) rfl))) (Or.inl (hw _ (List.mem_of_getElem? (i := 277) rfl))) (by decide) (t := (.object "java/lang/Object")) (t' := (.object "java/util/HashMap$Node")) (by decide) (by decide)))
  have fx26 := fx19.other W23 (Or.inr (slot_ne (Or.inl (hw _ (List.mem_of_getElem? (i := 275) rfl))) (Or.inl (hw _ (List.mem_of_getElem? (i := 277) rfl))) (by decide) (t := (.object "java/lang/Object")) (t' := (.object "java/util/HashMap$Node")) (by decide) (by decide)))
  have fx27 := fx20.same W23
  have fx28 := fx21.wr W23
  have kp29 := kp22.wr W23 (Or.inl (by simp))
  rw [hWd]
  exact Goes.retn X23 (v := none) (fun fs hr => X23.returnOut hx Bd.returns (hb hby d39_25) hr) (fun _ => rfl) Bd.notSynchronized (by decide) (by decide) (by rw [e23]; exact ⟨rfl, N23, kp29, fx28, fx24, fx25, fx26, fx27⟩)
def QNN (Z : State) (m_ k u : Addr) (hv : Int32) (h0 : Heap) (n0 : Nat) (v : Option Value) (h : Heap) (L : List Loc) : Prop := ∃ b, v = some (.ref b) ∧ Fr n0 L ∧ Keep h0 h [] ∧ h0.size ≤ b ∧ Exa Z h b "java/util/HashMap$Node" ∧ Fld Z h b "java/util/HashMap$Node" "hash" "I" (.int hv) ∧ Fld Z h b "java/util/HashMap$Node" "key" "Ljava/lang/Object;" (.ref k) ∧ Fld Z h b "java/util/HashMap$Node" "value" "Ljava/lang/Object;" (.ref u) ∧ Fld Z h b "java/util/HashMap$Node" "next" "Ljava/util/HashMap$Node;" .null
set_option maxRecDepth 65536 in
set_option maxHeartbeats 40000000 in
theorem rmNN (l : Launch) (Z : State) (a0 : Array Value) (hw : ∀ d ∈ tables_1, d.before a0 Z = true) (ws : List Jvm.Cond) (m_ k u : Addr) (hv : Int32) (h0 : Heap) (n0 : Nat) (Z0 : n0 ≤ h0.size)  :
    MetFree l (⟨"java/util/HashMap", "newNode", "(ILjava/lang/Object;Ljava/lang/Object;Ljava/util/HashMap$Node;)Ljava/util/HashMap$Node;"⟩ : MethodName) (head1 (Jvm.Cond.code (⟨"java/util/HashMap", "newNode", "(ILjava/lang/Object;Ljava/lang/Object;Ljava/util/HashMap$Node;)Ljava/util/HashMap$Node;"⟩ : MethodName) jdk_69_method_46_code 5 (some (.object "java/util/HashMap$Node")) :: ws) ({ frames := 2, cells := 1, slots := 4, locals := 29 } : Room)) (fun a_ U => a_ = #[(.ref m_), (.int hv), (.ref k), (.ref u), .null] ∧ Z.Warmed39 U.vm ∧ U.heap = h0) (fun _ _ _ _ _ => True) (fun _ U o U' => ∃ v L, o = .returned v ∧ QNN Z m_ k u hv h0 n0 v U'.heap L ∧ FrameEnd U o U' L ({ frames := 2, cells := 1, slots := 4, locals := 29 } : Room).cells ({ frames := 2, cells := 1, slots := 4, locals := 29 } : Room).slots) := by
  refine MetFree.of_bodySF (plainFor_of_name pn_9) hisR ?_
  intro p e s m args below meth c s₁ Bd hml0 hP hK
  obtain ⟨rfl, hZ, hh⟩ := hP
  have hx := Bd.exec
  have hby := Bd.bytes
  have hml : c.maxLocals = 5 := hml0
  have hown : s.vm.findClass "java/util/HashMap" = some m.cls := findClass_of_methodNamed Bd.named
  have hnm := (name_of_methodNamed Bd.named Bd.method).1
  have X0 : Stand p l e ({ frames := 2, cells := 1, slots := 4, locals := 29 } : Room) s m #[(.ref m_), (.int hv), (.ref k), (.ref u), .null] below meth c s₁ [] 0 0 := Stand.of_body Bd
  have e0 : s₁.heap = h0 := by rw [← hh, Bd.state]; rfl
  have N0 := Fr.nil n0
  refine Goes.done ?_
  obtain ⟨W, hWd⟩ : ∃ W : State → Prop, W = EndW s below (QNN Z m_ k u hv h0 n0) ({ frames := 2, cells := 1, slots := 4, locals := 29 } : Room).cells ({ frames := 2, cells := 1, slots := 4, locals := 29 } : Room).slots := ⟨_, rfl⟩
  rw [← hWd]
  have hef : entryFrame m #[(.ref m_), (.int hv), (.ref k), (.ref u), .null] 5 = (mkF m 0 #[.val (.ref m_), .val (.int hv), .val (.ref k), .val (.ref u), .val .null] []) := by first | (simp [entryFrame, mkF, argsToLocals, Value.category]; done) | rfl
  rw [hef]
  obtain ⟨T1, h1, X1, e1, E1, A1, D1, -, st1⟩ := newO X0 hx hZ hown (hw _ (List.mem_of_getElem? (i := 256) rfl)) (hw _ (List.mem_of_getElem? (i := 263) rfl)) (hw _ (List.mem_of_getElem? (i := 264) rfl)) e0 (g := (mkF m 0 #[.val (.ref m_), .val (.int hv), .val (.ref k), .val (.ref u), .val .null] [])) rfl (hb hby d38_0) (by decide) (by decide)
  obtain ⟨b1, gb1⟩ : ∃ z, z = h0.size := ⟨_, rfl⟩
  rw [← gb1] at A1 D1 st1
  have Z1 : n0 ≤ h1.size := Nat.le_trans Z0 E1.1
  have g_b1 : n0 ≤ b1 := Nat.le_trans Z0 (Nat.le_of_eq gb1.symm)
  refine Goes.on (T' := T1) (g' := (mkF m 3 #[.val (.ref m_), .val (.int hv), .val (.ref k), .val (.ref u), .val .null] [(.ref b1)])) ?_ st1
  have F1_hash : Fld Z h1 b1 "java/util/HashMap$Node" "hash" "I" (.int (0 : Int32)) := D1 (Or.inr (hw _ (List.mem_of_getElem? (i := 271) rfl))) (ty := .int) (by decide)
  have F1_key : Fld Z h1 b1 "java/util/HashMap$Node" "key" "Ljava/lang/Object;" .null := D1 (Or.inr (hw _ (List.mem_of_getElem? (i := 273) rfl))) (ty := (.object "java/lang/Object")) (by decide)
  have F1_value : Fld Z h1 b1 "java/util/HashMap$Node" "value" "Ljava/lang/Object;" .null := D1 (Or.inl (hw _ (List.mem_of_getElem? (i := 275) rfl))) (ty := (.object "java/lang/Object")) (by decide)
  have F1_next : Fld Z h1 b1 "java/util/HashMap$Node" "next" "Ljava/util/HashMap$Node;" .null := D1 (Or.inl (hw _ (List.mem_of_getElem? (i := 277) rfl))) (ty := (.object "java/util/HashMap$Node")) (by decide)
  have kp2 := (Keep.refl h0 []).ext E1
  refine Goes.on (T' := T1) (g' := (mkF m 4 #[.val (.ref m_), .val (.int hv), .val (.ref k), .val (.ref u), .val .null] [(.ref b1), (.ref b1)])) ?_ (fun t_ k_ => XS.dup X1.here hx rfl (hb hby d38_3) rfl rfl k_)
  refine Goes.on (T' := T1) (g' := (mkF m 5 #[.val (.ref m_), .val (.int hv), .val (.ref k), .val (.ref u), .val .null] [(.int hv), (.ref b1), (.ref b1)])) ?_ (fun t_ k_ => XS.iloadN X1.here hx rfl (hb hby d38_4) rfl k_)
  refine Goes.on (T' := T1) (g' := (mkF m 6 #[.val (.ref m_), .val (.int hv), .val (.ref k), .val (.ref u), .val .null] [(.ref k), (.int hv), (.ref b1), (.ref b1)])) ?_ (fun t_ k_ => XS.aloadN X1.here hx rfl (hb hby d38_5) rfl rfl k_)
  refine Goes.on (T' := T1) (g' := (mkF m 7 #[.val (.ref m_), .val (.int hv), .val (.ref k), .val (.ref u), .val .null] [(.ref u), (.ref k), (.int hv), (.ref b1), (.ref b1)])) ?_ (fun t_ k_ => XS.aloadN X1.here hx rfl (hb hby d38_6) rfl rfl k_)
  refine Goes.on (T' := T1) (g' := (mkF m 9 #[.val (.ref m_), .val (.int hv), .val (.ref k), .val (.ref u), .val .null] [.null, (.ref u), (.ref k), (.int hv), (.ref b1), (.ref b1)])) ?_ (fun t_ k_ => XS.aload X1.here hx rfl (hb hby d38_7) rfl rfl k_)
  obtain ⟨_, _, ⟨T3, Lq_3, kq_3, nq_3⟩, -, X3, ⟨Lc3, hQ3, l3, y3, z3⟩, st3⟩ := X1.specialBack hx (y := (⟨"java/util/HashMap$Node", "<init>", "(ILjava/lang/Object;Ljava/lang/Object;Ljava/util/HashMap$Node;)V"⟩ : MethodName)) rfl hown (mvT hZ (hw _ (List.mem_of_getElem? (i := 265) rfl))) (mvT hZ (hw _ (List.mem_of_getElem? (i := 266) rfl))) (mvT hZ (hw _ (List.mem_of_getElem? (i := 268) rfl))) (by decide) (backOf (W := 1) (rmND l Z a0 hw [] b1 k u hv h1 n0 Z1 A1 g_b1 F1_hash F1_key F1_value F1_next) hZ (hw _ (List.mem_of_getElem? (i := 268) rfl)) (hw _ (List.mem_of_getElem? (i := 264) rfl)) (by decide) (by decide)) (g := (mkF m 9 #[.val (.ref m_), .val (.int hv), .val (.ref k), .val (.ref u), .val .null] [.null, (.ref u), (.ref k), (.int hv), (.ref b1), (.ref b1)])) rfl (by rw [hml]; rfl) (Steps.refl _) (a := b1) (argsL := [(.int hv), (.ref k), (.ref u), .null]) (rest := [(.ref b1)]) (lenOf pd_13 rfl) rfl (by show 2 * 0 + _ ≤ _; exact Nat.le_of_eq rfl) (hb hby d38_9) (fun _ _ => ⟨rfl, e1, (by decide : 1 + 0 ≤ _), (by decide : 4 + 0 ≤ _)⟩)
  dsimp only [Pt.U, Pt.locs, Pt.cells, Pt.slots] at X3 l3 y3 z3 st3 hQ3
  rw [l3, y3, z3] at X3
  change Stand p l e _ _ m _ below meth c T3 _ 1 4 at X3
  obtain ⟨rfl, N3q, K3, EX, G1, G2, G3, G4⟩ := hQ3
  have N3 := Fr.app N0 N3q
  refine Goes.on (T' := T3) (g' := (mkF m 12 #[.val (.ref m_), .val (.int hv), .val (.ref k), .val (.ref u), .val .null] [(.ref b1)])) ?_ (fun t => st3.trans)
  have kp4 := kp2.trans K3 (allS (Or.inr (Nat.le_of_eq gb1.symm)) all0)
  rw [hWd]
  exact Goes.retn X3 (v := some (.ref b1)) (fun fs hr => retA X3 hx Bd.returns rfl rfl (hb hby d38_12) hr) (fun h => by rw [Bd.returns] at h; cases h) Bd.notSynchronized (by decide) (by decide) ⟨b1, rfl, N3, kp4, Nat.le_of_eq gb1.symm, EX, G1, G2, G3, G4⟩
def QAN (Z : State) (m_ : Addr) (h0 : Heap) (n0 : Nat) (v : Option Value) (h : Heap) (L : List Loc) : Prop := v = none ∧ Fr n0 L ∧ h = h0
set_option maxRecDepth 65536 in
set_option maxHeartbeats 40000000 in
theorem rmAN (l : Launch) (Z : State) (a0 : Array Value) (hw : ∀ d ∈ tables_1, d.before a0 Z = true) (ws : List Jvm.Cond) (m_ : Addr) (h0 : Heap) (n0 : Nat) (Z0 : n0 ≤ h0.size)  :
    MetFree l (⟨"java/util/HashMap", "afterNodeInsertion", "(Z)V"⟩ : MethodName) (head1 (Jvm.Cond.code (⟨"java/util/HashMap", "afterNodeInsertion", "(Z)V"⟩ : MethodName) jdk_69_method_52_code 2 none :: ws) ({ frames := 0, cells := 0, slots := 0, locals := 0 } : Room)) (fun a_ U => a_ = #[(.ref m_), (.int (1 : Int32))] ∧ Z.Warmed39 U.vm ∧ U.heap = h0) (fun _ _ _ _ _ => True) (fun _ U o U' => ∃ v L, o = .returned v ∧ QAN Z m_ h0 n0 v U'.heap L ∧ FrameEnd U o U' L ({ frames := 0, cells := 0, slots := 0, locals := 0 } : Room).cells ({ frames := 0, cells := 0, slots := 0, locals := 0 } : Room).slots) := by
  refine MetFree.of_bodySF (plainFor_of_name pn_9) hisR ?_
  intro p e s m args below meth c s₁ Bd hml0 hP hK
  obtain ⟨rfl, hZ, hh⟩ := hP
  have hx := Bd.exec
  have hby := Bd.bytes
  have hml : c.maxLocals = 2 := hml0
  have hown : s.vm.findClass "java/util/HashMap" = some m.cls := findClass_of_methodNamed Bd.named
  have hnm := (name_of_methodNamed Bd.named Bd.method).1
  have X0 : Stand p l e ({ frames := 0, cells := 0, slots := 0, locals := 0 } : Room) s m #[(.ref m_), (.int (1 : Int32))] below meth c s₁ [] 0 0 := Stand.of_body Bd
  have e0 : s₁.heap = h0 := by rw [← hh, Bd.state]; rfl
  have N0 := Fr.nil n0
  refine Goes.done ?_
  obtain ⟨W, hWd⟩ : ∃ W : State → Prop, W = EndW s below (QAN Z m_ h0 n0) ({ frames := 0, cells := 0, slots := 0, locals := 0 } : Room).cells ({ frames := 0, cells := 0, slots := 0, locals := 0 } : Room).slots := ⟨_, rfl⟩
  rw [← hWd]
  have hef : entryFrame m #[(.ref m_), (.int (1 : Int32))] 2 = (mkF m 0 #[.val (.ref m_), .val (.int (1 : Int32))] []) := by first | (simp [entryFrame, mkF, argsToLocals, Value.category]; done) | rfl
  rw [hef]
  rw [hWd]
  exact Goes.retn X0 (v := none) (fun fs hr => X0.returnOut hx Bd.returns (hb hby d40_0) hr) (fun _ => rfl) Bd.notSynchronized (by decide) (by decide) (by rw [e0]; exact ⟨rfl, N0, rfl⟩)
def QPV (Z : State) (m_ k u : Addr) (hv : Int32) (h0 : Heap) (n0 : Nat) (v : Option Value) (h : Heap) (L : List Loc) : Prop := ∃ b nd kb, v = some .null ∧ Fr n0 L ∧ Keep h0 h [m_] ∧ h0.size ≤ b ∧ h0.size ≤ nd ∧ Hm1 Z h m_ b nd kb hv k u
set_option maxRecDepth 65536 in
set_option maxHeartbeats 40000000 in
theorem rmPV (l : Launch) (Z : State) (a0 : Array Value) (hw : ∀ d ∈ tables_1, d.before a0 Z = true) (ws : List Jvm.Cond) (m_ k u : Addr) (hv : Int32) (h0 : Heap) (n0 : Nat) (Z0 : n0 ≤ h0.size) (A : Hm0 Z h0 m_) (ga : n0 ≤ m_) :
    MetFree l (⟨"java/util/HashMap", "putVal", "(ILjava/lang/Object;Ljava/lang/Object;ZZ)Ljava/lang/Object;"⟩ : MethodName) (head1 (Jvm.Cond.code (⟨"java/util/HashMap", "putVal", "(ILjava/lang/Object;Ljava/lang/Object;ZZ)Ljava/lang/Object;"⟩ : MethodName) jdk_69_method_16_code 13 (some (.object "java/lang/Object")) :: ws) ({ frames := 3, cells := 2, slots := 20, locals := 47 } : Room)) (fun a_ U => a_ = #[(.ref m_), (.int hv), (.ref k), (.ref u), (.int (0 : Int32)), (.int (1 : Int32))] ∧ Z.Warmed39 U.vm ∧ U.heap = h0) (fun _ _ _ _ _ => True) (fun _ U o U' => ∃ v L, o = .returned v ∧ QPV Z m_ k u hv h0 n0 v U'.heap L ∧ FrameEnd U o U' L ({ frames := 3, cells := 2, slots := 20, locals := 47 } : Room).cells ({ frames := 3, cells := 2, slots := 20, locals := 47 } : Room).slots) := by
  refine MetFree.of_bodySF (plainFor_of_name pn_9) hisR ?_
  intro p e s m args below meth c s₁ Bd hml0 hP hK
  obtain ⟨rfl, hZ, hh⟩ := hP
  have hx := Bd.exec
  have hby := Bd.bytes
  have hml : c.maxLocals = 13 := hml0
  have hown : s.vm.findClass "java/util/HashMap" = some m.cls := findClass_of_methodNamed Bd.named
  have hnm := (name_of_methodNamed Bd.named Bd.method).1
  have X0 : Stand p l e ({ frames := 3, cells := 2, slots := 20, locals := 47 } : Room) s m #[(.ref m_), (.int hv), (.ref k), (.ref u), (.int (0 : Int32)), (.int (1 : Int32))] below meth c s₁ [] 0 0 := Stand.of_body Bd
  have e0 : s₁.heap = h0 := by rw [← hh, Bd.state]; rfl
  have N0 := Fr.nil n0
  refine Goes.done ?_
  obtain ⟨W, hWd⟩ : ∃ W : State → Prop, W = EndW s below (QPV Z m_ k u hv h0 n0) ({ frames := 3, cells := 2, slots := 20, locals := 47 } : Room).cells ({ frames := 3, cells := 2, slots := 20, locals := 47 } : Room).slots := ⟨_, rfl⟩
  rw [← hWd]
  have hef : entryFrame m #[(.ref m_), (.int hv), (.ref k), (.ref u), (.int (0 : Int32)), (.int (1 : Int32))] 13 = (mkF m 0 #[.val (.ref m_), .val (.int hv), .val (.ref k), .val (.ref u), .val (.int (0 : Int32)), .val (.int (1 : Int32)), .unset, .unset, .unset, .unset, .unset, .unset, .unset] []) := by first | (simp [entryFrame, mkF, argsToLocals, Value.category]; done) | rfl
  rw [hef]
  refine Goes.on (T' := s₁) (g' := (mkF m 1 #[.val (.ref m_), .val (.int hv), .val (.ref k), .val (.ref u), .val (.int (0 : Int32)), .val (.int (1 : Int32)), .unset, .unset, .unset, .unset, .unset, .unset, .unset] [(.ref m_)])) ?_ (fun t_ k_ => XS.aloadN X0.here hx rfl (hb hby d36_0) rfl rfl k_)
  obtain ⟨T1, X1, e1, st1⟩ := getF X0 hx hZ hown (host := "") (Or.inl (hw _ (List.mem_of_getElem? (i := 200) rfl))) Via.refl e0 A.T (g := (mkF m 1 #[.val (.ref m_), .val (.int hv), .val (.ref k), .val (.ref u), .val (.int (0 : Int32)), .val (.int (1 : Int32)), .unset, .unset, .unset, .unset, .unset, .unset, .unset] [(.ref m_)])) rfl rfl (hb hby d36_1)
  refine Goes.on (T' := T1) (g' := (mkF m 4 #[.val (.ref m_), .val (.int hv), .val (.ref k), .val (.ref u), .val (.int (0 : Int32)), .val (.int (1 : Int32)), .unset, .unset, .unset, .unset, .unset, .unset, .unset] [.null])) ?_ st1
  refine Goes.on (T' := T1) (g' := (mkF m 5 #[.val (.ref m_), .val (.int hv), .val (.ref k), .val (.ref u), .val (.int (0 : Int32)), .val (.int (1 : Int32)), .unset, .unset, .unset, .unset, .unset, .unset, .unset] [.null, .null])) ?_ (fun t_ k_ => XS.dup X1.here hx rfl (hb hby d36_4) rfl rfl k_)
  refine Goes.on (T' := T1) (g' := (mkF m 7 #[.val (.ref m_), .val (.int hv), .val (.ref k), .val (.ref u), .val (.int (0 : Int32)), .val (.int (1 : Int32)), .val .null, .unset, .unset, .unset, .unset, .unset, .unset] [.null])) ?_ (fun t_ k_ => XS.astore X1.here hx rfl (hb hby d36_5) rfl rfl (l' := #[.val (.ref m_), .val (.int hv), .val (.ref k), .val (.ref u), .val (.int (0 : Int32)), .val (.int (1 : Int32)), .val .null, .unset, .unset, .unset, .unset, .unset, .unset]) rfl k_)
  refine Goes.on (T' := T1) (g' := (mkF m 19 #[.val (.ref m_), .val (.int hv), .val (.ref k), .val (.ref u), .val (.int (0 : Int32)), .val (.int (1 : Int32)), .val .null, .unset, .unset, .unset, .unset, .unset, .unset] [])) ?_ (fun t_ k_ => XS.ifnullYes X1.here hx rfl (pc0 := 7) (pc' := 19) rfl (hb hby d36_7) rfl (by decide) (by decide) k_)
  refine Goes.on (T' := T1) (g' := (mkF m 20 #[.val (.ref m_), .val (.int hv), .val (.ref k), .val (.ref u), .val (.int (0 : Int32)), .val (.int (1 : Int32)), .val .null, .unset, .unset, .unset, .unset, .unset, .unset] [(.ref m_)])) ?_ (fun t_ k_ => XS.aloadN X1.here hx rfl (hb hby d36_19) rfl rfl k_)
  obtain ⟨cq2, kq2, q2a, q2b, q2c⟩ := isOf hZ e1 A.E
  obtain ⟨_, _, ⟨T2, Lq_2, kq_2, nq_2⟩, -, X2, ⟨Lc2, hQ2, l2, y2, z2⟩, st2⟩ := X1.virtualBack hx (y := (⟨"java/util/HashMap", "resize", "()[Ljava/util/HashMap$Node;"⟩ : MethodName)) (z := (⟨"java/util/HashMap", "resize", "()[Ljava/util/HashMap$Node;"⟩ : MethodName)) hown (mvT hZ (hw _ (List.mem_of_getElem? (i := 249) rfl))) (mvT hZ (hw _ (List.mem_of_getElem? (i := 250) rfl))) (notFace_of_selects (args := #[]) (mvT hZ (hw _ (List.mem_of_getElem? (i := 252) rfl)))) (mvT hZ (hw _ (List.mem_of_getElem? (i := 252) rfl))) (mvT hZ (hw _ (List.mem_of_getElem? (i := 251) rfl))) (by decide) (backOf (W := 0) (rmRZ l Z a0 hw [] m_ h0 n0 Z0 A ga) hZ (hw _ (List.mem_of_getElem? (i := 253) rfl)) (hw _ (List.mem_of_getElem? (i := 122) rfl)) (by decide) (by decide)) q2a q2c (g := (mkF m 20 #[.val (.ref m_), .val (.int hv), .val (.ref k), .val (.ref u), .val (.int (0 : Int32)), .val (.int (1 : Int32)), .val .null, .unset, .unset, .unset, .unset, .unset, .unset] [(.ref m_)])) rfl (by rw [hml]; rfl) (Steps.refl _) (argsL := []) (rest := []) (lenOf pd_14 rfl) rfl (by show 2 * 0 + _ ≤ _; exact Nat.le_of_eq rfl) (hb hby d36_20) (fun _ _ => ⟨rfl, e1, (by decide : 0 + 1 ≤ _), (by decide : 0 + 16 ≤ _)⟩)
  dsimp only [Pt.U, Pt.locs, Pt.cells, Pt.slots] at X2 l2 y2 z2 st2 hQ2
  rw [l2, y2, z2] at X2
  change Stand p l e _ _ m _ below meth c T2 _ 1 16 at X2
  obtain ⟨b, kb, rfl, N2q, K2, szb, RE, RT, RH, RS, RC, RV, OV⟩ := hQ2
  have N2 := Fr.app N0 N2q
  refine Goes.on (T' := T2) (g' := (mkF m 23 #[.val (.ref m_), .val (.int hv), .val (.ref k), .val (.ref u), .val (.int (0 : Int32)), .val (.int (1 : Int32)), .val .null, .unset, .unset, .unset, .unset, .unset, .unset] [(.ref b)])) ?_ (fun t => st2.trans)
  have Zr : n0 ≤ T2.heap.size := Nat.le_trans Z0 K2.1
  have gb_ : n0 ≤ b := Nat.le_trans Z0 szb
  have mb : m_ ≠ b := Nat.ne_of_lt (Nat.lt_of_lt_of_le A.E.lt szb)
  obtain ⟨cB, AB, qB, SB, MB, HB_, GB⟩ := id RV
  have ib := own_i15 hv
  have kp3 := (Keep.refl h0 [m_]).trans K2 (fun y hy => Or.inl hy)
  refine Goes.on (T' := T2) (g' := (mkF m 24 #[.val (.ref m_), .val (.int hv), .val (.ref k), .val (.ref u), .val (.int (0 : Int32)), .val (.int (1 : Int32)), .val .null, .unset, .unset, .unset, .unset, .unset, .unset] [(.ref b), (.ref b)])) ?_ (fun t_ k_ => XS.dup X2.here hx rfl (hb hby d36_23) rfl rfl k_)
  refine Goes.on (T' := T2) (g' := (mkF m 26 #[.val (.ref m_), .val (.int hv), .val (.ref k), .val (.ref u), .val (.int (0 : Int32)), .val (.int (1 : Int32)), .val (.ref b), .unset, .unset, .unset, .unset, .unset, .unset] [(.ref b)])) ?_ (fun t_ k_ => XS.astore X2.here hx rfl (hb hby d36_24) rfl rfl (l' := #[.val (.ref m_), .val (.int hv), .val (.ref k), .val (.ref u), .val (.int (0 : Int32)), .val (.int (1 : Int32)), .val (.ref b), .unset, .unset, .unset, .unset, .unset, .unset]) rfl k_)
  refine Goes.on (T' := T2) (g' := (mkF m 27 #[.val (.ref m_), .val (.int hv), .val (.ref k), .val (.ref u), .val (.int (0 : Int32)), .val (.int (1 : Int32)), .val (.ref b), .unset, .unset, .unset, .unset, .unset, .unset] [(.int cB.slots.size.toInt32)])) ?_ (X2.arraylength hx AB.1 (State.isArrayOf_alike hZ.alike AB.2.1) (g := (mkF m 26 #[.val (.ref m_), .val (.int hv), .val (.ref k), .val (.ref u), .val (.int (0 : Int32)), .val (.int (1 : Int32)), .val (.ref b), .unset, .unset, .unset, .unset, .unset, .unset] [(.ref b)])) rfl rfl (hb hby d36_26))
  rw [len_of SB MB]
  refine Goes.on (T' := T2) (g' := (mkF m 29 #[.val (.ref m_), .val (.int hv), .val (.ref k), .val (.ref u), .val (.int (0 : Int32)), .val (.int (1 : Int32)), .val (.ref b), .unset, .val (.int (16 : Int32)), .unset, .unset, .unset, .unset] [])) ?_ (fun t_ k_ => XS.istore X2.here hx rfl (hb hby d36_27) rfl (l' := #[.val (.ref m_), .val (.int hv), .val (.ref k), .val (.ref u), .val (.int (0 : Int32)), .val (.int (1 : Int32)), .val (.ref b), .unset, .val (.int (16 : Int32)), .unset, .unset, .unset, .unset]) rfl k_)
  refine Goes.on (T' := T2) (g' := (mkF m 31 #[.val (.ref m_), .val (.int hv), .val (.ref k), .val (.ref u), .val (.int (0 : Int32)), .val (.int (1 : Int32)), .val (.ref b), .unset, .val (.int (16 : Int32)), .unset, .unset, .unset, .unset] [(.ref b)])) ?_ (fun t_ k_ => XS.aload X2.here hx rfl (hb hby d36_29) rfl rfl k_)
  refine Goes.on (T' := T2) (g' := (mkF m 33 #[.val (.ref m_), .val (.int hv), .val (.ref k), .val (.ref u), .val (.int (0 : Int32)), .val (.int (1 : Int32)), .val (.ref b), .unset, .val (.int (16 : Int32)), .unset, .unset, .unset, .unset] [(.int (16 : Int32)), (.ref b)])) ?_ (fun t_ k_ => XS.iload X2.here hx rfl (hb hby d36_31) rfl k_)
  refine Goes.on (T' := T2) (g' := (mkF m 34 #[.val (.ref m_), .val (.int hv), .val (.ref k), .val (.ref u), .val (.int (0 : Int32)), .val (.int (1 : Int32)), .val (.ref b), .unset, .val (.int (16 : Int32)), .unset, .unset, .unset, .unset] [(.int (1 : Int32)), (.int (16 : Int32)), (.ref b)])) ?_ (fun t_ k_ => XS.iconst X2.here hx rfl (hb hby d36_33) k_)
  refine Goes.on (T' := T2) (g' := (mkF m 35 #[.val (.ref m_), .val (.int hv), .val (.ref k), .val (.ref u), .val (.int (0 : Int32)), .val (.int (1 : Int32)), .val (.ref b), .unset, .val (.int (16 : Int32)), .unset, .unset, .unset, .unset] [(.int (15 : Int32)), (.ref b)])) ?_ (fun t_ k_ => XS.isub X2.here hx rfl (hb hby d36_34) rfl k_)
  refine Goes.on (T' := T2) (g' := (mkF m 36 #[.val (.ref m_), .val (.int hv), .val (.ref k), .val (.ref u), .val (.int (0 : Int32)), .val (.int (1 : Int32)), .val (.ref b), .unset, .val (.int (16 : Int32)), .unset, .unset, .unset, .unset] [(.int hv), (.int (15 : Int32)), (.ref b)])) ?_ (fun t_ k_ => XS.iloadN X2.here hx rfl (hb hby d36_35) rfl k_)
  refine Goes.on (T' := T2) (g' := (mkF m 37 #[.val (.ref m_), .val (.int hv), .val (.ref k), .val (.ref u), .val (.int (0 : Int32)), .val (.int (1 : Int32)), .val (.ref b), .unset, .val (.int (16 : Int32)), .unset, .unset, .unset, .unset] [(.int ((15 : Int32) &&& hv)), (.ref b)])) ?_ (fun t_ k_ => XS.iand X2.here hx rfl (hb hby d36_36) rfl k_)
  refine Goes.on (T' := T2) (g' := (mkF m 38 #[.val (.ref m_), .val (.int hv), .val (.ref k), .val (.ref u), .val (.int (0 : Int32)), .val (.int (1 : Int32)), .val (.ref b), .unset, .val (.int (16 : Int32)), .unset, .unset, .unset, .unset] [(.int ((15 : Int32) &&& hv)), (.int ((15 : Int32) &&& hv)), (.ref b)])) ?_ (fun t_ k_ => XS.dup X2.here hx rfl (hb hby d36_37) rfl rfl k_)
  refine Goes.on (T' := T2) (g' := (mkF m 40 #[.val (.ref m_), .val (.int hv), .val (.ref k), .val (.ref u), .val (.int (0 : Int32)), .val (.int (1 : Int32)), .val (.ref b), .unset, .val (.int (16 : Int32)), .val (.int ((15 : Int32) &&& hv)), .unset, .unset, .unset] [(.int ((15 : Int32) &&& hv)), (.ref b)])) ?_ (fun t_ k_ => XS.istore X2.here hx rfl (hb hby d36_38) rfl (l' := #[.val (.ref m_), .val (.int hv), .val (.ref k), .val (.ref u), .val (.int (0 : Int32)), .val (.int (1 : Int32)), .val (.ref b), .unset, .val (.int (16 : Int32)), .val (.int ((15 : Int32) &&& hv)), .unset, .unset, .unset]) rfl k_)
  refine Goes.on (T' := T2) (g' := (mkF m 41 #[.val (.ref m_), .val (.int hv), .val (.ref k), .val (.ref u), .val (.int (0 : Int32)), .val (.int (1 : Int32)), .val (.ref b), .unset, .val (.int (16 : Int32)), .val (.int ((15 : Int32) &&& hv)), .unset, .unset, .unset] [.null])) ?_ (X2.aaload hx (j := ((15 : Int32) &&& hv)) (v := .null) AB.1 (State.isArrayOf_alike hZ.alike AB.2.1) rfl AB.2.2 (inb_of SB ⟨ib.1, ib.2.1⟩) (by rw [HB_ _ (by rw [SB]; exact ib.2.2)]; rfl) (g := (mkF m 40 #[.val (.ref m_), .val (.int hv), .val (.ref k), .val (.ref u), .val (.int (0 : Int32)), .val (.int (1 : Int32)), .val (.ref b), .unset, .val (.int (16 : Int32)), .val (.int ((15 : Int32) &&& hv)), .unset, .unset, .unset] [(.int ((15 : Int32) &&& hv)), (.ref b)])) rfl rfl (hb hby d36_40))
  refine Goes.on (T' := T2) (g' := (mkF m 42 #[.val (.ref m_), .val (.int hv), .val (.ref k), .val (.ref u), .val (.int (0 : Int32)), .val (.int (1 : Int32)), .val (.ref b), .unset, .val (.int (16 : Int32)), .val (.int ((15 : Int32) &&& hv)), .unset, .unset, .unset] [.null, .null])) ?_ (fun t_ k_ => XS.dup X2.here hx rfl (hb hby d36_41) rfl rfl k_)
  refine Goes.on (T' := T2) (g' := (mkF m 44 #[.val (.ref m_), .val (.int hv), .val (.ref k), .val (.ref u), .val (.int (0 : Int32)), .val (.int (1 : Int32)), .val (.ref b), .val .null, .val (.int (16 : Int32)), .val (.int ((15 : Int32) &&& hv)), .unset, .unset, .unset] [.null])) ?_ (fun t_ k_ => XS.astore X2.here hx rfl (hb hby d36_42) rfl rfl (l' := #[.val (.ref m_), .val (.int hv), .val (.ref k), .val (.ref u), .val (.int (0 : Int32)), .val (.int (1 : Int32)), .val (.ref b), .val .null, .val (.int (16 : Int32)), .val (.int ((15 : Int32) &&& hv)), .unset, .unset, .unset]) rfl k_)
  refine Goes.on (T' := T2) (g' := (mkF m 47 #[.val (.ref m_), .val (.int hv), .val (.ref k), .val (.ref u), .val (.int (0 : Int32)), .val (.int (1 : Int32)), .val (.ref b), .val .null, .val (.int (16 : Int32)), .val (.int ((15 : Int32) &&& hv)), .unset, .unset, .unset] [])) ?_ (fun t_ k_ => XS.ifnonnullNo X2.here hx rfl (hb hby d36_44) rfl k_)
  refine Goes.on (T' := T2) (g' := (mkF m 49 #[.val (.ref m_), .val (.int hv), .val (.ref k), .val (.ref u), .val (.int (0 : Int32)), .val (.int (1 : Int32)), .val (.ref b), .val .null, .val (.int (16 : Int32)), .val (.int ((15 : Int32) &&& hv)), .unset, .unset, .unset] [(.ref b)])) ?_ (fun t_ k_ => XS.aload X2.here hx rfl (hb hby d36_47) rfl rfl k_)
  refine Goes.on (T' := T2) (g' := (mkF m 51 #[.val (.ref m_), .val (.int hv), .val (.ref k), .val (.ref u), .val (.int (0 : Int32)), .val (.int (1 : Int32)), .val (.ref b), .val .null, .val (.int (16 : Int32)), .val (.int ((15 : Int32) &&& hv)), .unset, .unset, .unset] [(.int ((15 : Int32) &&& hv)), (.ref b)])) ?_ (fun t_ k_ => XS.iload X2.here hx rfl (hb hby d36_49) rfl k_)
  refine Goes.on (T' := T2) (g' := (mkF m 52 #[.val (.ref m_), .val (.int hv), .val (.ref k), .val (.ref u), .val (.int (0 : Int32)), .val (.int (1 : Int32)), .val (.ref b), .val .null, .val (.int (16 : Int32)), .val (.int ((15 : Int32) &&& hv)), .unset, .unset, .unset] [(.ref m_), (.int ((15 : Int32) &&& hv)), (.ref b)])) ?_ (fun t_ k_ => XS.aloadN X2.here hx rfl (hb hby d36_51) rfl rfl k_)
  refine Goes.on (T' := T2) (g' := (mkF m 53 #[.val (.ref m_), .val (.int hv), .val (.ref k), .val (.ref u), .val (.int (0 : Int32)), .val (.int (1 : Int32)), .val (.ref b), .val .null, .val (.int (16 : Int32)), .val (.int ((15 : Int32) &&& hv)), .unset, .unset, .unset] [(.int hv), (.ref m_), (.int ((15 : Int32) &&& hv)), (.ref b)])) ?_ (fun t_ k_ => XS.iloadN X2.here hx rfl (hb hby d36_52) rfl k_)
  refine Goes.on (T' := T2) (g' := (mkF m 54 #[.val (.ref m_), .val (.int hv), .val (.ref k), .val (.ref u), .val (.int (0 : Int32)), .val (.int (1 : Int32)), .val (.ref b), .val .null, .val (.int (16 : Int32)), .val (.int ((15 : Int32) &&& hv)), .unset, .unset, .unset] [(.ref k), (.int hv), (.ref m_), (.int ((15 : Int32) &&& hv)), (.ref b)])) ?_ (fun t_ k_ => XS.aloadN X2.here hx rfl (hb hby d36_53) rfl rfl k_)
  refine Goes.on (T' := T2) (g' := (mkF m 55 #[.val (.ref m_), .val (.int hv), .val (.ref k), .val (.ref u), .val (.int (0 : Int32)), .val (.int (1 : Int32)), .val (.ref b), .val .null, .val (.int (16 : Int32)), .val (.int ((15 : Int32) &&& hv)), .unset, .unset, .unset] [(.ref u), (.ref k), (.int hv), (.ref m_), (.int ((15 : Int32) &&& hv)), (.ref b)])) ?_ (fun t_ k_ => XS.aloadN X2.here hx rfl (hb hby d36_54) rfl rfl k_)
  refine Goes.on (T' := T2) (g' := (mkF m 56 #[.val (.ref m_), .val (.int hv), .val (.ref k), .val (.ref u), .val (.int (0 : Int32)), .val (.int (1 : Int32)), .val (.ref b), .val .null, .val (.int (16 : Int32)), .val (.int ((15 : Int32) &&& hv)), .unset, .unset, .unset] [.null, (.ref u), (.ref k), (.int hv), (.ref m_), (.int ((15 : Int32) &&& hv)), (.ref b)])) ?_ (fun t_ k_ => XS.aconstNull X2.here hx rfl (hb hby d36_55) k_)
  obtain ⟨cq4, kq4, q4a, q4b, q4c⟩ := isOf hZ rfl RE
  obtain ⟨_, _, ⟨T4, Lq_4, kq_4, nq_4⟩, -, X4, ⟨Lc4, hQ4, l4, y4, z4⟩, st4⟩ := X2.virtualBack hx (y := (⟨"java/util/HashMap", "newNode", "(ILjava/lang/Object;Ljava/lang/Object;Ljava/util/HashMap$Node;)Ljava/util/HashMap$Node;"⟩ : MethodName)) (z := (⟨"java/util/HashMap", "newNode", "(ILjava/lang/Object;Ljava/lang/Object;Ljava/util/HashMap$Node;)Ljava/util/HashMap$Node;"⟩ : MethodName)) hown (mvT hZ (hw _ (List.mem_of_getElem? (i := 258) rfl))) (mvT hZ (hw _ (List.mem_of_getElem? (i := 259) rfl))) (notFace_of_selects (args := #[]) (mvT hZ (hw _ (List.mem_of_getElem? (i := 261) rfl)))) (mvT hZ (hw _ (List.mem_of_getElem? (i := 261) rfl))) (mvT hZ (hw _ (List.mem_of_getElem? (i := 260) rfl))) (by decide) (backOf (W := 2) (rmNN l Z a0 hw [] m_ k u hv T2.heap n0 Zr) hZ (hw _ (List.mem_of_getElem? (i := 262) rfl)) (hw _ (List.mem_of_getElem? (i := 122) rfl)) (by decide) (by decide)) q4a q4c (g := (mkF m 56 #[.val (.ref m_), .val (.int hv), .val (.ref k), .val (.ref u), .val (.int (0 : Int32)), .val (.int (1 : Int32)), .val (.ref b), .val .null, .val (.int (16 : Int32)), .val (.int ((15 : Int32) &&& hv)), .unset, .unset, .unset] [.null, (.ref u), (.ref k), (.int hv), (.ref m_), (.int ((15 : Int32) &&& hv)), (.ref b)])) rfl (by rw [hml]; rfl) (Steps.refl _) (argsL := [(.int hv), (.ref k), (.ref u), .null]) (rest := [(.int ((15 : Int32) &&& hv)), (.ref b)]) (lenOf pd_15 rfl) rfl (by show 2 * 0 + _ ≤ _; exact Nat.le_of_eq rfl) (hb hby d36_56) (fun _ _ => ⟨rfl, rfl, (by decide : 1 + 1 ≤ _), (by decide : 16 + 4 ≤ _)⟩)
  dsimp only [Pt.U, Pt.locs, Pt.cells, Pt.slots] at X4 l4 y4 z4 st4 hQ4
  rw [l4, y4, z4] at X4
  change Stand p l e _ _ m _ below meth c T4 _ 2 20 at X4
  obtain ⟨nd, rfl, N4q, K4, szn, NE, Nf1, Nf2, Nf3, Nf4⟩ := hQ4
  have N4 := Fr.app N2 N4q
  refine Goes.on (T' := T4) (g' := (mkF m 59 #[.val (.ref m_), .val (.int hv), .val (.ref k), .val (.ref u), .val (.int (0 : Int32)), .val (.int (1 : Int32)), .val (.ref b), .val .null, .val (.int (16 : Int32)), .val (.int ((15 : Int32) &&& hv)), .unset, .unset, .unset] [(.ref nd), (.int ((15 : Int32) &&& hv)), (.ref b)])) ?_ (fun t => st4.trans)
  have Zn : n0 ≤ T4.heap.size := Nat.le_trans Zr K4.1
  have ndm : nd ≠ m_ := Ne.symm (Nat.ne_of_lt (Nat.lt_of_lt_of_le RE.lt szn))
  have ndb : nd ≠ b := Ne.symm (Nat.ne_of_lt (Nat.lt_of_lt_of_le RV.lt szn))
  have szn0 : h0.size ≤ nd := Nat.le_trans kp3.1 szn
  have fx5 := RE.keep K4
  have fx6 := RT.keep K4 nin0
  have fx7 := RH.keep K4 nin0
  have fx8 := RS.keep K4 nin0
  have fx9 := RC.keep K4 nin0
  have fx10 := RV.keep K4 nin0
  have kp11 := kp3.trans K4 all0
  have VP : Arv Z T4.heap b kb (.object "java/util/HashMap$Node") (16 : Int32) (List.replicate 16 Value.null) .null := fx10.pad (fun i => by rw [List.getD_eq_getElem?_getD, List.getElem?_replicate]; split <;> rfl)
  obtain ⟨cP, AP, qP, SP, MP, HP_, GP⟩ := id VP
  obtain ⟨T12, h12, X12, e12, W12, st12⟩ := stR X4 hx hZ rfl AP (j := ((15 : Int32) &&& hv)) (inb_of SP ⟨ib.1, ib.2.1⟩) rfl (Sto.ofV AP qP OV (Ins.of_exa NE (hw _ (List.mem_of_getElem? (i := 267) rfl)))) (g := (mkF m 59 #[.val (.ref m_), .val (.int hv), .val (.ref k), .val (.ref u), .val (.int (0 : Int32)), .val (.int (1 : Int32)), .val (.ref b), .val .null, .val (.int (16 : Int32)), .val (.int ((15 : Int32) &&& hv)), .unset, .unset, .unset] [(.ref nd), (.int ((15 : Int32) &&& hv)), (.ref b)])) rfl rfl (hb hby d36_59)
  have N12 := Fr.snoc X12 N4 gb_
  have Z12 : n0 ≤ h12.size := Nat.le_trans Zn (Nat.le_of_eq W12.size.symm)
  refine Goes.on (T' := T12) (g' := (mkF m 60 #[.val (.ref m_), .val (.int hv), .val (.ref k), .val (.ref u), .val (.int (0 : Int32)), .val (.int (1 : Int32)), .val (.ref b), .val .null, .val (.int (16 : Int32)), .val (.int ((15 : Int32) &&& hv)), .unset, .unset, .unset] [])) ?_ st12
  have fx13 := fx5.wr W12
  have fx14 := fx6.other W12 (Or.inl mb)
  have fx15 := fx7.other W12 (Or.inl mb)
  have fx16 := fx8.other W12 (Or.inl mb)
  have fx17 := fx9.other W12 (Or.inl mb)
  have fx18 := NE.wr W12
  have fx19 := Nf1.other W12 (Or.inl ndb)
  have fx20 := Nf2.other W12 (Or.inl ndb)
  have fx21 := Nf3.other W12 (Or.inl ndb)
  have fx22 := Nf4.other W12 (Or.inl ndb)
  have kp23 := kp11.trans ((Keep.refl _ [b]).wr W12 (Or.inl (List.mem_cons_self ..))) (allS (Or.inr szb) all0)
  have V12 : Arv Z h12 b kb (.object "java/util/HashMap$Node") (16 : Int32) ((List.replicate 16 Value.null).set ((15 : Int32) &&& hv).toNatClampNeg (.ref nd)) .null := Arv.set AP qP SP MP HP_ GP rfl W12 _ rfl (by rw [List.length_replicate]; exact ib.2.2)
  refine Goes.on (T' := T12) (g' := (mkF m 259 #[.val (.ref m_), .val (.int hv), .val (.ref k), .val (.ref u), .val (.int (0 : Int32)), .val (.int (1 : Int32)), .val (.ref b), .val .null, .val (.int (16 : Int32)), .val (.int ((15 : Int32) &&& hv)), .unset, .unset, .unset] [])) ?_ (fun t_ k_ => XS.goto X12.here hx rfl (pc0 := 60) (pc' := 259) rfl (hb hby d36_60) (by decide) (by decide) k_)
  refine Goes.on (T' := T12) (g' := (mkF m 260 #[.val (.ref m_), .val (.int hv), .val (.ref k), .val (.ref u), .val (.int (0 : Int32)), .val (.int (1 : Int32)), .val (.ref b), .val .null, .val (.int (16 : Int32)), .val (.int ((15 : Int32) &&& hv)), .unset, .unset, .unset] [(.ref m_)])) ?_ (fun t_ k_ => XS.aloadN X12.here hx rfl (hb hby d36_259) rfl rfl k_)
  refine Goes.on (T' := T12) (g' := (mkF m 261 #[.val (.ref m_), .val (.int hv), .val (.ref k), .val (.ref u), .val (.int (0 : Int32)), .val (.int (1 : Int32)), .val (.ref b), .val .null, .val (.int (16 : Int32)), .val (.int ((15 : Int32) &&& hv)), .unset, .unset, .unset] [(.ref m_), (.ref m_)])) ?_ (fun t_ k_ => XS.dup X12.here hx rfl (hb hby d36_260) rfl rfl k_)
  obtain ⟨T24, X24, e24, st24⟩ := getF X12 hx hZ hown (host := "") (Or.inl (hw _ (List.mem_of_getElem? (i := 278) rfl))) Via.refl e12 fx17 (g := (mkF m 261 #[.val (.ref m_), .val (.int hv), .val (.ref k), .val (.ref u), .val (.int (0 : Int32)), .val (.int (1 : Int32)), .val (.ref b), .val .null, .val (.int (16 : Int32)), .val (.int ((15 : Int32) &&& hv)), .unset, .unset, .unset] [(.ref m_), (.ref m_)])) rfl rfl (hb hby d36_261)
  refine Goes.on (T' := T24) (g' := (mkF m 264 #[.val (.ref m_), .val (.int hv), .val (.ref k), .val (.ref u), .val (.int (0 : Int32)), .val (.int (1 : Int32)), .val (.ref b), .val .null, .val (.int (16 : Int32)), .val (.int ((15 : Int32) &&& hv)), .unset, .unset, .unset] [(.int (0 : Int32)), (.ref m_)])) ?_ st24
  refine Goes.on (T' := T24) (g' := (mkF m 265 #[.val (.ref m_), .val (.int hv), .val (.ref k), .val (.ref u), .val (.int (0 : Int32)), .val (.int (1 : Int32)), .val (.ref b), .val .null, .val (.int (16 : Int32)), .val (.int ((15 : Int32) &&& hv)), .unset, .unset, .unset] [(.int (1 : Int32)), (.int (0 : Int32)), (.ref m_)])) ?_ (fun t_ k_ => XS.iconst X24.here hx rfl (hb hby d36_264) k_)
  refine Goes.on (T' := T24) (g' := (mkF m 266 #[.val (.ref m_), .val (.int hv), .val (.ref k), .val (.ref u), .val (.int (0 : Int32)), .val (.int (1 : Int32)), .val (.ref b), .val .null, .val (.int (16 : Int32)), .val (.int ((15 : Int32) &&& hv)), .unset, .unset, .unset] [(.int (1 : Int32)), (.ref m_)])) ?_ (fun t_ k_ => XS.iadd X24.here hx rfl (hb hby d36_265) rfl k_)
  obtain ⟨T25, h25, X25, e25, W25, st25⟩ := putF X24 hx hZ hown (host := "") (Or.inl (hw _ (List.mem_of_getElem? (i := 278) rfl))) Via.refl e24 fx17 fx13 (Or.inl (hw _ (List.mem_of_getElem? (i := 279) rfl))) (hw _ (List.mem_of_getElem? (i := 121) rfl)) (ty := .int) (by decide) rfl rfl (g := (mkF m 266 #[.val (.ref m_), .val (.int hv), .val (.ref k), .val (.ref u), .val (.int (0 : Int32)), .val (.int (1 : Int32)), .val (.ref b), .val .null, .val (.int (16 : Int32)), .val (.int ((15 : Int32) &&& hv)), .unset, .unset, .unset] [(.int (1 : Int32)), (.ref m_)])) rfl rfl (hb hby d36_266)
  have N25 := Fr.snoc X25 N12 ga
  have Z25 : n0 ≤ h25.size := Nat.le_trans Z12 (Nat.le_of_eq W25.size.symm)
  refine Goes.on (T' := T25) (g' := (mkF m 269 #[.val (.ref m_), .val (.int hv), .val (.ref k), .val (.ref u), .val (.int (0 : Int32)), .val (.int (1 : Int32)), .val (.ref b), .val .null, .val (.int (16 : Int32)), .val (.int ((15 : Int32) &&& hv)), .unset, .unset, .unset] [])) ?_ st25
  have fx26 := fx13.wr W25
  have fx27 := fx14.other W25 (Or.inr (slot_ne (Or.inl (hw _ (List.mem_of_getElem? (i := 201) rfl))) (Or.inl (hw _ (List.mem_of_getElem? (i := 279) rfl))) (by decide) (t := (.array (.object "java/util/HashMap$Node"))) (t' := .int) (by decide) (by decide)))
  have fx28 := fx15.other W25 (Or.inr (slot_ne (Or.inl (hw _ (List.mem_of_getElem? (i := 255) rfl))) (Or.inl (hw _ (List.mem_of_getElem? (i := 279) rfl))) (by decide) (t := .int) (t' := .int) (by decide) (by decide)))
  have fx29 := fx16.other W25 (Or.inr (slot_ne (Or.inl (hw _ (List.mem_of_getElem? (i := 281) rfl))) (Or.inl (hw _ (List.mem_of_getElem? (i := 279) rfl))) (by decide) (t := .int) (t' := .int) (by decide) (by decide)))
  have fx30 := fx17.same W25
  have fx31 := fx18.wr W25
  have fx32 := fx19.other W25 (Or.inl ndm)
  have fx33 := fx20.other W25 (Or.inl ndm)
  have fx34 := fx21.other W25 (Or.inl ndm)
  have fx35 := fx22.other W25 (Or.inl ndm)
  have fx36 := V12.other W25 (Ne.symm mb)
  have kp37 := kp23.wr W25 (Or.inl (by simp))
  refine Goes.on (T' := T25) (g' := (mkF m 270 #[.val (.ref m_), .val (.int hv), .val (.ref k), .val (.ref u), .val (.int (0 : Int32)), .val (.int (1 : Int32)), .val (.ref b), .val .null, .val (.int (16 : Int32)), .val (.int ((15 : Int32) &&& hv)), .unset, .unset, .unset] [(.ref m_)])) ?_ (fun t_ k_ => XS.aloadN X25.here hx rfl (hb hby d36_269) rfl rfl k_)
  refine Goes.on (T' := T25) (g' := (mkF m 271 #[.val (.ref m_), .val (.int hv), .val (.ref k), .val (.ref u), .val (.int (0 : Int32)), .val (.int (1 : Int32)), .val (.ref b), .val .null, .val (.int (16 : Int32)), .val (.int ((15 : Int32) &&& hv)), .unset, .unset, .unset] [(.ref m_), (.ref m_)])) ?_ (fun t_ k_ => XS.dup X25.here hx rfl (hb hby d36_270) rfl rfl k_)
  obtain ⟨T38, X38, e38, st38⟩ := getF X25 hx hZ hown (host := "") (Or.inl (hw _ (List.mem_of_getElem? (i := 280) rfl))) Via.refl e25 fx29 (g := (mkF m 271 #[.val (.ref m_), .val (.int hv), .val (.ref k), .val (.ref u), .val (.int (0 : Int32)), .val (.int (1 : Int32)), .val (.ref b), .val .null, .val (.int (16 : Int32)), .val (.int ((15 : Int32) &&& hv)), .unset, .unset, .unset] [(.ref m_), (.ref m_)])) rfl rfl (hb hby d36_271)
  refine Goes.on (T' := T38) (g' := (mkF m 274 #[.val (.ref m_), .val (.int hv), .val (.ref k), .val (.ref u), .val (.int (0 : Int32)), .val (.int (1 : Int32)), .val (.ref b), .val .null, .val (.int (16 : Int32)), .val (.int ((15 : Int32) &&& hv)), .unset, .unset, .unset] [(.int (0 : Int32)), (.ref m_)])) ?_ st38
  refine Goes.on (T' := T38) (g' := (mkF m 275 #[.val (.ref m_), .val (.int hv), .val (.ref k), .val (.ref u), .val (.int (0 : Int32)), .val (.int (1 : Int32)), .val (.ref b), .val .null, .val (.int (16 : Int32)), .val (.int ((15 : Int32) &&& hv)), .unset, .unset, .unset] [(.int (1 : Int32)), (.int (0 : Int32)), (.ref m_)])) ?_ (fun t_ k_ => XS.iconst X38.here hx rfl (hb hby d36_274) k_)
  refine Goes.on (T' := T38) (g' := (mkF m 276 #[.val (.ref m_), .val (.int hv), .val (.ref k), .val (.ref u), .val (.int (0 : Int32)), .val (.int (1 : Int32)), .val (.ref b), .val .null, .val (.int (16 : Int32)), .val (.int ((15 : Int32) &&& hv)), .unset, .unset, .unset] [(.int (1 : Int32)), (.ref m_)])) ?_ (fun t_ k_ => XS.iadd X38.here hx rfl (hb hby d36_275) rfl k_)
  refine Goes.on (T' := T38) (g' := (mkF m 277 #[.val (.ref m_), .val (.int hv), .val (.ref k), .val (.ref u), .val (.int (0 : Int32)), .val (.int (1 : Int32)), .val (.ref b), .val .null, .val (.int (16 : Int32)), .val (.int ((15 : Int32) &&& hv)), .unset, .unset, .unset] [(.int (1 : Int32)), (.ref m_), (.int (1 : Int32))])) ?_ (fun t_ k_ => Jvm.Free.XT.dupX1 X38.here hx rfl (hb hby d36_276) rfl rfl rfl k_)
  obtain ⟨T39, h39, X39, e39, W39, st39⟩ := putF X38 hx hZ hown (host := "") (Or.inl (hw _ (List.mem_of_getElem? (i := 280) rfl))) Via.refl e38 fx29 fx26 (Or.inl (hw _ (List.mem_of_getElem? (i := 281) rfl))) (hw _ (List.mem_of_getElem? (i := 121) rfl)) (ty := .int) (by decide) rfl rfl (g := (mkF m 277 #[.val (.ref m_), .val (.int hv), .val (.ref k), .val (.ref u), .val (.int (0 : Int32)), .val (.int (1 : Int32)), .val (.ref b), .val .null, .val (.int (16 : Int32)), .val (.int ((15 : Int32) &&& hv)), .unset, .unset, .unset] [(.int (1 : Int32)), (.ref m_), (.int (1 : Int32))])) rfl rfl (hb hby d36_277)
  have N39 := Fr.snoc X39 N25 ga
  have Z39 : n0 ≤ h39.size := Nat.le_trans Z25 (Nat.le_of_eq W39.size.symm)
  refine Goes.on (T' := T39) (g' := (mkF m 280 #[.val (.ref m_), .val (.int hv), .val (.ref k), .val (.ref u), .val (.int (0 : Int32)), .val (.int (1 : Int32)), .val (.ref b), .val .null, .val (.int (16 : Int32)), .val (.int ((15 : Int32) &&& hv)), .unset, .unset, .unset] [(.int (1 : Int32))])) ?_ st39
  have fx40 := fx26.wr W39
  have fx41 := fx27.other W39 (Or.inr (slot_ne (Or.inl (hw _ (List.mem_of_getElem? (i := 201) rfl))) (Or.inl (hw _ (List.mem_of_getElem? (i := 281) rfl))) (by decide) (t := (.array (.object "java/util/HashMap$Node"))) (t' := .int) (by decide) (by decide)))
  have fx42 := fx28.other W39 (Or.inr (slot_ne (Or.inl (hw _ (List.mem_of_getElem? (i := 255) rfl))) (Or.inl (hw _ (List.mem_of_getElem? (i := 281) rfl))) (by decide) (t := .int) (t' := .int) (by decide) (by decide)))
  have fx43 := fx29.same W39
  have fx44 := fx30.other W39 (Or.inr (slot_ne (Or.inl (hw _ (List.mem_of_getElem? (i := 279) rfl))) (Or.inl (hw _ (List.mem_of_getElem? (i := 281) rfl))) (by decide) (t := .int) (t' := .int) (by decide) (by decide)))
  have fx45 := fx31.wr W39
  have fx46 := fx32.other W39 (Or.inl ndm)
  have fx47 := fx33.other W39 (Or.inl ndm)
  have fx48 := fx34.other W39 (Or.inl ndm)
  have fx49 := fx35.other W39 (Or.inl ndm)
  have fx50 := fx36.other W39 (Ne.symm mb)
  have kp51 := kp37.wr W39 (Or.inl (by simp))
  refine Goes.on (T' := T39) (g' := (mkF m 281 #[.val (.ref m_), .val (.int hv), .val (.ref k), .val (.ref u), .val (.int (0 : Int32)), .val (.int (1 : Int32)), .val (.ref b), .val .null, .val (.int (16 : Int32)), .val (.int ((15 : Int32) &&& hv)), .unset, .unset, .unset] [(.ref m_), (.int (1 : Int32))])) ?_ (fun t_ k_ => XS.aloadN X39.here hx rfl (hb hby d36_280) rfl rfl k_)
  obtain ⟨T52, X52, e52, st52⟩ := getF X39 hx hZ hown (host := "") (Or.inl (hw _ (List.mem_of_getElem? (i := 254) rfl))) Via.refl e39 fx42 (g := (mkF m 281 #[.val (.ref m_), .val (.int hv), .val (.ref k), .val (.ref u), .val (.int (0 : Int32)), .val (.int (1 : Int32)), .val (.ref b), .val .null, .val (.int (16 : Int32)), .val (.int ((15 : Int32) &&& hv)), .unset, .unset, .unset] [(.ref m_), (.int (1 : Int32))])) rfl rfl (hb hby d36_281)
  refine Goes.on (T' := T52) (g' := (mkF m 284 #[.val (.ref m_), .val (.int hv), .val (.ref k), .val (.ref u), .val (.int (0 : Int32)), .val (.int (1 : Int32)), .val (.ref b), .val .null, .val (.int (16 : Int32)), .val (.int ((15 : Int32) &&& hv)), .unset, .unset, .unset] [(.int (12 : Int32)), (.int (1 : Int32))])) ?_ st52
  refine Goes.on (T' := T52) (g' := (mkF m 292 #[.val (.ref m_), .val (.int hv), .val (.ref k), .val (.ref u), .val (.int (0 : Int32)), .val (.int (1 : Int32)), .val (.ref b), .val .null, .val (.int (16 : Int32)), .val (.int ((15 : Int32) &&& hv)), .unset, .unset, .unset] [])) ?_ (fun t_ k_ => XS.icmpYes X52.here hx rfl (pc0 := 284) (pc' := 292) rfl (hb hby d36_284) rfl (by decide) (by decide) (by decide) k_)
  refine Goes.on (T' := T52) (g' := (mkF m 293 #[.val (.ref m_), .val (.int hv), .val (.ref k), .val (.ref u), .val (.int (0 : Int32)), .val (.int (1 : Int32)), .val (.ref b), .val .null, .val (.int (16 : Int32)), .val (.int ((15 : Int32) &&& hv)), .unset, .unset, .unset] [(.ref m_)])) ?_ (fun t_ k_ => XS.aloadN X52.here hx rfl (hb hby d36_292) rfl rfl k_)
  refine Goes.on (T' := T52) (g' := (mkF m 295 #[.val (.ref m_), .val (.int hv), .val (.ref k), .val (.ref u), .val (.int (0 : Int32)), .val (.int (1 : Int32)), .val (.ref b), .val .null, .val (.int (16 : Int32)), .val (.int ((15 : Int32) &&& hv)), .unset, .unset, .unset] [(.int (1 : Int32)), (.ref m_)])) ?_ (fun t_ k_ => XS.iload X52.here hx rfl (hb hby d36_293) rfl k_)
  obtain ⟨cq53, kq53, q53a, q53b, q53c⟩ := isOf hZ e52 fx40
  obtain ⟨_, _, ⟨T53, Lq_53, kq_53, nq_53⟩, -, X53, ⟨Lc53, hQ53, l53, y53, z53⟩, st53⟩ := X52.virtualBack hx (y := (⟨"java/util/HashMap", "afterNodeInsertion", "(Z)V"⟩ : MethodName)) (z := (⟨"java/util/HashMap", "afterNodeInsertion", "(Z)V"⟩ : MethodName)) hown (mvT hZ (hw _ (List.mem_of_getElem? (i := 282) rfl))) (mvT hZ (hw _ (List.mem_of_getElem? (i := 283) rfl))) (notFace_of_selects (args := #[]) (mvT hZ (hw _ (List.mem_of_getElem? (i := 285) rfl)))) (mvT hZ (hw _ (List.mem_of_getElem? (i := 285) rfl))) (mvT hZ (hw _ (List.mem_of_getElem? (i := 284) rfl))) (by decide) (backOf (W := 0) (rmAN l Z a0 hw [] m_ h39 n0 Z39) hZ (hw _ (List.mem_of_getElem? (i := 286) rfl)) (hw _ (List.mem_of_getElem? (i := 122) rfl)) (by decide) (by decide)) q53a q53c (g := (mkF m 295 #[.val (.ref m_), .val (.int hv), .val (.ref k), .val (.ref u), .val (.int (0 : Int32)), .val (.int (1 : Int32)), .val (.ref b), .val .null, .val (.int (16 : Int32)), .val (.int ((15 : Int32) &&& hv)), .unset, .unset, .unset] [(.int (1 : Int32)), (.ref m_)])) rfl (by rw [hml]; rfl) (Steps.refl _) (argsL := [(.int (1 : Int32))]) (rest := []) (lenOf pd_16 rfl) rfl (by show 2 * 0 + _ ≤ _; exact Nat.le_of_eq rfl) (hb hby d36_295) (fun _ _ => ⟨rfl, e52, (by decide : 2 + 0 ≤ _), (by decide : 20 + 0 ≤ _)⟩)
  dsimp only [Pt.U, Pt.locs, Pt.cells, Pt.slots] at X53 l53 y53 z53 st53 hQ53
  rw [l53, y53, z53] at X53
  change Stand p l e _ _ m _ below meth c T53 _ 2 20 at X53
  obtain ⟨rfl, N53q, eh53⟩ := hQ53
  have N53 := Fr.app N39 N53q
  refine Goes.on (T' := T53) (g' := (mkF m 298 #[.val (.ref m_), .val (.int hv), .val (.ref k), .val (.ref u), .val (.int (0 : Int32)), .val (.int (1 : Int32)), .val (.ref b), .val .null, .val (.int (16 : Int32)), .val (.int ((15 : Int32) &&& hv)), .unset, .unset, .unset] [])) ?_ (fun t => st53.trans)
  refine Goes.on (T' := T53) (g' := (mkF m 299 #[.val (.ref m_), .val (.int hv), .val (.ref k), .val (.ref u), .val (.int (0 : Int32)), .val (.int (1 : Int32)), .val (.ref b), .val .null, .val (.int (16 : Int32)), .val (.int ((15 : Int32) &&& hv)), .unset, .unset, .unset] [.null])) ?_ (fun t_ k_ => XS.aconstNull X53.here hx rfl (hb hby d36_298) k_)
  rw [hWd]
  exact Goes.retn X53 (v := some .null) (fun fs hr => retA X53 hx Bd.returns rfl rfl (hb hby d36_299) hr) (fun h => by rw [Bd.returns] at h; cases h) Bd.notSynchronized (by decide) (by decide) (by rw [eh53]; exact ⟨b, nd, kb, rfl, N53, kp51, szb, szn0, fx40, fx41, fx50, fx45, fx46, fx47, fx48, fx49⟩)
def QPU (Z : State) (m_ u : Addr) (k tk : Addr) (kk : ClassId) (ck : Int32) (zc : Int32) (h0 : Heap) (n0 : Nat) (v : Option Value) (h : Heap) (L : List Loc) : Prop := ∃ b nd kb, v = some .null ∧ Fr n0 L ∧ Keep h0 h [m_, k] ∧ h0.size ≤ b ∧ h0.size ≤ nd ∧ Hm1 Z h m_ b nd kb (own_hh ck) k u ∧ S1 Z h k tk kk ck
set_option maxRecDepth 65536 in
set_option maxHeartbeats 40000000 in
theorem rmPU (l : Launch) (Z : State) (a0 : Array Value) (hw : ∀ d ∈ tables_1, d.before a0 Z = true) (ws : List Jvm.Cond) (m_ u : Addr) (k tk : Addr) (kk : ClassId) (ck : Int32) (zc : Int32) (h0 : Heap) (n0 : Nat) (Z0 : n0 ≤ h0.size) (A : Hm0 Z h0 m_) (ga : n0 ≤ m_) (AK : S1 Z h0 k tk kk ck) (gk : n0 ≤ k) (hka : ¬ ck < 0) (hkb : ¬ (255 : Int32) < ck) (CS : Sta Z Z.heap "java/lang/String" "COMPACT_STRINGS" "Z" (.int zc)) (hzc : ¬ zc = (0 : Int32)) (X0_ : Old Z n0 h0) :
    MetFree l (⟨"java/util/HashMap", "put", "(Ljava/lang/Object;Ljava/lang/Object;)Ljava/lang/Object;"⟩ : MethodName) (head1 (Jvm.Cond.code (⟨"java/util/HashMap", "put", "(Ljava/lang/Object;Ljava/lang/Object;)Ljava/lang/Object;"⟩ : MethodName) jdk_69_method_15_code 3 (some (.object "java/lang/Object")) :: ws) ({ frames := 4, cells := 2, slots := 20, locals := 71 } : Room)) (fun a_ U => a_ = #[(.ref m_), (.ref k), (.ref u)] ∧ Z.Warmed39 U.vm ∧ U.heap = h0) (fun _ _ _ _ _ => True) (fun _ U o U' => ∃ v L, o = .returned v ∧ QPU Z m_ u k tk kk ck zc h0 n0 v U'.heap L ∧ FrameEnd U o U' L ({ frames := 4, cells := 2, slots := 20, locals := 71 } : Room).cells ({ frames := 4, cells := 2, slots := 20, locals := 71 } : Room).slots) := by
  refine MetFree.of_bodySF (plainFor_of_name pn_9) hisR ?_
  intro p e s m args below meth c s₁ Bd hml0 hP hK
  obtain ⟨rfl, hZ, hh⟩ := hP
  have hx := Bd.exec
  have hby := Bd.bytes
  have hml : c.maxLocals = 3 := hml0
  have hown : s.vm.findClass "java/util/HashMap" = some m.cls := findClass_of_methodNamed Bd.named
  have hnm := (name_of_methodNamed Bd.named Bd.method).1
  have X0 : Stand p l e ({ frames := 4, cells := 2, slots := 20, locals := 71 } : Room) s m #[(.ref m_), (.ref k), (.ref u)] below meth c s₁ [] 0 0 := Stand.of_body Bd
  have e0 : s₁.heap = h0 := by rw [← hh, Bd.state]; rfl
  have N0 := Fr.nil n0
  refine Goes.done ?_
  obtain ⟨W, hWd⟩ : ∃ W : State → Prop, W = EndW s below (QPU Z m_ u k tk kk ck zc h0 n0) ({ frames := 4, cells := 2, slots := 20, locals := 71 } : Room).cells ({ frames := 4, cells := 2, slots := 20, locals := 71 } : Room).slots := ⟨_, rfl⟩
  rw [← hWd]
  have hef : entryFrame m #[(.ref m_), (.ref k), (.ref u)] 3 = (mkF m 0 #[.val (.ref m_), .val (.ref k), .val (.ref u)] []) := by first | (simp [entryFrame, mkF, argsToLocals, Value.category]; done) | rfl
  rw [hef]
  have mk : m_ ≠ k := Exa.ne A.E AK.exa (by decide)
  have mtk : m_ ≠ tk := Exa.neArv A.E AK.arv (hw _ (List.mem_of_getElem? (i := 121) rfl))
  refine Goes.on (T' := s₁) (g' := (mkF m 1 #[.val (.ref m_), .val (.ref k), .val (.ref u)] [(.ref m_)])) ?_ (fun t_ k_ => XS.aloadN X0.here hx rfl (hb hby d31_0) rfl rfl k_)
  refine Goes.on (T' := s₁) (g' := (mkF m 2 #[.val (.ref m_), .val (.ref k), .val (.ref u)] [(.ref k), (.ref m_)])) ?_ (fun t_ k_ => XS.aloadN X0.here hx rfl (hb hby d31_1) rfl rfl k_)
  obtain ⟨_, _, ⟨T1, Lq_1, kq_1, nq_1⟩, -, X1, ⟨Lc1, hQ1, l1, y1, z1⟩, st1⟩ := Jvm.LawKit.callS X0 hx (y := (⟨"java/util/HashMap", "hash", "(Ljava/lang/Object;)I"⟩ : MethodName)) hown (mvT hZ (hw _ (List.mem_of_getElem? (i := 223) rfl))) (mvT hZ (hw _ (List.mem_of_getElem? (i := 224) rfl))) (mvT hZ (hw _ (List.mem_of_getElem? (i := 122) rfl))) (mvT hZ (hw _ (List.mem_of_getElem? (i := 225) rfl))) (by decide) (backOf (W := 1) (rmHH l Z a0 hw [] k tk kk ck zc h0 n0 Z0 AK gk hka hkb CS hzc X0_) hZ (hw _ (List.mem_of_getElem? (i := 225) rfl)) (hw _ (List.mem_of_getElem? (i := 122) rfl)) (by decide) (by decide)) (g := (mkF m 2 #[.val (.ref m_), .val (.ref k), .val (.ref u)] [(.ref k), (.ref m_)])) rfl (by rw [hml]; rfl) (argsL := [(.ref k)]) (rest := [(.ref m_)]) (lenOf pd_17 rfl) rfl (by show 2 * 0 + _ ≤ _; exact Nat.le_of_eq rfl) (hb hby d31_2) (fun _ _ => ⟨rfl, e0, (by decide : 0 + 0 ≤ _), (by decide : 0 + 0 ≤ _)⟩)
  dsimp only [Pt.U, Pt.locs, Pt.cells, Pt.slots] at X1 l1 y1 z1 st1 hQ1
  rw [l1, y1, z1] at X1
  change Stand p l e _ _ m _ below meth c T1 _ 0 0 at X1
  obtain ⟨rfl, N1q, K1, SK⟩ := hQ1
  have N1 := Fr.app N0 N1q
  refine Goes.on (T' := T1) (g' := (mkF m 5 #[.val (.ref m_), .val (.ref k), .val (.ref u)] [(.int (own_hh ck)), (.ref m_)])) ?_ st1
  have Zh : n0 ≤ T1.heap.size := Nat.le_trans Z0 K1.1
  have A2 := A.keep K1 (ninS mk nin0)
  have kp2 := (Keep.refl h0 [m_, k]).trans K1 (allS (Or.inl (by simp)) all0)
  refine Goes.on (T' := T1) (g' := (mkF m 6 #[.val (.ref m_), .val (.ref k), .val (.ref u)] [(.ref k), (.int (own_hh ck)), (.ref m_)])) ?_ (fun t_ k_ => XS.aloadN X1.here hx rfl (hb hby d31_5) rfl rfl k_)
  refine Goes.on (T' := T1) (g' := (mkF m 7 #[.val (.ref m_), .val (.ref k), .val (.ref u)] [(.ref u), (.ref k), (.int (own_hh ck)), (.ref m_)])) ?_ (fun t_ k_ => XS.aloadN X1.here hx rfl (hb hby d31_6) rfl rfl k_)
  refine Goes.on (T' := T1) (g' := (mkF m 8 #[.val (.ref m_), .val (.ref k), .val (.ref u)] [(.int (0 : Int32)), (.ref u), (.ref k), (.int (own_hh ck)), (.ref m_)])) ?_ (fun t_ k_ => XS.iconst X1.here hx rfl (hb hby d31_7) k_)
  refine Goes.on (T' := T1) (g' := (mkF m 9 #[.val (.ref m_), .val (.ref k), .val (.ref u)] [(.int (1 : Int32)), (.int (0 : Int32)), (.ref u), (.ref k), (.int (own_hh ck)), (.ref m_)])) ?_ (fun t_ k_ => XS.iconst X1.here hx rfl (hb hby d31_8) k_)
  obtain ⟨cq3, kq3, q3a, q3b, q3c⟩ := isOf hZ rfl A2.E
  obtain ⟨_, _, ⟨T3, Lq_3, kq_3, nq_3⟩, -, X3, ⟨Lc3, hQ3, l3, y3, z3⟩, st3⟩ := X1.virtualBack hx (y := (⟨"java/util/HashMap", "putVal", "(ILjava/lang/Object;Ljava/lang/Object;ZZ)Ljava/lang/Object;"⟩ : MethodName)) (z := (⟨"java/util/HashMap", "putVal", "(ILjava/lang/Object;Ljava/lang/Object;ZZ)Ljava/lang/Object;"⟩ : MethodName)) hown (mvT hZ (hw _ (List.mem_of_getElem? (i := 244) rfl))) (mvT hZ (hw _ (List.mem_of_getElem? (i := 245) rfl))) (notFace_of_selects (args := #[]) (mvT hZ (hw _ (List.mem_of_getElem? (i := 247) rfl)))) (mvT hZ (hw _ (List.mem_of_getElem? (i := 247) rfl))) (mvT hZ (hw _ (List.mem_of_getElem? (i := 246) rfl))) (by decide) (backOf (W := 0) (rmPV l Z a0 hw [] m_ k u (own_hh ck) T1.heap n0 Zh A2 ga) hZ (hw _ (List.mem_of_getElem? (i := 248) rfl)) (hw _ (List.mem_of_getElem? (i := 122) rfl)) (by decide) (by decide)) q3a q3c (g := (mkF m 9 #[.val (.ref m_), .val (.ref k), .val (.ref u)] [(.int (1 : Int32)), (.int (0 : Int32)), (.ref u), (.ref k), (.int (own_hh ck)), (.ref m_)])) rfl (by rw [hml]; rfl) (Steps.refl _) (argsL := [(.int (own_hh ck)), (.ref k), (.ref u), (.int (0 : Int32)), (.int (1 : Int32))]) (rest := []) (lenOf pd_18 rfl) rfl (by show 2 * 0 + _ ≤ _; exact Nat.le_of_eq rfl) (hb hby d31_9) (fun _ _ => ⟨rfl, rfl, (by decide : 0 + 2 ≤ _), (by decide : 0 + 20 ≤ _)⟩)
  dsimp only [Pt.U, Pt.locs, Pt.cells, Pt.slots] at X3 l3 y3 z3 st3 hQ3
  rw [l3, y3, z3] at X3
  change Stand p l e _ _ m _ below meth c T3 _ 2 20 at X3
  obtain ⟨b, nd, kb, rfl, N3q, K3, szb, szn, HM⟩ := hQ3
  have N3 := Fr.app N1 N3q
  refine Goes.on (T' := T3) (g' := (mkF m 12 #[.val (.ref m_), .val (.ref k), .val (.ref u)] [.null])) ?_ (fun t => st3.trans)
  have SK2 := SK.keep K3 (ninS (Ne.symm mk) nin0) (ninS (Ne.symm mtk) nin0)
  have sb0 : h0.size ≤ b := Nat.le_trans K1.1 szb
  have sn0 : h0.size ≤ nd := Nat.le_trans K1.1 szn
  have kp4 := kp2.trans K3 (allS (Or.inl (by simp)) all0)
  rw [hWd]
  exact Goes.retn X3 (v := some .null) (fun fs hr => retA X3 hx Bd.returns rfl rfl (hb hby d31_12) hr) (fun h => by rw [Bd.returns] at h; cases h) Bd.notSynchronized (by decide) (by decide) ⟨b, nd, kb, rfl, N3, kp4, sb0, sn0, HM, SK2⟩
def QAP (Z : State) (x m_ u : Addr) (k tk : Addr) (kk : ClassId) (ck : Int32) (zc : Int32) (h0 : Heap) (n0 : Nat) (v : Option Value) (h : Heap) (L : List Loc) : Prop := ∃ b nd kb, v = none ∧ Fr n0 L ∧ Keep h0 h [m_, k] ∧ h0.size ≤ b ∧ h0.size ≤ nd ∧ Hm1 Z h m_ b nd kb (own_hh ck) k u ∧ S1 Z h k tk kk ck
set_option maxRecDepth 65536 in
set_option maxHeartbeats 40000000 in
theorem rmAP (l : Launch) (Z : State) (a0 : Array Value) (hw : ∀ d ∈ tables_1, d.before a0 Z = true) (ws : List Jvm.Cond) (x m_ u : Addr) (k tk : Addr) (kk : ClassId) (ck : Int32) (zc : Int32) (h0 : Heap) (n0 : Nat) (Z0 : n0 ≤ h0.size) (FP : Fld Z h0 x "com/example/entitlement/entitlement/ObjectType" "permissions" "Ljava/util/Map;" (.ref m_)) (A : Hm0 Z h0 m_) (ga : n0 ≤ m_) (AK : S1 Z h0 k tk kk ck) (gk : n0 ≤ k) (hka : ¬ ck < 0) (hkb : ¬ (255 : Int32) < ck) (CS : Sta Z Z.heap "java/lang/String" "COMPACT_STRINGS" "Z" (.int zc)) (hzc : ¬ zc = (0 : Int32)) (X0_ : Old Z n0 h0) :
    MetFree l (⟨"com/example/entitlement/entitlement/ObjectType", "addPermission", "(Ljava/lang/String;Lcom/example/entitlement/entitlement/Expression;)V"⟩ : MethodName) (head1 (Jvm.Cond.code (⟨"com/example/entitlement/entitlement/ObjectType", "addPermission", "(Ljava/lang/String;Lcom/example/entitlement/entitlement/Expression;)V"⟩ : MethodName) prog_20_method_16_code 3 none :: ws) ({ frames := 5, cells := 2, slots := 20, locals := 85 } : Room)) (fun a_ U => a_ = #[(.ref x), (.ref k), (.ref u)] ∧ Z.Warmed39 U.vm ∧ U.heap = h0) (fun _ _ _ _ _ => True) (fun _ U o U' => ∃ v L, o = .returned v ∧ QAP Z x m_ u k tk kk ck zc h0 n0 v U'.heap L ∧ FrameEnd U o U' L ({ frames := 5, cells := 2, slots := 20, locals := 85 } : Room).cells ({ frames := 5, cells := 2, slots := 20, locals := 85 } : Room).slots) := by
  refine MetFree.of_bodySF (plainFor_of_name pn_11) hisR ?_
  intro p e s m args below meth c s₁ Bd hml0 hP hK
  obtain ⟨rfl, hZ, hh⟩ := hP
  have hx := Bd.exec
  have hby := Bd.bytes
  have hml : c.maxLocals = 3 := hml0
  have hown : s.vm.findClass "com/example/entitlement/entitlement/ObjectType" = some m.cls := findClass_of_methodNamed Bd.named
  have hnm := (name_of_methodNamed Bd.named Bd.method).1
  have X0 : Stand p l e ({ frames := 5, cells := 2, slots := 20, locals := 85 } : Room) s m #[(.ref x), (.ref k), (.ref u)] below meth c s₁ [] 0 0 := Stand.of_body Bd
  have e0 : s₁.heap = h0 := by rw [← hh, Bd.state]; rfl
  have N0 := Fr.nil n0
  refine Goes.done ?_
  obtain ⟨W, hWd⟩ : ∃ W : State → Prop, W = EndW s below (QAP Z x m_ u k tk kk ck zc h0 n0) ({ frames := 5, cells := 2, slots := 20, locals := 85 } : Room).cells ({ frames := 5, cells := 2, slots := 20, locals := 85 } : Room).slots := ⟨_, rfl⟩
  rw [← hWd]
  have hef : entryFrame m #[(.ref x), (.ref k), (.ref u)] 3 = (mkF m 0 #[.val (.ref x), .val (.ref k), .val (.ref u)] []) := by first | (simp [entryFrame, mkF, argsToLocals, Value.category]; done) | rfl
  rw [hef]
  refine Goes.on (T' := s₁) (g' := (mkF m 1 #[.val (.ref x), .val (.ref k), .val (.ref u)] [(.ref x)])) ?_ (fun t_ k_ => XS.aloadN X0.here hx rfl (hb hby d30_0) rfl rfl k_)
  obtain ⟨T1, X1, e1, st1⟩ := getF X0 hx hZ hown (host := "") (Or.inl (hw _ (List.mem_of_getElem? (i := 138) rfl))) Via.refl e0 FP (g := (mkF m 1 #[.val (.ref x), .val (.ref k), .val (.ref u)] [(.ref x)])) rfl rfl (hb hby d30_1)
  refine Goes.on (T' := T1) (g' := (mkF m 4 #[.val (.ref x), .val (.ref k), .val (.ref u)] [(.ref m_)])) ?_ st1
  refine Goes.on (T' := T1) (g' := (mkF m 5 #[.val (.ref x), .val (.ref k), .val (.ref u)] [(.ref k), (.ref m_)])) ?_ (fun t_ k_ => XS.aloadN X1.here hx rfl (hb hby d30_4) rfl rfl k_)
  refine Goes.on (T' := T1) (g' := (mkF m 6 #[.val (.ref x), .val (.ref k), .val (.ref u)] [(.ref u), (.ref k), (.ref m_)])) ?_ (fun t_ k_ => XS.aloadN X1.here hx rfl (hb hby d30_5) rfl rfl k_)
  obtain ⟨cq2, kq2, q2a, q2b, q2c⟩ := isOf hZ e1 A.E
  obtain ⟨_, _, ⟨T2, Lq_2, kq_2, nq_2⟩, -, X2, ⟨Lc2, hQ2, l2, y2, z2⟩, st2⟩ := X1.interfaceBack hx (xi := (⟨"java/util/Map", "put", "(Ljava/lang/Object;Ljava/lang/Object;)Ljava/lang/Object;"⟩ : MethodName)) (y := (⟨"java/util/HashMap", "put", "(Ljava/lang/Object;Ljava/lang/Object;)Ljava/lang/Object;"⟩ : MethodName)) hown (mvT hZ (hw _ (List.mem_of_getElem? (i := 215) rfl))) (mvT hZ (hw _ (List.mem_of_getElem? (i := 216) rfl))) (mvT hZ (hw _ (List.mem_of_getElem? (i := 217) rfl))) (mvT hZ (hw _ (List.mem_of_getElem? (i := 218) rfl))) (mvT hZ (hw _ (List.mem_of_getElem? (i := 219) rfl))) (mvT hZ (hw _ (List.mem_of_getElem? (i := 220) rfl))) (mvT hZ (hw _ (List.mem_of_getElem? (i := 221) rfl))) (mvT hZ (hw _ (List.mem_of_getElem? (i := 193) rfl))) (by decide) (backOf (W := 0) (rmPU l Z a0 hw [] m_ u k tk kk ck zc h0 n0 Z0 A ga AK gk hka hkb CS hzc X0_) hZ (hw _ (List.mem_of_getElem? (i := 222) rfl)) (hw _ (List.mem_of_getElem? (i := 122) rfl)) (by decide) (by decide)) q2a q2b q2c (g := (mkF m 6 #[.val (.ref x), .val (.ref k), .val (.ref u)] [(.ref u), (.ref k), (.ref m_)])) rfl (by rw [hml]; rfl) (Steps.refl _) (argsL := [(.ref k), (.ref u)]) (rest := []) (lenOf pd_19 rfl) rfl (by show 2 * 0 + _ ≤ _; exact Nat.le_of_eq rfl) (hb hby d30_6) (fun _ _ => ⟨rfl, e1, (by decide : 0 + 2 ≤ _), (by decide : 0 + 20 ≤ _)⟩)
  dsimp only [Pt.U, Pt.locs, Pt.cells, Pt.slots] at X2 l2 y2 z2 st2 hQ2
  rw [l2, y2, z2] at X2
  change Stand p l e _ _ m _ below meth c T2 _ 2 20 at X2
  obtain ⟨b, nd, kb, rfl, N2q, KX, szb, szn, HM, SK⟩ := hQ2
  have N2 := Fr.app N0 N2q
  refine Goes.on (T' := T2) (g' := (mkF m 11 #[.val (.ref x), .val (.ref k), .val (.ref u)] [.null])) ?_ (fun t => st2.trans)
  refine Goes.on (T' := T2) (g' := (mkF m 12 #[.val (.ref x), .val (.ref k), .val (.ref u)] [])) ?_ (fun t_ k_ => XS.pop X2.here hx rfl (hb hby d30_11) rfl rfl k_)
  rw [hWd]
  exact Goes.retn X2 (v := none) (fun fs hr => X2.returnOut hx Bd.returns (hb hby d30_12) hr) (fun _ => rfl) Bd.notSynchronized (by decide) (by decide) ⟨b, nd, kb, rfl, N2, KX, szb, szn, HM, SK⟩
def QG0 (Z : State) (m_ q : Addr) (h0 : Heap) (n0 : Nat) (v : Option Value) (h : Heap) (L : List Loc) : Prop := v = some .null ∧ Fr n0 L ∧ h = h0
set_option maxRecDepth 65536 in
set_option maxHeartbeats 40000000 in
theorem rmG0 (l : Launch) (Z : State) (a0 : Array Value) (hw : ∀ d ∈ tables_1, d.before a0 Z = true) (ws : List Jvm.Cond) (m_ q : Addr) (h0 : Heap) (n0 : Nat) (Z0 : n0 ≤ h0.size) (A : Hm0 Z h0 m_) :
    MetFree l (⟨"java/util/HashMap", "getNode", "(Ljava/lang/Object;)Ljava/util/HashMap$Node;"⟩ : MethodName) (head1 (Jvm.Cond.code (⟨"java/util/HashMap", "getNode", "(Ljava/lang/Object;)Ljava/util/HashMap$Node;"⟩ : MethodName) jdk_69_method_13_code 8 (some (.object "java/util/HashMap$Node")) :: ws) ({ frames := 0, cells := 0, slots := 0, locals := 0 } : Room)) (fun a_ U => a_ = #[(.ref m_), (.ref q)] ∧ Z.Warmed39 U.vm ∧ U.heap = h0) (fun _ _ _ _ _ => True) (fun _ U o U' => ∃ v L, o = .returned v ∧ QG0 Z m_ q h0 n0 v U'.heap L ∧ FrameEnd U o U' L ({ frames := 0, cells := 0, slots := 0, locals := 0 } : Room).cells ({ frames := 0, cells := 0, slots := 0, locals := 0 } : Room).slots) := by
  refine MetFree.of_bodySF (plainFor_of_name pn_9) hisR ?_
  intro p e s m args below meth c s₁ Bd hml0 hP hK
  obtain ⟨rfl, hZ, hh⟩ := hP
  have hx := Bd.exec
  have hby := Bd.bytes
  have hml : c.maxLocals = 8 := hml0
  have hown : s.vm.findClass "java/util/HashMap" = some m.cls := findClass_of_methodNamed Bd.named
  have hnm := (name_of_methodNamed Bd.named Bd.method).1
  have X0 : Stand p l e ({ frames := 0, cells := 0, slots := 0, locals := 0 } : Room) s m #[(.ref m_), (.ref q)] below meth c s₁ [] 0 0 := Stand.of_body Bd
  have e0 : s₁.heap = h0 := by rw [← hh, Bd.state]; rfl
  have N0 := Fr.nil n0
  refine Goes.done ?_
  obtain ⟨W, hWd⟩ : ∃ W : State → Prop, W = EndW s below (QG0 Z m_ q h0 n0) ({ frames := 0, cells := 0, slots := 0, locals := 0 } : Room).cells ({ frames := 0, cells := 0, slots := 0, locals := 0 } : Room).slots := ⟨_, rfl⟩
  rw [← hWd]
  have hef : entryFrame m #[(.ref m_), (.ref q)] 8 = (mkF m 0 #[.val (.ref m_), .val (.ref q), .unset, .unset, .unset, .unset, .unset, .unset] []) := by first | (simp [entryFrame, mkF, argsToLocals, Value.category]; done) | rfl
  rw [hef]
  refine Goes.on (T' := s₁) (g' := (mkF m 1 #[.val (.ref m_), .val (.ref q), .unset, .unset, .unset, .unset, .unset, .unset] [(.ref m_)])) ?_ (fun t_ k_ => XS.aloadN X0.here hx rfl (hb hby d28_0) rfl rfl k_)
  obtain ⟨T1, X1, e1, st1⟩ := getF X0 hx hZ hown (host := "") (Or.inl (hw _ (List.mem_of_getElem? (i := 200) rfl))) Via.refl e0 A.T (g := (mkF m 1 #[.val (.ref m_), .val (.ref q), .unset, .unset, .unset, .unset, .unset, .unset] [(.ref m_)])) rfl rfl (hb hby d28_1)
  refine Goes.on (T' := T1) (g' := (mkF m 4 #[.val (.ref m_), .val (.ref q), .unset, .unset, .unset, .unset, .unset, .unset] [.null])) ?_ st1
  refine Goes.on (T' := T1) (g' := (mkF m 5 #[.val (.ref m_), .val (.ref q), .unset, .unset, .unset, .unset, .unset, .unset] [.null, .null])) ?_ (fun t_ k_ => XS.dup X1.here hx rfl (hb hby d28_4) rfl rfl k_)
  refine Goes.on (T' := T1) (g' := (mkF m 6 #[.val (.ref m_), .val (.ref q), .val .null, .unset, .unset, .unset, .unset, .unset] [.null])) ?_ (fun t_ k_ => XS.astoreN X1.here hx rfl (hb hby d28_5) rfl rfl (l' := #[.val (.ref m_), .val (.ref q), .val .null, .unset, .unset, .unset, .unset, .unset]) rfl k_)
  refine Goes.on (T' := T1) (g' := (mkF m 148 #[.val (.ref m_), .val (.ref q), .val .null, .unset, .unset, .unset, .unset, .unset] [])) ?_ (fun t_ k_ => XS.ifnullYes X1.here hx rfl (pc0 := 6) (pc' := 148) rfl (hb hby d28_6) rfl (by decide) (by decide) k_)
  refine Goes.on (T' := T1) (g' := (mkF m 149 #[.val (.ref m_), .val (.ref q), .val .null, .unset, .unset, .unset, .unset, .unset] [.null])) ?_ (fun t_ k_ => XS.aconstNull X1.here hx rfl (hb hby d28_148) k_)
  rw [hWd]
  exact Goes.retn X1 (v := some .null) (fun fs hr => retA X1 hx Bd.returns rfl rfl (hb hby d28_149) hr) (fun h => by rw [Bd.returns] at h; cases h) Bd.notSynchronized (by decide) (by decide) (by rw [e1]; exact ⟨rfl, N0, rfl⟩)
def QG1 (Z : State) (m_ b nd u : Addr) (kb : ClassId) (k tk : Addr) (kk : ClassId) (ck : Int32) (q tq : Addr) (kq : ClassId) (cq : Int32) (zc : Int32) (h0 : Heap) (n0 : Nat) (v : Option Value) (h : Heap) (L : List Loc) : Prop := v = some (if cq = ck then Value.ref nd else Value.null) ∧ Fr n0 L ∧ Keep h0 h [q] ∧ Hm1 Z h m_ b nd kb (own_hh ck) k u ∧ S1 Z h k tk kk ck ∧ S1 Z h q tq kq cq
set_option maxRecDepth 65536 in
set_option maxHeartbeats 40000000 in
theorem rmG1 (l : Launch) (Z : State) (a0 : Array Value) (hw : ∀ d ∈ tables_1, d.before a0 Z = true) (ws : List Jvm.Cond) (m_ b nd u : Addr) (kb : ClassId) (k tk : Addr) (kk : ClassId) (ck : Int32) (q tq : Addr) (kq : ClassId) (cq : Int32) (zc : Int32) (h0 : Heap) (n0 : Nat) (Z0 : n0 ≤ h0.size) (A : Hm1 Z h0 m_ b nd kb (own_hh ck) k u) (AK : S1 Z h0 k tk kk ck) (hka : ¬ ck < 0) (hkb : ¬ (255 : Int32) < ck) (hkq : k ≠ q) (AQ : S1 Z h0 q tq kq cq) (gq : n0 ≤ q) (hqa : ¬ cq < 0) (hqb : ¬ (255 : Int32) < cq) (CS : Sta Z Z.heap "java/lang/String" "COMPACT_STRINGS" "Z" (.int zc)) (hzc : ¬ zc = (0 : Int32)) (X0_ : Old Z n0 h0) :
    MetFree l (⟨"java/util/HashMap", "getNode", "(Ljava/lang/Object;)Ljava/util/HashMap$Node;"⟩ : MethodName) (head1 (Jvm.Cond.code (⟨"java/util/HashMap", "getNode", "(Ljava/lang/Object;)Ljava/util/HashMap$Node;"⟩ : MethodName) jdk_69_method_13_code 8 (some (.object "java/util/HashMap$Node")) :: ws) ({ frames := 3, cells := 0, slots := 0, locals := 40 } : Room)) (fun a_ U => a_ = #[(.ref m_), (.ref q)] ∧ Z.Warmed39 U.vm ∧ U.heap = h0) (fun _ _ _ _ _ => True) (fun _ U o U' => ∃ v L, o = .returned v ∧ QG1 Z m_ b nd u kb k tk kk ck q tq kq cq zc h0 n0 v U'.heap L ∧ FrameEnd U o U' L ({ frames := 3, cells := 0, slots := 0, locals := 40 } : Room).cells ({ frames := 3, cells := 0, slots := 0, locals := 40 } : Room).slots) := by
  refine MetFree.of_bodySF (plainFor_of_name pn_9) hisR ?_
  intro p e s m args below meth c s₁ Bd hml0 hP hK
  obtain ⟨rfl, hZ, hh⟩ := hP
  have hx := Bd.exec
  have hby := Bd.bytes
  have hml : c.maxLocals = 8 := hml0
  have hown : s.vm.findClass "java/util/HashMap" = some m.cls := findClass_of_methodNamed Bd.named
  have hnm := (name_of_methodNamed Bd.named Bd.method).1
  have X0 : Stand p l e ({ frames := 3, cells := 0, slots := 0, locals := 40 } : Room) s m #[(.ref m_), (.ref q)] below meth c s₁ [] 0 0 := Stand.of_body Bd
  have e0 : s₁.heap = h0 := by rw [← hh, Bd.state]; rfl
  have N0 := Fr.nil n0
  refine Goes.done ?_
  obtain ⟨W, hWd⟩ : ∃ W : State → Prop, W = EndW s below (QG1 Z m_ b nd u kb k tk kk ck q tq kq cq zc h0 n0) ({ frames := 3, cells := 0, slots := 0, locals := 40 } : Room).cells ({ frames := 3, cells := 0, slots := 0, locals := 40 } : Room).slots := ⟨_, rfl⟩
  rw [← hWd]
  have hef : entryFrame m #[(.ref m_), (.ref q)] 8 = (mkF m 0 #[.val (.ref m_), .val (.ref q), .unset, .unset, .unset, .unset, .unset, .unset] []) := by first | (simp [entryFrame, mkF, argsToLocals, Value.category]; done) | rfl
  rw [hef]
  have mq : m_ ≠ q := Exa.ne A.E AQ.exa (by decide)
  have bq : b ≠ q := Ne.symm (Exa.neArv AQ.exa A.V (hw _ (List.mem_of_getElem? (i := 2) rfl)))
  have nq : nd ≠ q := Exa.ne A.N AQ.exa (by decide)
  have tkq : tk ≠ q := Ne.symm (Exa.neArv AQ.exa AK.arv (hw _ (List.mem_of_getElem? (i := 2) rfl)))
  refine Goes.on (T' := s₁) (g' := (mkF m 1 #[.val (.ref m_), .val (.ref q), .unset, .unset, .unset, .unset, .unset, .unset] [(.ref m_)])) ?_ (fun t_ k_ => XS.aloadN X0.here hx rfl (hb hby d28_0) rfl rfl k_)
  obtain ⟨T1, X1, e1, st1⟩ := getF X0 hx hZ hown (host := "") (Or.inl (hw _ (List.mem_of_getElem? (i := 200) rfl))) Via.refl e0 A.T (g := (mkF m 1 #[.val (.ref m_), .val (.ref q), .unset, .unset, .unset, .unset, .unset, .unset] [(.ref m_)])) rfl rfl (hb hby d28_1)
  refine Goes.on (T' := T1) (g' := (mkF m 4 #[.val (.ref m_), .val (.ref q), .unset, .unset, .unset, .unset, .unset, .unset] [(.ref b)])) ?_ st1
  refine Goes.on (T' := T1) (g' := (mkF m 5 #[.val (.ref m_), .val (.ref q), .unset, .unset, .unset, .unset, .unset, .unset] [(.ref b), (.ref b)])) ?_ (fun t_ k_ => XS.dup X1.here hx rfl (hb hby d28_4) rfl rfl k_)
  refine Goes.on (T' := T1) (g' := (mkF m 6 #[.val (.ref m_), .val (.ref q), .val (.ref b), .unset, .unset, .unset, .unset, .unset] [(.ref b)])) ?_ (fun t_ k_ => XS.astoreN X1.here hx rfl (hb hby d28_5) rfl rfl (l' := #[.val (.ref m_), .val (.ref q), .val (.ref b), .unset, .unset, .unset, .unset, .unset]) rfl k_)
  refine Goes.on (T' := T1) (g' := (mkF m 9 #[.val (.ref m_), .val (.ref q), .val (.ref b), .unset, .unset, .unset, .unset, .unset] [])) ?_ (fun t_ k_ => XS.ifnullNo X1.here hx rfl (hb hby d28_6) rfl k_)
  refine Goes.on (T' := T1) (g' := (mkF m 10 #[.val (.ref m_), .val (.ref q), .val (.ref b), .unset, .unset, .unset, .unset, .unset] [(.ref b)])) ?_ (fun t_ k_ => XS.aloadN X1.here hx rfl (hb hby d28_9) rfl rfl k_)
  obtain ⟨cB, AB, qB, SB, MB, HB_, GB⟩ := id A.V
  refine Goes.on (T' := T1) (g' := (mkF m 11 #[.val (.ref m_), .val (.ref q), .val (.ref b), .unset, .unset, .unset, .unset, .unset] [(.int cB.slots.size.toInt32)])) ?_ (X1.arraylength hx (by rw [e1]; exact AB.1) (State.isArrayOf_alike hZ.alike AB.2.1) (g := (mkF m 10 #[.val (.ref m_), .val (.ref q), .val (.ref b), .unset, .unset, .unset, .unset, .unset] [(.ref b)])) rfl rfl (hb hby d28_10))
  rw [len_of SB MB]
  refine Goes.on (T' := T1) (g' := (mkF m 12 #[.val (.ref m_), .val (.ref q), .val (.ref b), .unset, .unset, .unset, .unset, .unset] [(.int (16 : Int32)), (.int (16 : Int32))])) ?_ (fun t_ k_ => XS.dup X1.here hx rfl (hb hby d28_11) rfl rfl k_)
  refine Goes.on (T' := T1) (g' := (mkF m 14 #[.val (.ref m_), .val (.ref q), .val (.ref b), .unset, .unset, .val (.int (16 : Int32)), .unset, .unset] [(.int (16 : Int32))])) ?_ (fun t_ k_ => XS.istore X1.here hx rfl (hb hby d28_12) rfl (l' := #[.val (.ref m_), .val (.ref q), .val (.ref b), .unset, .unset, .val (.int (16 : Int32)), .unset, .unset]) rfl k_)
  refine Goes.on (T' := T1) (g' := (mkF m 17 #[.val (.ref m_), .val (.ref q), .val (.ref b), .unset, .unset, .val (.int (16 : Int32)), .unset, .unset] [])) ?_ (fun t_ k_ => XS.ifNo X1.here hx rfl (hb hby d28_14) rfl (by decide) k_)
  refine Goes.on (T' := T1) (g' := (mkF m 18 #[.val (.ref m_), .val (.ref q), .val (.ref b), .unset, .unset, .val (.int (16 : Int32)), .unset, .unset] [(.ref b)])) ?_ (fun t_ k_ => XS.aloadN X1.here hx rfl (hb hby d28_17) rfl rfl k_)
  refine Goes.on (T' := T1) (g' := (mkF m 20 #[.val (.ref m_), .val (.ref q), .val (.ref b), .unset, .unset, .val (.int (16 : Int32)), .unset, .unset] [(.int (16 : Int32)), (.ref b)])) ?_ (fun t_ k_ => XS.iload X1.here hx rfl (hb hby d28_18) rfl k_)
  refine Goes.on (T' := T1) (g' := (mkF m 21 #[.val (.ref m_), .val (.ref q), .val (.ref b), .unset, .unset, .val (.int (16 : Int32)), .unset, .unset] [(.int (1 : Int32)), (.int (16 : Int32)), (.ref b)])) ?_ (fun t_ k_ => XS.iconst X1.here hx rfl (hb hby d28_20) k_)
  refine Goes.on (T' := T1) (g' := (mkF m 22 #[.val (.ref m_), .val (.ref q), .val (.ref b), .unset, .unset, .val (.int (16 : Int32)), .unset, .unset] [(.int (15 : Int32)), (.ref b)])) ?_ (fun t_ k_ => XS.isub X1.here hx rfl (hb hby d28_21) rfl k_)
  refine Goes.on (T' := T1) (g' := (mkF m 23 #[.val (.ref m_), .val (.ref q), .val (.ref b), .unset, .unset, .val (.int (16 : Int32)), .unset, .unset] [(.ref q), (.int (15 : Int32)), (.ref b)])) ?_ (fun t_ k_ => XS.aloadN X1.here hx rfl (hb hby d28_22) rfl rfl k_)
  obtain ⟨_, _, ⟨T2, Lq_2, kq_2, nq_2⟩, -, X2, ⟨Lc2, hQ2, l2, y2, z2⟩, st2⟩ := Jvm.LawKit.callS X1 hx (y := (⟨"java/util/HashMap", "hash", "(Ljava/lang/Object;)I"⟩ : MethodName)) hown (mvT hZ (hw _ (List.mem_of_getElem? (i := 223) rfl))) (mvT hZ (hw _ (List.mem_of_getElem? (i := 224) rfl))) (mvT hZ (hw _ (List.mem_of_getElem? (i := 122) rfl))) (mvT hZ (hw _ (List.mem_of_getElem? (i := 225) rfl))) (by decide) (backOf (W := 2) (rmHH l Z a0 hw [] q tq kq cq zc h0 n0 Z0 AQ gq hqa hqb CS hzc X0_) hZ (hw _ (List.mem_of_getElem? (i := 225) rfl)) (hw _ (List.mem_of_getElem? (i := 122) rfl)) (by decide) (by decide)) (g := (mkF m 23 #[.val (.ref m_), .val (.ref q), .val (.ref b), .unset, .unset, .val (.int (16 : Int32)), .unset, .unset] [(.ref q), (.int (15 : Int32)), (.ref b)])) rfl (by rw [hml]; rfl) (argsL := [(.ref q)]) (rest := [(.int (15 : Int32)), (.ref b)]) (lenOf pd_17 rfl) rfl (by show 2 * 0 + _ ≤ _; exact Nat.le_of_eq rfl) (hb hby d28_23) (fun _ _ => ⟨rfl, e1, (by decide : 0 + 0 ≤ _), (by decide : 0 + 0 ≤ _)⟩)
  dsimp only [Pt.U, Pt.locs, Pt.cells, Pt.slots] at X2 l2 y2 z2 st2 hQ2
  rw [l2, y2, z2] at X2
  change Stand p l e _ _ m _ below meth c T2 _ 0 0 at X2
  obtain ⟨rfl, N2q, K2, SQ⟩ := hQ2
  have N2 := Fr.app N0 N2q
  refine Goes.on (T' := T2) (g' := (mkF m 26 #[.val (.ref m_), .val (.ref q), .val (.ref b), .unset, .unset, .val (.int (16 : Int32)), .unset, .unset] [(.int (own_hh cq)), (.int (15 : Int32)), (.ref b)])) ?_ st2
  have Zh : n0 ≤ T2.heap.size := Nat.le_trans Z0 K2.1
  have A2 := A.keep K2 (ninS mq nin0) (ninS bq nin0) (ninS nq nin0)
  have AK2 := AK.keep K2 (ninS hkq nin0) (ninS tkq nin0)
  have xo2 := X0_.keep K2 (allS gq all0)
  have iq := own_i15 (own_hh cq)
  have ik := own_i15 (own_hh ck)
  obtain ⟨cC, AC, qC, SC, MC, HC, GC⟩ := id A2.V
  refine Goes.on (T' := T2) (g' := (mkF m 27 #[.val (.ref m_), .val (.ref q), .val (.ref b), .unset, .unset, .val (.int (16 : Int32)), .unset, .unset] [(.int (own_hh cq)), (.int (own_hh cq)), (.int (15 : Int32)), (.ref b)])) ?_ (fun t_ k_ => XS.dup X2.here hx rfl (hb hby d28_26) rfl rfl k_)
  refine Goes.on (T' := T2) (g' := (mkF m 29 #[.val (.ref m_), .val (.ref q), .val (.ref b), .unset, .unset, .val (.int (16 : Int32)), .val (.int (own_hh cq)), .unset] [(.int (own_hh cq)), (.int (15 : Int32)), (.ref b)])) ?_ (fun t_ k_ => XS.istore X2.here hx rfl (hb hby d28_27) rfl (l' := #[.val (.ref m_), .val (.ref q), .val (.ref b), .unset, .unset, .val (.int (16 : Int32)), .val (.int (own_hh cq)), .unset]) rfl k_)
  refine Goes.on (T' := T2) (g' := (mkF m 30 #[.val (.ref m_), .val (.ref q), .val (.ref b), .unset, .unset, .val (.int (16 : Int32)), .val (.int (own_hh cq)), .unset] [(.int ((15 : Int32) &&& (own_hh cq))), (.ref b)])) ?_ (fun t_ k_ => XS.iand X2.here hx rfl (hb hby d28_29) rfl k_)
  by_cases hix : ((15 : Int32) &&& (own_hh ck)).toNatClampNeg = ((15 : Int32) &&& (own_hh cq)).toNatClampNeg
  · show Goes p e below W T2 (mkF m 30 #[.val (.ref m_), .val (.ref q), .val (.ref b), .unset, .unset, .val (.int (16 : Int32)), .val (.int (own_hh cq)), .unset] [(.int ((15 : Int32) &&& (own_hh cq))), (.ref b)])
    refine Goes.on (T' := T2) (g' := (mkF m 31 #[.val (.ref m_), .val (.ref q), .val (.ref b), .unset, .unset, .val (.int (16 : Int32)), .val (.int (own_hh cq)), .unset] [(.ref nd)])) ?_ (X2.aaload hx (j := ((15 : Int32) &&& (own_hh cq))) (v := (.ref nd)) AC.1 (State.isArrayOf_alike hZ.alike AC.2.1) rfl AC.2.2 (inb_of SC ⟨iq.1, iq.2.1⟩) (by rw [HC _ (by rw [SC]; exact iq.2.2), own_setg ik.2.2, if_pos hix]) (g := (mkF m 30 #[.val (.ref m_), .val (.ref q), .val (.ref b), .unset, .unset, .val (.int (16 : Int32)), .val (.int (own_hh cq)), .unset] [(.int ((15 : Int32) &&& (own_hh cq))), (.ref b)])) rfl rfl (hb hby d28_30))
    refine Goes.on (T' := T2) (g' := (mkF m 32 #[.val (.ref m_), .val (.ref q), .val (.ref b), .unset, .unset, .val (.int (16 : Int32)), .val (.int (own_hh cq)), .unset] [(.ref nd), (.ref nd)])) ?_ (fun t_ k_ => XS.dup X2.here hx rfl (hb hby d28_31) rfl rfl k_)
    refine Goes.on (T' := T2) (g' := (mkF m 33 #[.val (.ref m_), .val (.ref q), .val (.ref b), .val (.ref nd), .unset, .val (.int (16 : Int32)), .val (.int (own_hh cq)), .unset] [(.ref nd)])) ?_ (fun t_ k_ => XS.astoreN X2.here hx rfl (hb hby d28_32) rfl rfl (l' := #[.val (.ref m_), .val (.ref q), .val (.ref b), .val (.ref nd), .unset, .val (.int (16 : Int32)), .val (.int (own_hh cq)), .unset]) rfl k_)
    refine Goes.on (T' := T2) (g' := (mkF m 36 #[.val (.ref m_), .val (.ref q), .val (.ref b), .val (.ref nd), .unset, .val (.int (16 : Int32)), .val (.int (own_hh cq)), .unset] [])) ?_ (fun t_ k_ => XS.ifnullNo X2.here hx rfl (hb hby d28_33) rfl k_)
    refine Goes.on (T' := T2) (g' := (mkF m 37 #[.val (.ref m_), .val (.ref q), .val (.ref b), .val (.ref nd), .unset, .val (.int (16 : Int32)), .val (.int (own_hh cq)), .unset] [(.ref nd)])) ?_ (fun t_ k_ => XS.aloadN X2.here hx rfl (hb hby d28_36) rfl rfl k_)
    obtain ⟨T3, X3, e3, st3⟩ := getF X2 hx hZ hown (host := "") (Or.inl (hw _ (List.mem_of_getElem? (i := 300) rfl))) Via.refl rfl A2.F1 (g := (mkF m 37 #[.val (.ref m_), .val (.ref q), .val (.ref b), .val (.ref nd), .unset, .val (.int (16 : Int32)), .val (.int (own_hh cq)), .unset] [(.ref nd)])) rfl rfl (hb hby d28_37)
    refine Goes.on (T' := T3) (g' := (mkF m 40 #[.val (.ref m_), .val (.ref q), .val (.ref b), .val (.ref nd), .unset, .val (.int (16 : Int32)), .val (.int (own_hh cq)), .unset] [(.int (own_hh ck))])) ?_ st3
    refine Goes.on (T' := T3) (g' := (mkF m 42 #[.val (.ref m_), .val (.ref q), .val (.ref b), .val (.ref nd), .unset, .val (.int (16 : Int32)), .val (.int (own_hh cq)), .unset] [(.int (own_hh cq)), (.int (own_hh ck))])) ?_ (fun t_ k_ => XS.iload X3.here hx rfl (hb hby d28_40) rfl k_)
    refine Goes.icmpN X3 hx rfl (pc0 := 42) (pc' := 71) rfl (hb hby d28_42) rfl (by decide) (by decide) (P := (own_hh ck) = (own_hh cq)) (cmp_ne _ _) (fun hc42 => ?_) (fun hc42 => ?_)
    · show Goes p e below W T3 (mkF m 71 #[.val (.ref m_), .val (.ref q), .val (.ref b), .val (.ref nd), .unset, .val (.int (16 : Int32)), .val (.int (own_hh cq)), .unset] [])
      refine Goes.on (T' := T3) (g' := (mkF m 72 #[.val (.ref m_), .val (.ref q), .val (.ref b), .val (.ref nd), .unset, .val (.int (16 : Int32)), .val (.int (own_hh cq)), .unset] [(.ref nd)])) ?_ (fun t_ k_ => XS.aloadN X3.here hx rfl (hb hby d28_71) rfl rfl k_)
      obtain ⟨T4, X4, e4, st4⟩ := getF X3 hx hZ hown (host := "") (Or.inl (hw _ (List.mem_of_getElem? (i := 301) rfl))) Via.refl e3 A2.F4 (g := (mkF m 72 #[.val (.ref m_), .val (.ref q), .val (.ref b), .val (.ref nd), .unset, .val (.int (16 : Int32)), .val (.int (own_hh cq)), .unset] [(.ref nd)])) rfl rfl (hb hby d28_72)
      refine Goes.on (T' := T4) (g' := (mkF m 75 #[.val (.ref m_), .val (.ref q), .val (.ref b), .val (.ref nd), .unset, .val (.int (16 : Int32)), .val (.int (own_hh cq)), .unset] [.null])) ?_ st4
      refine Goes.on (T' := T4) (g' := (mkF m 76 #[.val (.ref m_), .val (.ref q), .val (.ref b), .val (.ref nd), .unset, .val (.int (16 : Int32)), .val (.int (own_hh cq)), .unset] [.null, .null])) ?_ (fun t_ k_ => XS.dup X4.here hx rfl (hb hby d28_75) rfl rfl k_)
      refine Goes.on (T' := T4) (g' := (mkF m 78 #[.val (.ref m_), .val (.ref q), .val (.ref b), .val (.ref nd), .val .null, .val (.int (16 : Int32)), .val (.int (own_hh cq)), .unset] [.null])) ?_ (fun t_ k_ => XS.astore X4.here hx rfl (hb hby d28_76) rfl rfl (l' := #[.val (.ref m_), .val (.ref q), .val (.ref b), .val (.ref nd), .val .null, .val (.int (16 : Int32)), .val (.int (own_hh cq)), .unset]) rfl k_)
      refine Goes.on (T' := T4) (g' := (mkF m 148 #[.val (.ref m_), .val (.ref q), .val (.ref b), .val (.ref nd), .val .null, .val (.int (16 : Int32)), .val (.int (own_hh cq)), .unset] [])) ?_ (fun t_ k_ => XS.ifnullYes X4.here hx rfl (pc0 := 78) (pc' := 148) rfl (hb hby d28_78) rfl (by decide) (by decide) k_)
      refine Goes.on (T' := T4) (g' := (mkF m 149 #[.val (.ref m_), .val (.ref q), .val (.ref b), .val (.ref nd), .val .null, .val (.int (16 : Int32)), .val (.int (own_hh cq)), .unset] [.null])) ?_ (fun t_ k_ => XS.aconstNull X4.here hx rfl (hb hby d28_148) k_)
      rw [hWd]
      exact Goes.retn X4 (v := some .null) (fun fs hr => retA X4 hx Bd.returns rfl rfl (hb hby d28_149) hr) (fun h => by rw [Bd.returns] at h; cases h) Bd.notSynchronized (by decide) (by decide) (by rw [e4]; exact ⟨by have e : ¬ cq = ck := fun q0 => hc42 (by rw [q0]); rw [if_neg e], N2, K2, A2, AK2, SQ⟩)
    · show Goes p e below W T3 (mkF m 45 #[.val (.ref m_), .val (.ref q), .val (.ref b), .val (.ref nd), .unset, .val (.int (16 : Int32)), .val (.int (own_hh cq)), .unset] [])
      refine Goes.on (T' := T3) (g' := (mkF m 46 #[.val (.ref m_), .val (.ref q), .val (.ref b), .val (.ref nd), .unset, .val (.int (16 : Int32)), .val (.int (own_hh cq)), .unset] [(.ref nd)])) ?_ (fun t_ k_ => XS.aloadN X3.here hx rfl (hb hby d28_45) rfl rfl k_)
      obtain ⟨T5, X5, e5, st5⟩ := getF X3 hx hZ hown (host := "") (Or.inl (hw _ (List.mem_of_getElem? (i := 302) rfl))) Via.refl e3 A2.F2 (g := (mkF m 46 #[.val (.ref m_), .val (.ref q), .val (.ref b), .val (.ref nd), .unset, .val (.int (16 : Int32)), .val (.int (own_hh cq)), .unset] [(.ref nd)])) rfl rfl (hb hby d28_46)
      refine Goes.on (T' := T5) (g' := (mkF m 49 #[.val (.ref m_), .val (.ref q), .val (.ref b), .val (.ref nd), .unset, .val (.int (16 : Int32)), .val (.int (own_hh cq)), .unset] [(.ref k)])) ?_ st5
      refine Goes.on (T' := T5) (g' := (mkF m 50 #[.val (.ref m_), .val (.ref q), .val (.ref b), .val (.ref nd), .unset, .val (.int (16 : Int32)), .val (.int (own_hh cq)), .unset] [(.ref k), (.ref k)])) ?_ (fun t_ k_ => XS.dup X5.here hx rfl (hb hby d28_49) rfl rfl k_)
      refine Goes.on (T' := T5) (g' := (mkF m 52 #[.val (.ref m_), .val (.ref q), .val (.ref b), .val (.ref nd), .unset, .val (.int (16 : Int32)), .val (.int (own_hh cq)), .val (.ref k)] [(.ref k)])) ?_ (fun t_ k_ => XS.astore X5.here hx rfl (hb hby d28_50) rfl rfl (l' := #[.val (.ref m_), .val (.ref q), .val (.ref b), .val (.ref nd), .unset, .val (.int (16 : Int32)), .val (.int (own_hh cq)), .val (.ref k)]) rfl k_)
      refine Goes.on (T' := T5) (g' := (mkF m 53 #[.val (.ref m_), .val (.ref q), .val (.ref b), .val (.ref nd), .unset, .val (.int (16 : Int32)), .val (.int (own_hh cq)), .val (.ref k)] [(.ref q), (.ref k)])) ?_ (fun t_ k_ => XS.aloadN X5.here hx rfl (hb hby d28_52) rfl rfl k_)
      refine Goes.on (T' := T5) (g' := (mkF m 56 #[.val (.ref m_), .val (.ref q), .val (.ref b), .val (.ref nd), .unset, .val (.int (16 : Int32)), .val (.int (own_hh cq)), .val (.ref k)] [])) ?_ (fun t_ k_ => Jvm.RoadKit.acmp X5 hx rfl rfl rfl (pc0 := 53) (pc' := 56) (same := false) rfl (hb hby d28_53) rfl (decide_eq_false fun q => hkq (Value.ref.inj q)) (by decide) (by decide) k_)
      refine Goes.on (T' := T5) (g' := (mkF m 57 #[.val (.ref m_), .val (.ref q), .val (.ref b), .val (.ref nd), .unset, .val (.int (16 : Int32)), .val (.int (own_hh cq)), .val (.ref k)] [(.ref q)])) ?_ (fun t_ k_ => XS.aloadN X5.here hx rfl (hb hby d28_56) rfl rfl k_)
      refine Goes.on (T' := T5) (g' := (mkF m 60 #[.val (.ref m_), .val (.ref q), .val (.ref b), .val (.ref nd), .unset, .val (.int (16 : Int32)), .val (.int (own_hh cq)), .val (.ref k)] [])) ?_ (fun t_ k_ => XS.ifnullNo X5.here hx rfl (hb hby d28_57) rfl k_)
      refine Goes.on (T' := T5) (g' := (mkF m 61 #[.val (.ref m_), .val (.ref q), .val (.ref b), .val (.ref nd), .unset, .val (.int (16 : Int32)), .val (.int (own_hh cq)), .val (.ref k)] [(.ref q)])) ?_ (fun t_ k_ => XS.aloadN X5.here hx rfl (hb hby d28_60) rfl rfl k_)
      refine Goes.on (T' := T5) (g' := (mkF m 63 #[.val (.ref m_), .val (.ref q), .val (.ref b), .val (.ref nd), .unset, .val (.int (16 : Int32)), .val (.int (own_hh cq)), .val (.ref k)] [(.ref k), (.ref q)])) ?_ (fun t_ k_ => XS.aload X5.here hx rfl (hb hby d28_61) rfl rfl k_)
      obtain ⟨cq6, kq6, q6a, q6b, q6c⟩ := isOf hZ e5 SQ.exa
      obtain ⟨_, _, ⟨T6, Lq_6, kq_6, nq_6⟩, -, X6, ⟨Lc6, hQ6, l6, y6, z6⟩, st6⟩ := X5.virtualBack hx (y := (⟨"java/lang/Object", "equals", "(Ljava/lang/Object;)Z"⟩ : MethodName)) (z := (⟨"java/lang/String", "equals", "(Ljava/lang/Object;)Z"⟩ : MethodName)) hown (mvT hZ (hw _ (List.mem_of_getElem? (i := 303) rfl))) (mvT hZ (hw _ (List.mem_of_getElem? (i := 304) rfl))) (own_nfO hZ (hw _ (List.mem_of_getElem? (i := 104) rfl)) rfl) (mvT hZ (hw _ (List.mem_of_getElem? (i := 306) rfl))) (mvT hZ (hw _ (List.mem_of_getElem? (i := 294) rfl))) (by decide) (backOf (W := 0) (rmSE l Z a0 hw [] q k tq tk kq kk [own_lo cq] [own_lo ck] zc T2.heap n0 Zh SQ.1 AK2.1 (CS.ext xo2.2) hzc) hZ (hw _ (List.mem_of_getElem? (i := 296) rfl)) (hw _ (List.mem_of_getElem? (i := 3) rfl)) (by decide) (by decide)) q6a q6c (g := (mkF m 63 #[.val (.ref m_), .val (.ref q), .val (.ref b), .val (.ref nd), .unset, .val (.int (16 : Int32)), .val (.int (own_hh cq)), .val (.ref k)] [(.ref k), (.ref q)])) rfl (by rw [hml]; rfl) (Steps.refl _) (argsL := [(.ref k)]) (rest := []) (lenOf pd_20 rfl) rfl (by show 2 * 0 + _ ≤ _; exact Nat.le_of_eq rfl) (hb hby d28_63) (fun _ _ => ⟨rfl, e5, (by decide : 0 + 0 ≤ _), (by decide : 0 + 0 ≤ _)⟩)
      dsimp only [Pt.U, Pt.locs, Pt.cells, Pt.slots] at X6 l6 y6 z6 st6 hQ6
      rw [l6, y6, z6] at X6
      change Stand p l e _ _ m _ below meth c T6 _ 0 0 at X6
      obtain ⟨rfl, N6q, eh6⟩ := hQ6
      have N6 := Fr.app N2 N6q
      refine Goes.on (T' := T6) (g' := (mkF m 66 #[.val (.ref m_), .val (.ref q), .val (.ref b), .val (.ref nd), .unset, .val (.int (16 : Int32)), .val (.int (own_hh cq)), .val (.ref k)] [(.int (if [own_lo cq] = [own_lo ck] then 1 else 0))])) ?_ (fun t => st6.trans)
      refine Goes.ifP X6 hx rfl (pc0 := 66) (pc' := 71) rfl (hb hby d28_66) rfl (by decide) (by decide) (P := (if [own_lo cq] = [own_lo ck] then 1 else 0) = (0 : Int32)) (ifc_eq _ _) (fun hc66 => ?_) (fun hc66 => ?_)
      · show Goes p e below W T6 (mkF m 71 #[.val (.ref m_), .val (.ref q), .val (.ref b), .val (.ref nd), .unset, .val (.int (16 : Int32)), .val (.int (own_hh cq)), .val (.ref k)] [])
        refine Goes.on (T' := T6) (g' := (mkF m 72 #[.val (.ref m_), .val (.ref q), .val (.ref b), .val (.ref nd), .unset, .val (.int (16 : Int32)), .val (.int (own_hh cq)), .val (.ref k)] [(.ref nd)])) ?_ (fun t_ k_ => XS.aloadN X6.here hx rfl (hb hby d28_71) rfl rfl k_)
        obtain ⟨T7, X7, e7, st7⟩ := getF X6 hx hZ hown (host := "") (Or.inl (hw _ (List.mem_of_getElem? (i := 301) rfl))) Via.refl eh6 A2.F4 (g := (mkF m 72 #[.val (.ref m_), .val (.ref q), .val (.ref b), .val (.ref nd), .unset, .val (.int (16 : Int32)), .val (.int (own_hh cq)), .val (.ref k)] [(.ref nd)])) rfl rfl (hb hby d28_72)
        refine Goes.on (T' := T7) (g' := (mkF m 75 #[.val (.ref m_), .val (.ref q), .val (.ref b), .val (.ref nd), .unset, .val (.int (16 : Int32)), .val (.int (own_hh cq)), .val (.ref k)] [.null])) ?_ st7
        refine Goes.on (T' := T7) (g' := (mkF m 76 #[.val (.ref m_), .val (.ref q), .val (.ref b), .val (.ref nd), .unset, .val (.int (16 : Int32)), .val (.int (own_hh cq)), .val (.ref k)] [.null, .null])) ?_ (fun t_ k_ => XS.dup X7.here hx rfl (hb hby d28_75) rfl rfl k_)
        refine Goes.on (T' := T7) (g' := (mkF m 78 #[.val (.ref m_), .val (.ref q), .val (.ref b), .val (.ref nd), .val .null, .val (.int (16 : Int32)), .val (.int (own_hh cq)), .val (.ref k)] [.null])) ?_ (fun t_ k_ => XS.astore X7.here hx rfl (hb hby d28_76) rfl rfl (l' := #[.val (.ref m_), .val (.ref q), .val (.ref b), .val (.ref nd), .val .null, .val (.int (16 : Int32)), .val (.int (own_hh cq)), .val (.ref k)]) rfl k_)
        refine Goes.on (T' := T7) (g' := (mkF m 148 #[.val (.ref m_), .val (.ref q), .val (.ref b), .val (.ref nd), .val .null, .val (.int (16 : Int32)), .val (.int (own_hh cq)), .val (.ref k)] [])) ?_ (fun t_ k_ => XS.ifnullYes X7.here hx rfl (pc0 := 78) (pc' := 148) rfl (hb hby d28_78) rfl (by decide) (by decide) k_)
        refine Goes.on (T' := T7) (g' := (mkF m 149 #[.val (.ref m_), .val (.ref q), .val (.ref b), .val (.ref nd), .val .null, .val (.int (16 : Int32)), .val (.int (own_hh cq)), .val (.ref k)] [.null])) ?_ (fun t_ k_ => XS.aconstNull X7.here hx rfl (hb hby d28_148) k_)
        rw [hWd]
        exact Goes.retn X7 (v := some .null) (fun fs hr => retA X7 hx Bd.returns rfl rfl (hb hby d28_149) hr) (fun h => by rw [Bd.returns] at h; cases h) Bd.notSynchronized (by decide) (by decide) (by rw [e7]; exact ⟨by have e : ¬ cq = ck := (fun q0 => absurd (hc66.symm.trans (if_pos (by rw [q0]))) (by decide)); rw [if_neg e], N6, K2, A2, AK2, SQ⟩)
      · show Goes p e below W T6 (mkF m 69 #[.val (.ref m_), .val (.ref q), .val (.ref b), .val (.ref nd), .unset, .val (.int (16 : Int32)), .val (.int (own_hh cq)), .val (.ref k)] [])
        refine Goes.on (T' := T6) (g' := (mkF m 70 #[.val (.ref m_), .val (.ref q), .val (.ref b), .val (.ref nd), .unset, .val (.int (16 : Int32)), .val (.int (own_hh cq)), .val (.ref k)] [(.ref nd)])) ?_ (fun t_ k_ => XS.aloadN X6.here hx rfl (hb hby d28_69) rfl rfl k_)
        rw [hWd]
        exact Goes.retn X6 (v := some (.ref nd)) (fun fs hr => retA X6 hx Bd.returns rfl rfl (hb hby d28_70) hr) (fun h => by rw [Bd.returns] at h; cases h) Bd.notSynchronized (by decide) (by decide) (by rw [eh6]; exact ⟨by have e : cq = ck := Classical.byContradiction (fun q0 => hc66 (if_neg (by rw [own_lo1 hqa hqb hka hkb]; exact q0))); rw [if_pos e], N6, K2, A2, AK2, SQ⟩)
  · show Goes p e below W T2 (mkF m 30 #[.val (.ref m_), .val (.ref q), .val (.ref b), .unset, .unset, .val (.int (16 : Int32)), .val (.int (own_hh cq)), .unset] [(.int ((15 : Int32) &&& (own_hh cq))), (.ref b)])
    refine Goes.on (T' := T2) (g' := (mkF m 31 #[.val (.ref m_), .val (.ref q), .val (.ref b), .unset, .unset, .val (.int (16 : Int32)), .val (.int (own_hh cq)), .unset] [.null])) ?_ (X2.aaload hx (j := ((15 : Int32) &&& (own_hh cq))) (v := .null) AC.1 (State.isArrayOf_alike hZ.alike AC.2.1) rfl AC.2.2 (inb_of SC ⟨iq.1, iq.2.1⟩) (by rw [HC _ (by rw [SC]; exact iq.2.2), own_setg ik.2.2, if_neg hix]) (g := (mkF m 30 #[.val (.ref m_), .val (.ref q), .val (.ref b), .unset, .unset, .val (.int (16 : Int32)), .val (.int (own_hh cq)), .unset] [(.int ((15 : Int32) &&& (own_hh cq))), (.ref b)])) rfl rfl (hb hby d28_30))
    refine Goes.on (T' := T2) (g' := (mkF m 32 #[.val (.ref m_), .val (.ref q), .val (.ref b), .unset, .unset, .val (.int (16 : Int32)), .val (.int (own_hh cq)), .unset] [.null, .null])) ?_ (fun t_ k_ => XS.dup X2.here hx rfl (hb hby d28_31) rfl rfl k_)
    refine Goes.on (T' := T2) (g' := (mkF m 33 #[.val (.ref m_), .val (.ref q), .val (.ref b), .val .null, .unset, .val (.int (16 : Int32)), .val (.int (own_hh cq)), .unset] [.null])) ?_ (fun t_ k_ => XS.astoreN X2.here hx rfl (hb hby d28_32) rfl rfl (l' := #[.val (.ref m_), .val (.ref q), .val (.ref b), .val .null, .unset, .val (.int (16 : Int32)), .val (.int (own_hh cq)), .unset]) rfl k_)
    refine Goes.on (T' := T2) (g' := (mkF m 148 #[.val (.ref m_), .val (.ref q), .val (.ref b), .val .null, .unset, .val (.int (16 : Int32)), .val (.int (own_hh cq)), .unset] [])) ?_ (fun t_ k_ => XS.ifnullYes X2.here hx rfl (pc0 := 33) (pc' := 148) rfl (hb hby d28_33) rfl (by decide) (by decide) k_)
    refine Goes.on (T' := T2) (g' := (mkF m 149 #[.val (.ref m_), .val (.ref q), .val (.ref b), .val .null, .unset, .val (.int (16 : Int32)), .val (.int (own_hh cq)), .unset] [.null])) ?_ (fun t_ k_ => XS.aconstNull X2.here hx rfl (hb hby d28_148) k_)
    rw [hWd]
    exact Goes.retn X2 (v := some .null) (fun fs hr => retA X2 hx Bd.returns rfl rfl (hb hby d28_149) hr) (fun h => by rw [Bd.returns] at h; cases h) Bd.notSynchronized (by decide) (by decide) ⟨by have e : ¬ cq = ck := fun q0 => hix (by rw [q0]); rw [if_neg e], N2, K2, A2, AK2, SQ⟩
def QT0 (Z : State) (m_ q : Addr) (h0 : Heap) (n0 : Nat) (v : Option Value) (h : Heap) (L : List Loc) : Prop := v = some .null ∧ Fr n0 L ∧ h = h0
set_option maxRecDepth 65536 in
set_option maxHeartbeats 40000000 in
theorem rmT0 (l : Launch) (Z : State) (a0 : Array Value) (hw : ∀ d ∈ tables_1, d.before a0 Z = true) (ws : List Jvm.Cond) (m_ q : Addr) (h0 : Heap) (n0 : Nat) (Z0 : n0 ≤ h0.size) (A : Hm0 Z h0 m_) :
    MetFree l (⟨"java/util/HashMap", "get", "(Ljava/lang/Object;)Ljava/lang/Object;"⟩ : MethodName) (head1 (Jvm.Cond.code (⟨"java/util/HashMap", "get", "(Ljava/lang/Object;)Ljava/lang/Object;"⟩ : MethodName) jdk_69_method_12_code 3 (some (.object "java/lang/Object")) :: ws) ({ frames := 1, cells := 0, slots := 0, locals := 19 } : Room)) (fun a_ U => a_ = #[(.ref m_), (.ref q)] ∧ Z.Warmed39 U.vm ∧ U.heap = h0) (fun _ _ _ _ _ => True) (fun _ U o U' => ∃ v L, o = .returned v ∧ QT0 Z m_ q h0 n0 v U'.heap L ∧ FrameEnd U o U' L ({ frames := 1, cells := 0, slots := 0, locals := 19 } : Room).cells ({ frames := 1, cells := 0, slots := 0, locals := 19 } : Room).slots) := by
  refine MetFree.of_bodySF (plainFor_of_name pn_9) hisR ?_
  intro p e s m args below meth c s₁ Bd hml0 hP hK
  obtain ⟨rfl, hZ, hh⟩ := hP
  have hx := Bd.exec
  have hby := Bd.bytes
  have hml : c.maxLocals = 3 := hml0
  have hown : s.vm.findClass "java/util/HashMap" = some m.cls := findClass_of_methodNamed Bd.named
  have hnm := (name_of_methodNamed Bd.named Bd.method).1
  have X0 : Stand p l e ({ frames := 1, cells := 0, slots := 0, locals := 19 } : Room) s m #[(.ref m_), (.ref q)] below meth c s₁ [] 0 0 := Stand.of_body Bd
  have e0 : s₁.heap = h0 := by rw [← hh, Bd.state]; rfl
  have N0 := Fr.nil n0
  refine Goes.done ?_
  obtain ⟨W, hWd⟩ : ∃ W : State → Prop, W = EndW s below (QT0 Z m_ q h0 n0) ({ frames := 1, cells := 0, slots := 0, locals := 19 } : Room).cells ({ frames := 1, cells := 0, slots := 0, locals := 19 } : Room).slots := ⟨_, rfl⟩
  rw [← hWd]
  have hef : entryFrame m #[(.ref m_), (.ref q)] 3 = (mkF m 0 #[.val (.ref m_), .val (.ref q), .unset] []) := by first | (simp [entryFrame, mkF, argsToLocals, Value.category]; done) | rfl
  rw [hef]
  refine Goes.on (T' := s₁) (g' := (mkF m 1 #[.val (.ref m_), .val (.ref q), .unset] [(.ref m_)])) ?_ (fun t_ k_ => XS.aloadN X0.here hx rfl (hb hby d27_0) rfl rfl k_)
  refine Goes.on (T' := s₁) (g' := (mkF m 2 #[.val (.ref m_), .val (.ref q), .unset] [(.ref q), (.ref m_)])) ?_ (fun t_ k_ => XS.aloadN X0.here hx rfl (hb hby d27_1) rfl rfl k_)
  obtain ⟨cq1, kq1, q1a, q1b, q1c⟩ := isOf hZ e0 A.E
  obtain ⟨_, _, ⟨T1, Lq_1, kq_1, nq_1⟩, -, X1, ⟨Lc1, hQ1, l1, y1, z1⟩, st1⟩ := X0.virtualBack hx (y := (⟨"java/util/HashMap", "getNode", "(Ljava/lang/Object;)Ljava/util/HashMap$Node;"⟩ : MethodName)) (z := (⟨"java/util/HashMap", "getNode", "(Ljava/lang/Object;)Ljava/util/HashMap$Node;"⟩ : MethodName)) hown (mvT hZ (hw _ (List.mem_of_getElem? (i := 195) rfl))) (mvT hZ (hw _ (List.mem_of_getElem? (i := 196) rfl))) (notFace_of_selects (args := #[]) (mvT hZ (hw _ (List.mem_of_getElem? (i := 198) rfl)))) (mvT hZ (hw _ (List.mem_of_getElem? (i := 198) rfl))) (mvT hZ (hw _ (List.mem_of_getElem? (i := 197) rfl))) (by decide) (backOf (W := 0) (rmG0 l Z a0 hw [] m_ q h0 n0 Z0 A) hZ (hw _ (List.mem_of_getElem? (i := 199) rfl)) (hw _ (List.mem_of_getElem? (i := 122) rfl)) (by decide) (by decide)) q1a q1c (g := (mkF m 2 #[.val (.ref m_), .val (.ref q), .unset] [(.ref q), (.ref m_)])) rfl (by rw [hml]; rfl) (Steps.refl _) (argsL := [(.ref q)]) (rest := []) (lenOf pd_21 rfl) rfl (by show 2 * 0 + _ ≤ _; exact Nat.le_of_eq rfl) (hb hby d27_2) (fun _ _ => ⟨rfl, e0, (by decide : 0 + 0 ≤ _), (by decide : 0 + 0 ≤ _)⟩)
  dsimp only [Pt.U, Pt.locs, Pt.cells, Pt.slots] at X1 l1 y1 z1 st1 hQ1
  rw [l1, y1, z1] at X1
  change Stand p l e _ _ m _ below meth c T1 _ 0 0 at X1
  obtain ⟨rfl, N1q, eh1⟩ := hQ1
  have N1 := Fr.app N0 N1q
  refine Goes.on (T' := T1) (g' := (mkF m 5 #[.val (.ref m_), .val (.ref q), .unset] [.null])) ?_ (fun t => st1.trans)
  refine Goes.on (T' := T1) (g' := (mkF m 6 #[.val (.ref m_), .val (.ref q), .unset] [.null, .null])) ?_ (fun t_ k_ => XS.dup X1.here hx rfl (hb hby d27_5) rfl rfl k_)
  refine Goes.on (T' := T1) (g' := (mkF m 7 #[.val (.ref m_), .val (.ref q), .val .null] [.null])) ?_ (fun t_ k_ => XS.astoreN X1.here hx rfl (hb hby d27_6) rfl rfl (l' := #[.val (.ref m_), .val (.ref q), .val .null]) rfl k_)
  refine Goes.on (T' := T1) (g' := (mkF m 10 #[.val (.ref m_), .val (.ref q), .val .null] [])) ?_ (fun t_ k_ => XS.ifnonnullNo X1.here hx rfl (hb hby d27_7) rfl k_)
  refine Goes.on (T' := T1) (g' := (mkF m 11 #[.val (.ref m_), .val (.ref q), .val .null] [.null])) ?_ (fun t_ k_ => XS.aconstNull X1.here hx rfl (hb hby d27_10) k_)
  refine Goes.on (T' := T1) (g' := (mkF m 18 #[.val (.ref m_), .val (.ref q), .val .null] [.null])) ?_ (fun t_ k_ => XS.goto X1.here hx rfl (pc0 := 11) (pc' := 18) rfl (hb hby d27_11) (by decide) (by decide) k_)
  rw [hWd]
  exact Goes.retn X1 (v := some .null) (fun fs hr => retA X1 hx Bd.returns rfl rfl (hb hby d27_18) hr) (fun h => by rw [Bd.returns] at h; cases h) Bd.notSynchronized (by decide) (by decide) (by rw [eh1]; exact ⟨rfl, N1, rfl⟩)
def QC0 (Z : State) (m_ q : Addr) (h0 : Heap) (n0 : Nat) (v : Option Value) (h : Heap) (L : List Loc) : Prop := v = some (.int (0)) ∧ Fr n0 L ∧ h = h0
set_option maxRecDepth 65536 in
set_option maxHeartbeats 40000000 in
theorem rmC0 (l : Launch) (Z : State) (a0 : Array Value) (hw : ∀ d ∈ tables_1, d.before a0 Z = true) (ws : List Jvm.Cond) (m_ q : Addr) (h0 : Heap) (n0 : Nat) (Z0 : n0 ≤ h0.size) (A : Hm0 Z h0 m_) :
    MetFree l (⟨"java/util/HashMap", "containsKey", "(Ljava/lang/Object;)Z"⟩ : MethodName) (head1 (Jvm.Cond.code (⟨"java/util/HashMap", "containsKey", "(Ljava/lang/Object;)Z"⟩ : MethodName) jdk_69_method_14_code 2 (some .boolean) :: ws) ({ frames := 1, cells := 0, slots := 0, locals := 19 } : Room)) (fun a_ U => a_ = #[(.ref m_), (.ref q)] ∧ Z.Warmed39 U.vm ∧ U.heap = h0) (fun _ _ _ _ _ => True) (fun _ U o U' => ∃ v L, o = .returned v ∧ QC0 Z m_ q h0 n0 v U'.heap L ∧ FrameEnd U o U' L ({ frames := 1, cells := 0, slots := 0, locals := 19 } : Room).cells ({ frames := 1, cells := 0, slots := 0, locals := 19 } : Room).slots) := by
  refine MetFree.of_bodySF (plainFor_of_name pn_9) hisR ?_
  intro p e s m args below meth c s₁ Bd hml0 hP hK
  obtain ⟨rfl, hZ, hh⟩ := hP
  have hx := Bd.exec
  have hby := Bd.bytes
  have hml : c.maxLocals = 2 := hml0
  have hown : s.vm.findClass "java/util/HashMap" = some m.cls := findClass_of_methodNamed Bd.named
  have hnm := (name_of_methodNamed Bd.named Bd.method).1
  have X0 : Stand p l e ({ frames := 1, cells := 0, slots := 0, locals := 19 } : Room) s m #[(.ref m_), (.ref q)] below meth c s₁ [] 0 0 := Stand.of_body Bd
  have e0 : s₁.heap = h0 := by rw [← hh, Bd.state]; rfl
  have N0 := Fr.nil n0
  refine Goes.done ?_
  obtain ⟨W, hWd⟩ : ∃ W : State → Prop, W = EndW s below (QC0 Z m_ q h0 n0) ({ frames := 1, cells := 0, slots := 0, locals := 19 } : Room).cells ({ frames := 1, cells := 0, slots := 0, locals := 19 } : Room).slots := ⟨_, rfl⟩
  rw [← hWd]
  have hef : entryFrame m #[(.ref m_), (.ref q)] 2 = (mkF m 0 #[.val (.ref m_), .val (.ref q)] []) := by first | (simp [entryFrame, mkF, argsToLocals, Value.category]; done) | rfl
  rw [hef]
  refine Goes.on (T' := s₁) (g' := (mkF m 1 #[.val (.ref m_), .val (.ref q)] [(.ref m_)])) ?_ (fun t_ k_ => XS.aloadN X0.here hx rfl (hb hby d29_0) rfl rfl k_)
  refine Goes.on (T' := s₁) (g' := (mkF m 2 #[.val (.ref m_), .val (.ref q)] [(.ref q), (.ref m_)])) ?_ (fun t_ k_ => XS.aloadN X0.here hx rfl (hb hby d29_1) rfl rfl k_)
  obtain ⟨cq1, kq1, q1a, q1b, q1c⟩ := isOf hZ e0 A.E
  obtain ⟨_, _, ⟨T1, Lq_1, kq_1, nq_1⟩, -, X1, ⟨Lc1, hQ1, l1, y1, z1⟩, st1⟩ := X0.virtualBack hx (y := (⟨"java/util/HashMap", "getNode", "(Ljava/lang/Object;)Ljava/util/HashMap$Node;"⟩ : MethodName)) (z := (⟨"java/util/HashMap", "getNode", "(Ljava/lang/Object;)Ljava/util/HashMap$Node;"⟩ : MethodName)) hown (mvT hZ (hw _ (List.mem_of_getElem? (i := 195) rfl))) (mvT hZ (hw _ (List.mem_of_getElem? (i := 196) rfl))) (notFace_of_selects (args := #[]) (mvT hZ (hw _ (List.mem_of_getElem? (i := 198) rfl)))) (mvT hZ (hw _ (List.mem_of_getElem? (i := 198) rfl))) (mvT hZ (hw _ (List.mem_of_getElem? (i := 197) rfl))) (by decide) (backOf (W := 0) (rmG0 l Z a0 hw [] m_ q h0 n0 Z0 A) hZ (hw _ (List.mem_of_getElem? (i := 199) rfl)) (hw _ (List.mem_of_getElem? (i := 122) rfl)) (by decide) (by decide)) q1a q1c (g := (mkF m 2 #[.val (.ref m_), .val (.ref q)] [(.ref q), (.ref m_)])) rfl (by rw [hml]; rfl) (Steps.refl _) (argsL := [(.ref q)]) (rest := []) (lenOf pd_21 rfl) rfl (by show 2 * 0 + _ ≤ _; exact Nat.le_of_eq rfl) (hb hby d29_2) (fun _ _ => ⟨rfl, e0, (by decide : 0 + 0 ≤ _), (by decide : 0 + 0 ≤ _)⟩)
  dsimp only [Pt.U, Pt.locs, Pt.cells, Pt.slots] at X1 l1 y1 z1 st1 hQ1
  rw [l1, y1, z1] at X1
  change Stand p l e _ _ m _ below meth c T1 _ 0 0 at X1
  obtain ⟨rfl, N1q, eh1⟩ := hQ1
  have N1 := Fr.app N0 N1q
  refine Goes.on (T' := T1) (g' := (mkF m 5 #[.val (.ref m_), .val (.ref q)] [.null])) ?_ (fun t => st1.trans)
  refine Goes.on (T' := T1) (g' := (mkF m 12 #[.val (.ref m_), .val (.ref q)] [])) ?_ (fun t_ k_ => XS.ifnullYes X1.here hx rfl (pc0 := 5) (pc' := 12) rfl (hb hby d29_5) rfl (by decide) (by decide) k_)
  refine Goes.on (T' := T1) (g' := (mkF m 13 #[.val (.ref m_), .val (.ref q)] [(.int (0 : Int32))])) ?_ (fun t_ k_ => XS.iconst X1.here hx rfl (hb hby d29_12) k_)
  rw [hWd]
  exact Goes.retn X1 (v := some (.int (nar .boolean (0 : Int32)))) (fun fs hr => retN X1 hx (t := .boolean) Bd.returns (by simp) (hb hby d29_13) hr) (fun h => by rw [Bd.returns] at h; cases h) Bd.notSynchronized (by decide) (by decide) (by rw [eh1]; exact ⟨rfl, N1, rfl⟩)
def QT1 (Z : State) (m_ b nd u : Addr) (kb : ClassId) (k tk : Addr) (kk : ClassId) (ck : Int32) (q tq : Addr) (kq : ClassId) (cq : Int32) (zc : Int32) (h0 : Heap) (n0 : Nat) (v : Option Value) (h : Heap) (L : List Loc) : Prop := v = some (if cq = ck then Value.ref u else Value.null) ∧ Fr n0 L ∧ Keep h0 h [q] ∧ Hm1 Z h m_ b nd kb (own_hh ck) k u ∧ S1 Z h k tk kk ck ∧ S1 Z h q tq kq cq
set_option maxRecDepth 65536 in
set_option maxHeartbeats 40000000 in
theorem rmT1 (l : Launch) (Z : State) (a0 : Array Value) (hw : ∀ d ∈ tables_1, d.before a0 Z = true) (ws : List Jvm.Cond) (m_ b nd u : Addr) (kb : ClassId) (k tk : Addr) (kk : ClassId) (ck : Int32) (q tq : Addr) (kq : ClassId) (cq : Int32) (zc : Int32) (h0 : Heap) (n0 : Nat) (Z0 : n0 ≤ h0.size) (A : Hm1 Z h0 m_ b nd kb (own_hh ck) k u) (AK : S1 Z h0 k tk kk ck) (hka : ¬ ck < 0) (hkb : ¬ (255 : Int32) < ck) (hkq : k ≠ q) (AQ : S1 Z h0 q tq kq cq) (gq : n0 ≤ q) (hqa : ¬ cq < 0) (hqb : ¬ (255 : Int32) < cq) (CS : Sta Z Z.heap "java/lang/String" "COMPACT_STRINGS" "Z" (.int zc)) (hzc : ¬ zc = (0 : Int32)) (X0_ : Old Z n0 h0) :
    MetFree l (⟨"java/util/HashMap", "get", "(Ljava/lang/Object;)Ljava/lang/Object;"⟩ : MethodName) (head1 (Jvm.Cond.code (⟨"java/util/HashMap", "get", "(Ljava/lang/Object;)Ljava/lang/Object;"⟩ : MethodName) jdk_69_method_12_code 3 (some (.object "java/lang/Object")) :: ws) ({ frames := 4, cells := 0, slots := 0, locals := 59 } : Room)) (fun a_ U => a_ = #[(.ref m_), (.ref q)] ∧ Z.Warmed39 U.vm ∧ U.heap = h0) (fun _ _ _ _ _ => True) (fun _ U o U' => ∃ v L, o = .returned v ∧ QT1 Z m_ b nd u kb k tk kk ck q tq kq cq zc h0 n0 v U'.heap L ∧ FrameEnd U o U' L ({ frames := 4, cells := 0, slots := 0, locals := 59 } : Room).cells ({ frames := 4, cells := 0, slots := 0, locals := 59 } : Room).slots) := by
  refine MetFree.of_bodySF (plainFor_of_name pn_9) hisR ?_
  intro p e s m args below meth c s₁ Bd hml0 hP hK
  obtain ⟨rfl, hZ, hh⟩ := hP
  have hx := Bd.exec
  have hby := Bd.bytes
  have hml : c.maxLocals = 3 := hml0
  have hown : s.vm.findClass "java/util/HashMap" = some m.cls := findClass_of_methodNamed Bd.named
  have hnm := (name_of_methodNamed Bd.named Bd.method).1
  have X0 : Stand p l e ({ frames := 4, cells := 0, slots := 0, locals := 59 } : Room) s m #[(.ref m_), (.ref q)] below meth c s₁ [] 0 0 := Stand.of_body Bd
  have e0 : s₁.heap = h0 := by rw [← hh, Bd.state]; rfl
  have N0 := Fr.nil n0
  refine Goes.done ?_
  obtain ⟨W, hWd⟩ : ∃ W : State → Prop, W = EndW s below (QT1 Z m_ b nd u kb k tk kk ck q tq kq cq zc h0 n0) ({ frames := 4, cells := 0, slots := 0, locals := 59 } : Room).cells ({ frames := 4, cells := 0, slots := 0, locals := 59 } : Room).slots := ⟨_, rfl⟩
  rw [← hWd]
  have hef : entryFrame m #[(.ref m_), (.ref q)] 3 = (mkF m 0 #[.val (.ref m_), .val (.ref q), .unset] []) := by first | (simp [entryFrame, mkF, argsToLocals, Value.category]; done) | rfl
  rw [hef]
  refine Goes.on (T' := s₁) (g' := (mkF m 1 #[.val (.ref m_), .val (.ref q), .unset] [(.ref m_)])) ?_ (fun t_ k_ => XS.aloadN X0.here hx rfl (hb hby d27_0) rfl rfl k_)
  refine Goes.on (T' := s₁) (g' := (mkF m 2 #[.val (.ref m_), .val (.ref q), .unset] [(.ref q), (.ref m_)])) ?_ (fun t_ k_ => XS.aloadN X0.here hx rfl (hb hby d27_1) rfl rfl k_)
  obtain ⟨cq1, kq1, q1a, q1b, q1c⟩ := isOf hZ e0 A.E
  obtain ⟨_, _, ⟨T1, Lq_1, kq_1, nq_1⟩, -, X1, ⟨Lc1, hQ1, l1, y1, z1⟩, st1⟩ := X0.virtualBack hx (y := (⟨"java/util/HashMap", "getNode", "(Ljava/lang/Object;)Ljava/util/HashMap$Node;"⟩ : MethodName)) (z := (⟨"java/util/HashMap", "getNode", "(Ljava/lang/Object;)Ljava/util/HashMap$Node;"⟩ : MethodName)) hown (mvT hZ (hw _ (List.mem_of_getElem? (i := 195) rfl))) (mvT hZ (hw _ (List.mem_of_getElem? (i := 196) rfl))) (notFace_of_selects (args := #[]) (mvT hZ (hw _ (List.mem_of_getElem? (i := 198) rfl)))) (mvT hZ (hw _ (List.mem_of_getElem? (i := 198) rfl))) (mvT hZ (hw _ (List.mem_of_getElem? (i := 197) rfl))) (by decide) (backOf (W := 0) (rmG1 l Z a0 hw [] m_ b nd u kb k tk kk ck q tq kq cq zc h0 n0 Z0 A AK hka hkb hkq AQ gq hqa hqb CS hzc X0_) hZ (hw _ (List.mem_of_getElem? (i := 199) rfl)) (hw _ (List.mem_of_getElem? (i := 122) rfl)) (by decide) (by decide)) q1a q1c (g := (mkF m 2 #[.val (.ref m_), .val (.ref q), .unset] [(.ref q), (.ref m_)])) rfl (by rw [hml]; rfl) (Steps.refl _) (argsL := [(.ref q)]) (rest := []) (lenOf pd_21 rfl) rfl (by show 2 * 0 + _ ≤ _; exact Nat.le_of_eq rfl) (hb hby d27_2) (fun _ _ => ⟨rfl, e0, (by decide : 0 + 0 ≤ _), (by decide : 0 + 0 ≤ _)⟩)
  dsimp only [Pt.U, Pt.locs, Pt.cells, Pt.slots] at X1 l1 y1 z1 st1 hQ1
  rw [l1, y1, z1] at X1
  change Stand p l e _ _ m _ below meth c T1 _ 0 0 at X1
  obtain ⟨rfl, N1q, KX, A2, AK2, SQ⟩ := hQ1
  have N1 := Fr.app N0 N1q
  refine Goes.on (T' := T1) (g' := (mkF m 5 #[.val (.ref m_), .val (.ref q), .unset] [(if cq = ck then Value.ref nd else Value.null)])) ?_ (fun t => st1.trans)
  by_cases hqk : cq = ck
  · rw [if_pos hqk]
    refine Goes.on (T' := T1) (g' := (mkF m 6 #[.val (.ref m_), .val (.ref q), .unset] [(.ref nd), (.ref nd)])) ?_ (fun t_ k_ => XS.dup X1.here hx rfl (hb hby d27_5) rfl rfl k_)
    refine Goes.on (T' := T1) (g' := (mkF m 7 #[.val (.ref m_), .val (.ref q), .val (.ref nd)] [(.ref nd)])) ?_ (fun t_ k_ => XS.astoreN X1.here hx rfl (hb hby d27_6) rfl rfl (l' := #[.val (.ref m_), .val (.ref q), .val (.ref nd)]) rfl k_)
    refine Goes.on (T' := T1) (g' := (mkF m 14 #[.val (.ref m_), .val (.ref q), .val (.ref nd)] [])) ?_ (fun t_ k_ => XS.ifnonnullYes X1.here hx rfl (pc0 := 7) (pc' := 14) rfl (hb hby d27_7) rfl (by decide) (by decide) k_)
    refine Goes.on (T' := T1) (g' := (mkF m 15 #[.val (.ref m_), .val (.ref q), .val (.ref nd)] [(.ref nd)])) ?_ (fun t_ k_ => XS.aloadN X1.here hx rfl (hb hby d27_14) rfl rfl k_)
    obtain ⟨T2, X2, e2, st2⟩ := getF X1 hx hZ hown (host := "") (Or.inl (hw _ (List.mem_of_getElem? (i := 307) rfl))) Via.refl rfl A2.F3 (g := (mkF m 15 #[.val (.ref m_), .val (.ref q), .val (.ref nd)] [(.ref nd)])) rfl rfl (hb hby d27_15)
    refine Goes.on (T' := T2) (g' := (mkF m 18 #[.val (.ref m_), .val (.ref q), .val (.ref nd)] [(.ref u)])) ?_ st2
    rw [hWd]
    exact Goes.retn X2 (v := some (.ref u)) (fun fs hr => retA X2 hx Bd.returns rfl rfl (hb hby d27_18) hr) (fun h => by rw [Bd.returns] at h; cases h) Bd.notSynchronized (by decide) (by decide) (by rw [e2]; exact ⟨by rw [if_pos hqk], N1, KX, A2, AK2, SQ⟩)
  · rw [if_neg hqk]
    refine Goes.on (T' := T1) (g' := (mkF m 6 #[.val (.ref m_), .val (.ref q), .unset] [.null, .null])) ?_ (fun t_ k_ => XS.dup X1.here hx rfl (hb hby d27_5) rfl rfl k_)
    refine Goes.on (T' := T1) (g' := (mkF m 7 #[.val (.ref m_), .val (.ref q), .val .null] [.null])) ?_ (fun t_ k_ => XS.astoreN X1.here hx rfl (hb hby d27_6) rfl rfl (l' := #[.val (.ref m_), .val (.ref q), .val .null]) rfl k_)
    refine Goes.on (T' := T1) (g' := (mkF m 10 #[.val (.ref m_), .val (.ref q), .val .null] [])) ?_ (fun t_ k_ => XS.ifnonnullNo X1.here hx rfl (hb hby d27_7) rfl k_)
    refine Goes.on (T' := T1) (g' := (mkF m 11 #[.val (.ref m_), .val (.ref q), .val .null] [.null])) ?_ (fun t_ k_ => XS.aconstNull X1.here hx rfl (hb hby d27_10) k_)
    refine Goes.on (T' := T1) (g' := (mkF m 18 #[.val (.ref m_), .val (.ref q), .val .null] [.null])) ?_ (fun t_ k_ => XS.goto X1.here hx rfl (pc0 := 11) (pc' := 18) rfl (hb hby d27_11) (by decide) (by decide) k_)
    rw [hWd]
    exact Goes.retn X1 (v := some .null) (fun fs hr => retA X1 hx Bd.returns rfl rfl (hb hby d27_18) hr) (fun h => by rw [Bd.returns] at h; cases h) Bd.notSynchronized (by decide) (by decide) ⟨by rw [if_neg hqk], N1, KX, A2, AK2, SQ⟩
def QR0 (Z : State) (x mr : Addr) (av : Value) (m_ q : Addr) (h0 : Heap) (n0 : Nat) (v : Option Value) (h : Heap) (L : List Loc) : Prop := v = some av ∧ Fr n0 L ∧ h = h0
set_option maxRecDepth 65536 in
set_option maxHeartbeats 40000000 in
theorem rmR0 (l : Launch) (Z : State) (a0 : Array Value) (hw : ∀ d ∈ tables_1, d.before a0 Z = true) (ws : List Jvm.Cond) (x mr : Addr) (av : Value) (m_ q : Addr) (h0 : Heap) (n0 : Nat) (Z0 : n0 ≤ h0.size) (FR : Fld Z h0 x "com/example/entitlement/entitlement/ObjectType" "relations" "Ljava/util/Map;" (.ref mr)) (FP : Fld Z h0 x "com/example/entitlement/entitlement/ObjectType" "permissions" "Ljava/util/Map;" (.ref m_)) (FA : Fld Z h0 x "com/example/entitlement/entitlement/ObjectType" "actionPermission" "Lcom/example/entitlement/entitlement/Expression;" av) (rA : av.isRef = true) (MR : Hm0 Z h0 mr) (A : Hm0 Z h0 m_) :
    MetFree l (⟨"com/example/entitlement/entitlement/ObjectType", "ruleFor", "(Ljava/lang/String;)Lcom/example/entitlement/entitlement/Expression;"⟩ : MethodName) (head1 (Jvm.Cond.code (⟨"com/example/entitlement/entitlement/ObjectType", "ruleFor", "(Ljava/lang/String;)Lcom/example/entitlement/entitlement/Expression;"⟩ : MethodName) prog_20_method_9_code 3 (some (.object "com/example/entitlement/entitlement/Expression")) :: ws) ({ frames := 2, cells := 0, slots := 0, locals := 33 } : Room)) (fun a_ U => a_ = #[(.ref x), (.ref q)] ∧ Z.Warmed39 U.vm ∧ U.heap = h0) (fun _ _ _ _ _ => True) (fun _ U o U' => ∃ v L, o = .returned v ∧ QR0 Z x mr av m_ q h0 n0 v U'.heap L ∧ FrameEnd U o U' L ({ frames := 2, cells := 0, slots := 0, locals := 33 } : Room).cells ({ frames := 2, cells := 0, slots := 0, locals := 33 } : Room).slots) := by
  refine MetFree.of_bodySF (plainFor_of_name pn_11) hisR ?_
  intro p e s m args below meth c s₁ Bd hml0 hP hK
  obtain ⟨rfl, hZ, hh⟩ := hP
  have hx := Bd.exec
  have hby := Bd.bytes
  have hml : c.maxLocals = 3 := hml0
  have hown : s.vm.findClass "com/example/entitlement/entitlement/ObjectType" = some m.cls := findClass_of_methodNamed Bd.named
  have hnm := (name_of_methodNamed Bd.named Bd.method).1
  have X0 : Stand p l e ({ frames := 2, cells := 0, slots := 0, locals := 33 } : Room) s m #[(.ref x), (.ref q)] below meth c s₁ [] 0 0 := Stand.of_body Bd
  have e0 : s₁.heap = h0 := by rw [← hh, Bd.state]; rfl
  have N0 := Fr.nil n0
  refine Goes.done ?_
  obtain ⟨W, hWd⟩ : ∃ W : State → Prop, W = EndW s below (QR0 Z x mr av m_ q h0 n0) ({ frames := 2, cells := 0, slots := 0, locals := 33 } : Room).cells ({ frames := 2, cells := 0, slots := 0, locals := 33 } : Room).slots := ⟨_, rfl⟩
  rw [← hWd]
  have hef : entryFrame m #[(.ref x), (.ref q)] 3 = (mkF m 0 #[.val (.ref x), .val (.ref q), .unset] []) := by first | (simp [entryFrame, mkF, argsToLocals, Value.category]; done) | rfl
  rw [hef]
  refine Goes.on (T' := s₁) (g' := (mkF m 1 #[.val (.ref x), .val (.ref q), .unset] [(.ref x)])) ?_ (fun t_ k_ => XS.aloadN X0.here hx rfl (hb hby d26_0) rfl rfl k_)
  obtain ⟨T1, X1, e1, st1⟩ := getF X0 hx hZ hown (host := "") (Or.inl (hw _ (List.mem_of_getElem? (i := 138) rfl))) Via.refl e0 FP (g := (mkF m 1 #[.val (.ref x), .val (.ref q), .unset] [(.ref x)])) rfl rfl (hb hby d26_1)
  refine Goes.on (T' := T1) (g' := (mkF m 4 #[.val (.ref x), .val (.ref q), .unset] [(.ref m_)])) ?_ st1
  refine Goes.on (T' := T1) (g' := (mkF m 5 #[.val (.ref x), .val (.ref q), .unset] [(.ref q), (.ref m_)])) ?_ (fun t_ k_ => XS.aloadN X1.here hx rfl (hb hby d26_4) rfl rfl k_)
  obtain ⟨cq2, kq2, q2a, q2b, q2c⟩ := isOf hZ e1 A.E
  obtain ⟨_, _, ⟨T2, Lq_2, kq_2, nq_2⟩, -, X2, ⟨Lc2, hQ2, l2, y2, z2⟩, st2⟩ := X1.interfaceBack hx (xi := (⟨"java/util/Map", "get", "(Ljava/lang/Object;)Ljava/lang/Object;"⟩ : MethodName)) (y := (⟨"java/util/HashMap", "get", "(Ljava/lang/Object;)Ljava/lang/Object;"⟩ : MethodName)) hown (mvT hZ (hw _ (List.mem_of_getElem? (i := 186) rfl))) (mvT hZ (hw _ (List.mem_of_getElem? (i := 187) rfl))) (mvT hZ (hw _ (List.mem_of_getElem? (i := 188) rfl))) (mvT hZ (hw _ (List.mem_of_getElem? (i := 189) rfl))) (mvT hZ (hw _ (List.mem_of_getElem? (i := 190) rfl))) (mvT hZ (hw _ (List.mem_of_getElem? (i := 191) rfl))) (mvT hZ (hw _ (List.mem_of_getElem? (i := 192) rfl))) (mvT hZ (hw _ (List.mem_of_getElem? (i := 193) rfl))) (by decide) (backOf (W := 0) (rmT0 l Z a0 hw [] m_ q h0 n0 Z0 A) hZ (hw _ (List.mem_of_getElem? (i := 194) rfl)) (hw _ (List.mem_of_getElem? (i := 122) rfl)) (by decide) (by decide)) q2a q2b q2c (g := (mkF m 5 #[.val (.ref x), .val (.ref q), .unset] [(.ref q), (.ref m_)])) rfl (by rw [hml]; rfl) (Steps.refl _) (argsL := [(.ref q)]) (rest := []) (lenOf pd_22 rfl) rfl (by show 2 * 0 + _ ≤ _; exact Nat.le_of_eq rfl) (hb hby d26_5) (fun _ _ => ⟨rfl, e1, (by decide : 0 + 0 ≤ _), (by decide : 0 + 0 ≤ _)⟩)
  dsimp only [Pt.U, Pt.locs, Pt.cells, Pt.slots] at X2 l2 y2 z2 st2 hQ2
  rw [l2, y2, z2] at X2
  change Stand p l e _ _ m _ below meth c T2 _ 0 0 at X2
  obtain ⟨rfl, N2q, eh2⟩ := hQ2
  have N2 := Fr.app N0 N2q
  refine Goes.on (T' := T2) (g' := (mkF m 10 #[.val (.ref x), .val (.ref q), .unset] [.null])) ?_ (fun t => st2.trans)
  refine Goes.on (T' := T2) (g' := (mkF m 13 #[.val (.ref x), .val (.ref q), .unset] [.null])) ?_ (X2.checkcastNull hx (g := (mkF m 10 #[.val (.ref x), .val (.ref q), .unset] [.null])) rfl rfl (hb hby d26_10))
  refine Goes.on (T' := T2) (g' := (mkF m 14 #[.val (.ref x), .val (.ref q), .val .null] [])) ?_ (fun t_ k_ => XS.astoreN X2.here hx rfl (hb hby d26_13) rfl rfl (l' := #[.val (.ref x), .val (.ref q), .val .null]) rfl k_)
  refine Goes.on (T' := T2) (g' := (mkF m 15 #[.val (.ref x), .val (.ref q), .val .null] [.null])) ?_ (fun t_ k_ => XS.aloadN X2.here hx rfl (hb hby d26_14) rfl rfl k_)
  refine Goes.on (T' := T2) (g' := (mkF m 18 #[.val (.ref x), .val (.ref q), .val .null] [])) ?_ (fun t_ k_ => XS.ifnonnullNo X2.here hx rfl (hb hby d26_15) rfl k_)
  refine Goes.on (T' := T2) (g' := (mkF m 19 #[.val (.ref x), .val (.ref q), .val .null] [(.ref x)])) ?_ (fun t_ k_ => XS.aloadN X2.here hx rfl (hb hby d26_18) rfl rfl k_)
  obtain ⟨T3, X3, e3, st3⟩ := getF X2 hx hZ hown (host := "") (Or.inl (hw _ (List.mem_of_getElem? (i := 136) rfl))) Via.refl eh2 FR (g := (mkF m 19 #[.val (.ref x), .val (.ref q), .val .null] [(.ref x)])) rfl rfl (hb hby d26_19)
  refine Goes.on (T' := T3) (g' := (mkF m 22 #[.val (.ref x), .val (.ref q), .val .null] [(.ref mr)])) ?_ st3
  refine Goes.on (T' := T3) (g' := (mkF m 23 #[.val (.ref x), .val (.ref q), .val .null] [(.ref q), (.ref mr)])) ?_ (fun t_ k_ => XS.aloadN X3.here hx rfl (hb hby d26_22) rfl rfl k_)
  obtain ⟨cq4, kq4, q4a, q4b, q4c⟩ := isOf hZ e3 MR.E
  obtain ⟨_, _, ⟨T4, Lq_4, kq_4, nq_4⟩, -, X4, ⟨Lc4, hQ4, l4, y4, z4⟩, st4⟩ := X3.interfaceBack hx (xi := (⟨"java/util/Map", "containsKey", "(Ljava/lang/Object;)Z"⟩ : MethodName)) (y := (⟨"java/util/HashMap", "containsKey", "(Ljava/lang/Object;)Z"⟩ : MethodName)) hown (mvT hZ (hw _ (List.mem_of_getElem? (i := 202) rfl))) (mvT hZ (hw _ (List.mem_of_getElem? (i := 203) rfl))) (mvT hZ (hw _ (List.mem_of_getElem? (i := 204) rfl))) (mvT hZ (hw _ (List.mem_of_getElem? (i := 205) rfl))) (mvT hZ (hw _ (List.mem_of_getElem? (i := 206) rfl))) (mvT hZ (hw _ (List.mem_of_getElem? (i := 207) rfl))) (mvT hZ (hw _ (List.mem_of_getElem? (i := 208) rfl))) (mvT hZ (hw _ (List.mem_of_getElem? (i := 193) rfl))) (by decide) (backOf (W := 0) (rmC0 l Z a0 hw [] mr q h0 n0 Z0 MR) hZ (hw _ (List.mem_of_getElem? (i := 209) rfl)) (hw _ (List.mem_of_getElem? (i := 122) rfl)) (by decide) (by decide)) q4a q4b q4c (g := (mkF m 23 #[.val (.ref x), .val (.ref q), .val .null] [(.ref q), (.ref mr)])) rfl (by rw [hml]; rfl) (Steps.refl _) (argsL := [(.ref q)]) (rest := []) (lenOf pd_20 rfl) rfl (by show 2 * 0 + _ ≤ _; exact Nat.le_of_eq rfl) (hb hby d26_23) (fun _ _ => ⟨rfl, e3, (by decide : 0 + 0 ≤ _), (by decide : 0 + 0 ≤ _)⟩)
  dsimp only [Pt.U, Pt.locs, Pt.cells, Pt.slots] at X4 l4 y4 z4 st4 hQ4
  rw [l4, y4, z4] at X4
  change Stand p l e _ _ m _ below meth c T4 _ 0 0 at X4
  obtain ⟨rfl, N4q, eh4⟩ := hQ4
  have N4 := Fr.app N2 N4q
  refine Goes.on (T' := T4) (g' := (mkF m 28 #[.val (.ref x), .val (.ref q), .val .null] [(.int (0 : Int32))])) ?_ (fun t => st4.trans)
  refine Goes.on (T' := T4) (g' := (mkF m 31 #[.val (.ref x), .val (.ref q), .val .null] [])) ?_ (fun t_ k_ => XS.ifNo X4.here hx rfl (hb hby d26_28) rfl (by decide) k_)
  refine Goes.on (T' := T4) (g' := (mkF m 32 #[.val (.ref x), .val (.ref q), .val .null] [(.ref x)])) ?_ (fun t_ k_ => XS.aloadN X4.here hx rfl (hb hby d26_31) rfl rfl k_)
  obtain ⟨T5, X5, e5, st5⟩ := getF X4 hx hZ hown (host := "") (Or.inl (hw _ (List.mem_of_getElem? (i := 179) rfl))) Via.refl eh4 FA (g := (mkF m 32 #[.val (.ref x), .val (.ref q), .val .null] [(.ref x)])) rfl rfl (hb hby d26_32)
  refine Goes.on (T' := T5) (g' := (mkF m 35 #[.val (.ref x), .val (.ref q), .val .null] [av])) ?_ st5
  refine Goes.on (T' := T5) (g' := (mkF m 36 #[.val (.ref x), .val (.ref q), .val av] [])) ?_ (fun t_ k_ => XS.astoreN X5.here hx rfl (hb hby d26_35) rfl rA (l' := #[.val (.ref x), .val (.ref q), .val av]) (by rcases ref_cases rA with hq | ⟨q_, hq⟩ <;> (rw [hq]; rfl)) k_)
  refine Goes.on (T' := T5) (g' := (mkF m 37 #[.val (.ref x), .val (.ref q), .val av] [av])) ?_ (fun t_ k_ => XS.aloadN X5.here hx rfl (hb hby d26_36) rfl rA k_)
  rw [hWd]
  exact Goes.retn X5 (v := some av) (fun fs hr => retA X5 hx Bd.returns rfl rA (hb hby d26_37) hr) (fun h => by rw [Bd.returns] at h; cases h) Bd.notSynchronized (by decide) (by decide) (by rw [e5]; exact ⟨rfl, N4, rfl⟩)
def QR1 (Z : State) (x mr : Addr) (av : Value) (m_ b nd u : Addr) (kb : ClassId) (k tk : Addr) (kk : ClassId) (ck : Int32) (q tq : Addr) (kq : ClassId) (cq : Int32) (zc : Int32) (h0 : Heap) (n0 : Nat) (v : Option Value) (h : Heap) (L : List Loc) : Prop := v = some (if cq = ck then Value.ref u else av) ∧ Fr n0 L
set_option maxRecDepth 65536 in
set_option maxHeartbeats 40000000 in
theorem rmR1 (l : Launch) (Z : State) (a0 : Array Value) (hw : ∀ d ∈ tables_1, d.before a0 Z = true) (ws : List Jvm.Cond) (x mr : Addr) (av : Value) (m_ b nd u : Addr) (kb : ClassId) (k tk : Addr) (kk : ClassId) (ck : Int32) (q tq : Addr) (kq : ClassId) (cq : Int32) (zc : Int32) (h0 : Heap) (n0 : Nat) (Z0 : n0 ≤ h0.size) (FR : Fld Z h0 x "com/example/entitlement/entitlement/ObjectType" "relations" "Ljava/util/Map;" (.ref mr)) (FP : Fld Z h0 x "com/example/entitlement/entitlement/ObjectType" "permissions" "Ljava/util/Map;" (.ref m_)) (FA : Fld Z h0 x "com/example/entitlement/entitlement/ObjectType" "actionPermission" "Lcom/example/entitlement/entitlement/Expression;" av) (rA : av.isRef = true) (MR : Hm0 Z h0 mr) (A : Hm1 Z h0 m_ b nd kb (own_hh ck) k u) (AK : S1 Z h0 k tk kk ck) (hka : ¬ ck < 0) (hkb : ¬ (255 : Int32) < ck) (hkq : k ≠ q) (AQ : S1 Z h0 q tq kq cq) (gq : n0 ≤ q) (hqa : ¬ cq < 0) (hqb : ¬ (255 : Int32) < cq) (CS : Sta Z Z.heap "java/lang/String" "COMPACT_STRINGS" "Z" (.int zc)) (hzc : ¬ zc = (0 : Int32)) (X0_ : Old Z n0 h0) (EU : Exa Z h0 u "com/example/entitlement/entitlement/Expression") (EX : Exa Z h0 x "com/example/entitlement/entitlement/ObjectType") :
    MetFree l (⟨"com/example/entitlement/entitlement/ObjectType", "ruleFor", "(Ljava/lang/String;)Lcom/example/entitlement/entitlement/Expression;"⟩ : MethodName) (head1 (Jvm.Cond.code (⟨"com/example/entitlement/entitlement/ObjectType", "ruleFor", "(Ljava/lang/String;)Lcom/example/entitlement/entitlement/Expression;"⟩ : MethodName) prog_20_method_9_code 3 (some (.object "com/example/entitlement/entitlement/Expression")) :: ws) ({ frames := 5, cells := 0, slots := 0, locals := 73 } : Room)) (fun a_ U => a_ = #[(.ref x), (.ref q)] ∧ Z.Warmed39 U.vm ∧ U.heap = h0) (fun _ _ _ _ _ => True) (fun _ U o U' => ∃ v L, o = .returned v ∧ QR1 Z x mr av m_ b nd u kb k tk kk ck q tq kq cq zc h0 n0 v U'.heap L ∧ FrameEnd U o U' L ({ frames := 5, cells := 0, slots := 0, locals := 73 } : Room).cells ({ frames := 5, cells := 0, slots := 0, locals := 73 } : Room).slots) := by
  refine MetFree.of_bodySF (plainFor_of_name pn_11) hisR ?_
  intro p e s m args below meth c s₁ Bd hml0 hP hK
  obtain ⟨rfl, hZ, hh⟩ := hP
  have hx := Bd.exec
  have hby := Bd.bytes
  have hml : c.maxLocals = 3 := hml0
  have hown : s.vm.findClass "com/example/entitlement/entitlement/ObjectType" = some m.cls := findClass_of_methodNamed Bd.named
  have hnm := (name_of_methodNamed Bd.named Bd.method).1
  have X0 : Stand p l e ({ frames := 5, cells := 0, slots := 0, locals := 73 } : Room) s m #[(.ref x), (.ref q)] below meth c s₁ [] 0 0 := Stand.of_body Bd
  have e0 : s₁.heap = h0 := by rw [← hh, Bd.state]; rfl
  have N0 := Fr.nil n0
  refine Goes.done ?_
  obtain ⟨W, hWd⟩ : ∃ W : State → Prop, W = EndW s below (QR1 Z x mr av m_ b nd u kb k tk kk ck q tq kq cq zc h0 n0) ({ frames := 5, cells := 0, slots := 0, locals := 73 } : Room).cells ({ frames := 5, cells := 0, slots := 0, locals := 73 } : Room).slots := ⟨_, rfl⟩
  rw [← hWd]
  have hef : entryFrame m #[(.ref x), (.ref q)] 3 = (mkF m 0 #[.val (.ref x), .val (.ref q), .unset] []) := by first | (simp [entryFrame, mkF, argsToLocals, Value.category]; done) | rfl
  rw [hef]
  refine Goes.on (T' := s₁) (g' := (mkF m 1 #[.val (.ref x), .val (.ref q), .unset] [(.ref x)])) ?_ (fun t_ k_ => XS.aloadN X0.here hx rfl (hb hby d26_0) rfl rfl k_)
  obtain ⟨T1, X1, e1, st1⟩ := getF X0 hx hZ hown (host := "") (Or.inl (hw _ (List.mem_of_getElem? (i := 138) rfl))) Via.refl e0 FP (g := (mkF m 1 #[.val (.ref x), .val (.ref q), .unset] [(.ref x)])) rfl rfl (hb hby d26_1)
  refine Goes.on (T' := T1) (g' := (mkF m 4 #[.val (.ref x), .val (.ref q), .unset] [(.ref m_)])) ?_ st1
  refine Goes.on (T' := T1) (g' := (mkF m 5 #[.val (.ref x), .val (.ref q), .unset] [(.ref q), (.ref m_)])) ?_ (fun t_ k_ => XS.aloadN X1.here hx rfl (hb hby d26_4) rfl rfl k_)
  obtain ⟨cq2, kq2, q2a, q2b, q2c⟩ := isOf hZ e1 A.E
  obtain ⟨_, _, ⟨T2, Lq_2, kq_2, nq_2⟩, -, X2, ⟨Lc2, hQ2, l2, y2, z2⟩, st2⟩ := X1.interfaceBack hx (xi := (⟨"java/util/Map", "get", "(Ljava/lang/Object;)Ljava/lang/Object;"⟩ : MethodName)) (y := (⟨"java/util/HashMap", "get", "(Ljava/lang/Object;)Ljava/lang/Object;"⟩ : MethodName)) hown (mvT hZ (hw _ (List.mem_of_getElem? (i := 186) rfl))) (mvT hZ (hw _ (List.mem_of_getElem? (i := 187) rfl))) (mvT hZ (hw _ (List.mem_of_getElem? (i := 188) rfl))) (mvT hZ (hw _ (List.mem_of_getElem? (i := 189) rfl))) (mvT hZ (hw _ (List.mem_of_getElem? (i := 190) rfl))) (mvT hZ (hw _ (List.mem_of_getElem? (i := 191) rfl))) (mvT hZ (hw _ (List.mem_of_getElem? (i := 192) rfl))) (mvT hZ (hw _ (List.mem_of_getElem? (i := 193) rfl))) (by decide) (backOf (W := 0) (rmT1 l Z a0 hw [] m_ b nd u kb k tk kk ck q tq kq cq zc h0 n0 Z0 A AK hka hkb hkq AQ gq hqa hqb CS hzc X0_) hZ (hw _ (List.mem_of_getElem? (i := 194) rfl)) (hw _ (List.mem_of_getElem? (i := 122) rfl)) (by decide) (by decide)) q2a q2b q2c (g := (mkF m 5 #[.val (.ref x), .val (.ref q), .unset] [(.ref q), (.ref m_)])) rfl (by rw [hml]; rfl) (Steps.refl _) (argsL := [(.ref q)]) (rest := []) (lenOf pd_22 rfl) rfl (by show 2 * 0 + _ ≤ _; exact Nat.le_of_eq rfl) (hb hby d26_5) (fun _ _ => ⟨rfl, e1, (by decide : 0 + 0 ≤ _), (by decide : 0 + 0 ≤ _)⟩)
  dsimp only [Pt.U, Pt.locs, Pt.cells, Pt.slots] at X2 l2 y2 z2 st2 hQ2
  rw [l2, y2, z2] at X2
  change Stand p l e _ _ m _ below meth c T2 _ 0 0 at X2
  obtain ⟨rfl, N2q, KX, A2, AK2, SQ⟩ := hQ2
  have N2 := Fr.app N0 N2q
  refine Goes.on (T' := T2) (g' := (mkF m 10 #[.val (.ref x), .val (.ref q), .unset] [(if cq = ck then Value.ref u else Value.null)])) ?_ (fun t => st2.trans)
  have Zg : n0 ≤ T2.heap.size := Nat.le_trans Z0 KX.1
  have xq : x ≠ q := Exa.ne EX AQ.exa (by decide)
  have mq2 : mr ≠ q := Exa.ne MR.E AQ.exa (by decide)
  have FR2 := FR.keep KX (ninS xq nin0)
  have FA2 := FA.keep KX (ninS xq nin0)
  have MR2 := MR.keep KX (ninS mq2 nin0)
  have EU2 := EU.keep KX
  by_cases hqk : cq = ck
  · rw [if_pos hqk]
    obtain ⟨T3, X3, e3, st3⟩ := castY X2 hx hZ hown (hw _ (List.mem_of_getElem? (i := 308) rfl)) rfl (Ins.self EU2) (g := (mkF m 10 #[.val (.ref x), .val (.ref q), .unset] [(.ref u)])) rfl rfl (hb hby d26_10)
    refine Goes.on (T' := T3) (g' := (mkF m 13 #[.val (.ref x), .val (.ref q), .unset] [(.ref u)])) ?_ st3
    refine Goes.on (T' := T3) (g' := (mkF m 14 #[.val (.ref x), .val (.ref q), .val (.ref u)] [])) ?_ (fun t_ k_ => XS.astoreN X3.here hx rfl (hb hby d26_13) rfl rfl (l' := #[.val (.ref x), .val (.ref q), .val (.ref u)]) rfl k_)
    refine Goes.on (T' := T3) (g' := (mkF m 15 #[.val (.ref x), .val (.ref q), .val (.ref u)] [(.ref u)])) ?_ (fun t_ k_ => XS.aloadN X3.here hx rfl (hb hby d26_14) rfl rfl k_)
    refine Goes.on (T' := T3) (g' := (mkF m 36 #[.val (.ref x), .val (.ref q), .val (.ref u)] [])) ?_ (fun t_ k_ => XS.ifnonnullYes X3.here hx rfl (pc0 := 15) (pc' := 36) rfl (hb hby d26_15) rfl (by decide) (by decide) k_)
    refine Goes.on (T' := T3) (g' := (mkF m 37 #[.val (.ref x), .val (.ref q), .val (.ref u)] [(.ref u)])) ?_ (fun t_ k_ => XS.aloadN X3.here hx rfl (hb hby d26_36) rfl rfl k_)
    rw [hWd]
    exact Goes.retn X3 (v := some (.ref u)) (fun fs hr => retA X3 hx Bd.returns rfl rfl (hb hby d26_37) hr) (fun h => by rw [Bd.returns] at h; cases h) Bd.notSynchronized (by decide) (by decide) (by rw [e3]; exact ⟨by rw [if_pos hqk], N2⟩)
  · rw [if_neg hqk]
    refine Goes.on (T' := T2) (g' := (mkF m 13 #[.val (.ref x), .val (.ref q), .unset] [.null])) ?_ (X2.checkcastNull hx (g := (mkF m 10 #[.val (.ref x), .val (.ref q), .unset] [.null])) rfl rfl (hb hby d26_10))
    refine Goes.on (T' := T2) (g' := (mkF m 14 #[.val (.ref x), .val (.ref q), .val .null] [])) ?_ (fun t_ k_ => XS.astoreN X2.here hx rfl (hb hby d26_13) rfl rfl (l' := #[.val (.ref x), .val (.ref q), .val .null]) rfl k_)
    refine Goes.on (T' := T2) (g' := (mkF m 15 #[.val (.ref x), .val (.ref q), .val .null] [.null])) ?_ (fun t_ k_ => XS.aloadN X2.here hx rfl (hb hby d26_14) rfl rfl k_)
    refine Goes.on (T' := T2) (g' := (mkF m 18 #[.val (.ref x), .val (.ref q), .val .null] [])) ?_ (fun t_ k_ => XS.ifnonnullNo X2.here hx rfl (hb hby d26_15) rfl k_)
    refine Goes.on (T' := T2) (g' := (mkF m 19 #[.val (.ref x), .val (.ref q), .val .null] [(.ref x)])) ?_ (fun t_ k_ => XS.aloadN X2.here hx rfl (hb hby d26_18) rfl rfl k_)
    obtain ⟨T4, X4, e4, st4⟩ := getF X2 hx hZ hown (host := "") (Or.inl (hw _ (List.mem_of_getElem? (i := 136) rfl))) Via.refl rfl FR2 (g := (mkF m 19 #[.val (.ref x), .val (.ref q), .val .null] [(.ref x)])) rfl rfl (hb hby d26_19)
    refine Goes.on (T' := T4) (g' := (mkF m 22 #[.val (.ref x), .val (.ref q), .val .null] [(.ref mr)])) ?_ st4
    refine Goes.on (T' := T4) (g' := (mkF m 23 #[.val (.ref x), .val (.ref q), .val .null] [(.ref q), (.ref mr)])) ?_ (fun t_ k_ => XS.aloadN X4.here hx rfl (hb hby d26_22) rfl rfl k_)
    obtain ⟨cq5, kq5, q5a, q5b, q5c⟩ := isOf hZ e4 MR2.E
    obtain ⟨_, _, ⟨T5, Lq_5, kq_5, nq_5⟩, -, X5, ⟨Lc5, hQ5, l5, y5, z5⟩, st5⟩ := X4.interfaceBack hx (xi := (⟨"java/util/Map", "containsKey", "(Ljava/lang/Object;)Z"⟩ : MethodName)) (y := (⟨"java/util/HashMap", "containsKey", "(Ljava/lang/Object;)Z"⟩ : MethodName)) hown (mvT hZ (hw _ (List.mem_of_getElem? (i := 202) rfl))) (mvT hZ (hw _ (List.mem_of_getElem? (i := 203) rfl))) (mvT hZ (hw _ (List.mem_of_getElem? (i := 204) rfl))) (mvT hZ (hw _ (List.mem_of_getElem? (i := 205) rfl))) (mvT hZ (hw _ (List.mem_of_getElem? (i := 206) rfl))) (mvT hZ (hw _ (List.mem_of_getElem? (i := 207) rfl))) (mvT hZ (hw _ (List.mem_of_getElem? (i := 208) rfl))) (mvT hZ (hw _ (List.mem_of_getElem? (i := 193) rfl))) (by decide) (backOf (W := 0) (rmC0 l Z a0 hw [] mr q T2.heap n0 Zg MR2) hZ (hw _ (List.mem_of_getElem? (i := 209) rfl)) (hw _ (List.mem_of_getElem? (i := 122) rfl)) (by decide) (by decide)) q5a q5b q5c (g := (mkF m 23 #[.val (.ref x), .val (.ref q), .val .null] [(.ref q), (.ref mr)])) rfl (by rw [hml]; rfl) (Steps.refl _) (argsL := [(.ref q)]) (rest := []) (lenOf pd_20 rfl) rfl (by show 2 * 0 + _ ≤ _; exact Nat.le_of_eq rfl) (hb hby d26_23) (fun _ _ => ⟨rfl, e4, (by decide : 0 + 0 ≤ _), (by decide : 0 + 0 ≤ _)⟩)
    dsimp only [Pt.U, Pt.locs, Pt.cells, Pt.slots] at X5 l5 y5 z5 st5 hQ5
    rw [l5, y5, z5] at X5
    change Stand p l e _ _ m _ below meth c T5 _ 0 0 at X5
    obtain ⟨rfl, N5q, eh5⟩ := hQ5
    have N5 := Fr.app N2 N5q
    refine Goes.on (T' := T5) (g' := (mkF m 28 #[.val (.ref x), .val (.ref q), .val .null] [(.int (0 : Int32))])) ?_ (fun t => st5.trans)
    refine Goes.on (T' := T5) (g' := (mkF m 31 #[.val (.ref x), .val (.ref q), .val .null] [])) ?_ (fun t_ k_ => XS.ifNo X5.here hx rfl (hb hby d26_28) rfl (by decide) k_)
    refine Goes.on (T' := T5) (g' := (mkF m 32 #[.val (.ref x), .val (.ref q), .val .null] [(.ref x)])) ?_ (fun t_ k_ => XS.aloadN X5.here hx rfl (hb hby d26_31) rfl rfl k_)
    obtain ⟨T6, X6, e6, st6⟩ := getF X5 hx hZ hown (host := "") (Or.inl (hw _ (List.mem_of_getElem? (i := 179) rfl))) Via.refl eh5 FA2 (g := (mkF m 32 #[.val (.ref x), .val (.ref q), .val .null] [(.ref x)])) rfl rfl (hb hby d26_32)
    refine Goes.on (T' := T6) (g' := (mkF m 35 #[.val (.ref x), .val (.ref q), .val .null] [av])) ?_ st6
    refine Goes.on (T' := T6) (g' := (mkF m 36 #[.val (.ref x), .val (.ref q), .val av] [])) ?_ (fun t_ k_ => XS.astoreN X6.here hx rfl (hb hby d26_35) rfl rA (l' := #[.val (.ref x), .val (.ref q), .val av]) (by rcases ref_cases rA with hq | ⟨q_, hq⟩ <;> (rw [hq]; rfl)) k_)
    refine Goes.on (T' := T6) (g' := (mkF m 37 #[.val (.ref x), .val (.ref q), .val av] [av])) ?_ (fun t_ k_ => XS.aloadN X6.here hx rfl (hb hby d26_36) rfl rA k_)
    rw [hWd]
    exact Goes.retn X6 (v := some av) (fun fs hr => retA X6 hx Bd.returns rfl rA (hb hby d26_37) hr) (fun h => by rw [Bd.returns] at h; cases h) Bd.notSynchronized (by decide) (by decide) (by rw [e6]; exact ⟨by rw [if_neg hqk], N5⟩)
def Q0 (Z : State) (h0 : Heap) (n0 : Nat) (v : Option Value) (h : Heap) (L : List Loc) : Prop := v = some (.int (1 : Int32)) ∧ Fr n0 L
set_option maxRecDepth 65536 in
set_option maxHeartbeats 40000000 in
theorem rm0 (l : Launch) (Z : State) (a0 : Array Value) (hw : ∀ d ∈ tables_1, d.before a0 Z = true) (ws : List Jvm.Cond) (ya0 ya1 ya2 ya3 : Int32) (zc : Int32) (kl kt el : Addr) (h0 : Heap) (n0 : Nat) (Z0 : n0 ≤ h0.size) (CS : Sta Z Z.heap "java/lang/String" "COMPACT_STRINGS" "Z" (.int zc)) (hzc : ¬ zc = (0 : Int32)) (KL : Sta Z Z.heap "com/example/entitlement/entitlement/Term$Kind" "LOCAL" "Lcom/example/entitlement/entitlement/Term$Kind;" (.ref kl)) (KT : Sta Z Z.heap "com/example/entitlement/entitlement/Expression$Kind" "TERM" "Lcom/example/entitlement/entitlement/Expression$Kind;" (.ref kt)) (LS : Sta Z Z.heap "java/util/ImmutableCollections" "EMPTY_LIST" "Ljava/util/ImmutableCollections$ListN;" (.ref el))  (EE : Exa Z Z.heap el "java/util/ImmutableCollections$ListN") (EA : Fld Z Z.heap el "java/util/ImmutableCollections$ListN" "allowNulls" "Z" (.int (0 : Int32))) (X0_ : Old Z n0 h0) :
    MetFree l x (head1 (Jvm.Cond.code x code maxLocals ret :: ws) room_1) (fun a_ U => a_ = #[(.int ya0), (.int ya1), (.int ya2), (.int ya3)] ∧ Z.Warmed39 U.vm ∧ U.heap = h0) (fun _ _ _ _ _ => True) (fun _ U o U' => ∃ v L, o = .returned v ∧ Q0 Z h0 n0 v U'.heap L ∧ FrameEnd U o U' L room_1.cells room_1.slots) := by
  refine MetFree.of_bodySF (plainFor_of_name pn_13) hisR ?_
  intro p e s m args below meth c s₁ Bd hml0 hP hK
  obtain ⟨rfl, hZ, hh⟩ := hP
  have hx := Bd.exec
  have hby := Bd.bytes
  have hml : c.maxLocals = 18 := hml0
  have hown : s.vm.findClass "com/example/entitlement/entitlement/ObjectTypeHasActionPermissionPinLaw" = some m.cls := findClass_of_methodNamed Bd.named
  have hnm := (name_of_methodNamed Bd.named Bd.method).1
  have X0 : Stand p l e room_1 s m #[(.int ya0), (.int ya1), (.int ya2), (.int ya3)] below meth c s₁ [] 0 0 := Stand.of_body Bd
  have e0 : s₁.heap = h0 := by rw [← hh, Bd.state]; rfl
  have N0 := Fr.nil n0
  refine Goes.done ?_
  obtain ⟨W, hWd⟩ : ∃ W : State → Prop, W = EndW s below (Q0 Z h0 n0) room_1.cells room_1.slots := ⟨_, rfl⟩
  rw [← hWd]
  have hef : entryFrame m #[(.int ya0), (.int ya1), (.int ya2), (.int ya3)] maxLocals = (mkF m 0 #[.val (.int ya0), .val (.int ya1), .val (.int ya2), .val (.int ya3), .unset, .unset, .unset, .unset, .unset, .unset, .unset, .unset, .unset, .unset, .unset, .unset, .unset, .unset] []) := by first | (simp [entryFrame, mkF, argsToLocals, Value.category, maxLocals]; done) | rfl
  rw [hef]
  have hws : ∀ d ∈ StrChars.Road.words, d.before a0 Z = true := fun d hd => hw d ((by decide +kernel : ∀ d ∈ StrChars.Road.words, d ∈ tables_1) d hd)
  have J11 : ∀ sa : Int32, (sa = 0 ∨ sa = 1) → Goes p e below W s₁ (mkF m 11 #[.val (.int ya0), .val (.int ya1), .val (.int ya2), .val (.int ya3), .unset, .unset, .unset, .unset, .unset, .unset, .unset, .unset, .unset, .unset, .unset, .unset, .unset, .unset] [(.int sa)]) := by
    intro sa hsa
    refine Goes.on (T' := s₁) (g' := (mkF m 13 #[.val (.int ya0), .val (.int ya1), .val (.int ya2), .val (.int ya3), .val (.int sa), .unset, .unset, .unset, .unset, .unset, .unset, .unset, .unset, .unset, .unset, .unset, .unset, .unset] [])) ?_ (fun t_ k_ => XS.istore X0.here hx rfl (hb hby at_11) rfl (l' := #[.val (.int ya0), .val (.int ya1), .val (.int ya2), .val (.int ya3), .val (.int sa), .unset, .unset, .unset, .unset, .unset, .unset, .unset, .unset, .unset, .unset, .unset, .unset, .unset]) rfl k_)
    have J24 : ∀ ap : Int32, (ap = 0 ∨ ap = 1) → Goes p e below W s₁ (mkF m 24 #[.val (.int ya0), .val (.int ya1), .val (.int ya2), .val (.int ya3), .val (.int sa), .unset, .unset, .unset, .unset, .unset, .unset, .unset, .unset, .unset, .unset, .unset, .unset, .unset] [(.int ap)]) := by
      intro ap hap
      refine Goes.on (T' := s₁) (g' := (mkF m 26 #[.val (.int ya0), .val (.int ya1), .val (.int ya2), .val (.int ya3), .val (.int sa), .val (.int ap), .unset, .unset, .unset, .unset, .unset, .unset, .unset, .unset, .unset, .unset, .unset, .unset] [])) ?_ (fun t_ k_ => XS.istore X0.here hx rfl (hb hby at_24) rfl (l' := #[.val (.int ya0), .val (.int ya1), .val (.int ya2), .val (.int ya3), .val (.int sa), .val (.int ap), .unset, .unset, .unset, .unset, .unset, .unset, .unset, .unset, .unset, .unset, .unset, .unset]) rfl k_)
      refine Goes.on (T' := s₁) (g' := (mkF m 27 #[.val (.int ya0), .val (.int ya1), .val (.int ya2), .val (.int ya3), .val (.int sa), .val (.int ap), .unset, .unset, .unset, .unset, .unset, .unset, .unset, .unset, .unset, .unset, .unset, .unset] [(.int (1 : Int32))])) ?_ (fun t_ k_ => XS.iconst X0.here hx rfl (hb hby at_26) k_)
      obtain ⟨T1, h1, k1, X1, e1, E1, A1, st1⟩ := newP X0 hx hZ (hw _ (List.mem_of_getElem? (i := 0) rfl)) e0 (g := (mkF m 27 #[.val (.int ya0), .val (.int ya1), .val (.int ya2), .val (.int ya3), .val (.int sa), .val (.int ap), .unset, .unset, .unset, .unset, .unset, .unset, .unset, .unset, .unset, .unset, .unset, .unset] [(.int (1 : Int32))])) rfl (hb hby at_27) rfl (by decide) (cap := 1) (by decide) (by decide) (by decide) (by decide)
      obtain ⟨b1, gb1⟩ : ∃ z, z = h0.size := ⟨_, rfl⟩
      rw [← gb1] at A1 st1
      have V1 := Arv.new A1 (by decide)
      have Z1 : n0 ≤ h1.size := Nat.le_trans Z0 E1.1
      have g_b1 : n0 ≤ b1 := Nat.le_trans Z0 (Nat.le_of_eq gb1.symm)
      refine Goes.on (T' := T1) (g' := (mkF m 29 #[.val (.int ya0), .val (.int ya1), .val (.int ya2), .val (.int ya3), .val (.int sa), .val (.int ap), .unset, .unset, .unset, .unset, .unset, .unset, .unset, .unset, .unset, .unset, .unset, .unset] [(.ref b1)])) ?_ st1
      have ke1 : Keep _ _ [] := (Keep.refl _ []).ext E1
      have lf2_X := X0_.keep ke1 all0
      refine Goes.on (T' := T1) (g' := (mkF m 31 #[.val (.int ya0), .val (.int ya1), .val (.int ya2), .val (.int ya3), .val (.int sa), .val (.int ap), .val (.ref b1), .unset, .unset, .unset, .unset, .unset, .unset, .unset, .unset, .unset, .unset, .unset] [])) ?_ (fun t_ k_ => XS.astore X1.here hx rfl (hb hby at_29) rfl rfl (l' := #[.val (.int ya0), .val (.int ya1), .val (.int ya2), .val (.int ya3), .val (.int sa), .val (.int ap), .val (.ref b1), .unset, .unset, .unset, .unset, .unset, .unset, .unset, .unset, .unset, .unset, .unset]) rfl k_)
      refine Goes.on (T' := T1) (g' := (mkF m 33 #[.val (.int ya0), .val (.int ya1), .val (.int ya2), .val (.int ya3), .val (.int sa), .val (.int ap), .val (.ref b1), .unset, .unset, .unset, .unset, .unset, .unset, .unset, .unset, .unset, .unset, .unset] [(.ref b1)])) ?_ (fun t_ k_ => XS.aload X1.here hx rfl (hb hby at_31) rfl rfl k_)
      refine Goes.on (T' := T1) (g' := (mkF m 34 #[.val (.int ya0), .val (.int ya1), .val (.int ya2), .val (.int ya3), .val (.int sa), .val (.int ap), .val (.ref b1), .unset, .unset, .unset, .unset, .unset, .unset, .unset, .unset, .unset, .unset, .unset] [(.int (0 : Int32)), (.ref b1)])) ?_ (fun t_ k_ => XS.iconst X1.here hx rfl (hb hby at_33) k_)
      refine Goes.on (T' := T1) (g' := (mkF m 35 #[.val (.int ya0), .val (.int ya1), .val (.int ya2), .val (.int ya3), .val (.int sa), .val (.int ap), .val (.ref b1), .unset, .unset, .unset, .unset, .unset, .unset, .unset, .unset, .unset, .unset, .unset] [(.int ya1), (.int (0 : Int32)), (.ref b1)])) ?_ (fun t_ k_ => XS.iloadN X1.here hx rfl (hb hby at_34) rfl k_)
      refine Goes.on (T' := T1) (g' := (mkF m 38 #[.val (.int ya0), .val (.int ya1), .val (.int ya2), .val (.int ya3), .val (.int sa), .val (.int ap), .val (.ref b1), .unset, .unset, .unset, .unset, .unset, .unset, .unset, .unset, .unset, .unset, .unset] [(.int (255 : Int32)), (.int ya1), (.int (0 : Int32)), (.ref b1)])) ?_ (fun t_ k_ => XS.sipush X1.here hx rfl (hb hby at_35) k_)
      refine Goes.on (T' := T1) (g' := (mkF m 39 #[.val (.int ya0), .val (.int ya1), .val (.int ya2), .val (.int ya3), .val (.int sa), .val (.int ap), .val (.ref b1), .unset, .unset, .unset, .unset, .unset, .unset, .unset, .unset, .unset, .unset, .unset] [(.int (ya1 &&& (255 : Int32))), (.int (0 : Int32)), (.ref b1)])) ?_ (fun t_ k_ => XS.iand X1.here hx rfl (hb hby at_38) rfl k_)
      refine Goes.on (T' := T1) (g' := (mkF m 40 #[.val (.int ya0), .val (.int ya1), .val (.int ya2), .val (.int ya3), .val (.int sa), .val (.int ap), .val (.ref b1), .unset, .unset, .unset, .unset, .unset, .unset, .unset, .unset, .unset, .unset, .unset] [(.int ((ya1 &&& (255 : Int32)).toUInt32.toUInt16.toUInt32.toInt32)), (.int (0 : Int32)), (.ref b1)])) ?_ (fun t_ k_ => XS.i2c X1.here hx rfl (hb hby at_39) rfl k_)
      obtain ⟨c0, ec0, c0a, c0b⟩ := own_c255 ya1
      rw [ec0]
      have VV0 : Arv Z h1 b1 k1 .char (1 : Int32) [.int 0] (.int 0) := V1.pad (pad_rep [] (.int 0) 1)
      obtain ⟨cc, AA, qA, SA, MA, HA, GA⟩ := id VV0
      obtain ⟨T3, h3, X3, e3, W3, st3⟩ := stC X1 hx hZ e1 AA (j := (0 : Int32)) (inb_of SA ⟨by decide, by decide⟩) (g := (mkF m 40 #[.val (.int ya0), .val (.int ya1), .val (.int ya2), .val (.int ya3), .val (.int sa), .val (.int ap), .val (.ref b1), .unset, .unset, .unset, .unset, .unset, .unset, .unset, .unset, .unset, .unset, .unset] [(.int c0), (.int (0 : Int32)), (.ref b1)])) rfl rfl (hb hby at_40)
      have N3 := Fr.snoc X3 N0 g_b1
      have Z3 : n0 ≤ h3.size := Nat.le_trans Z1 (Nat.le_of_eq W3.size.symm)
      refine Goes.on (T' := T3) (g' := (mkF m 41 #[.val (.int ya0), .val (.int ya1), .val (.int ya2), .val (.int ya3), .val (.int sa), .val (.int ap), .val (.ref b1), .unset, .unset, .unset, .unset, .unset, .unset, .unset, .unset, .unset, .unset, .unset] [])) ?_ st3
      have kw3 : Keep _ _ [b1] := (Keep.refl _ [b1]).wr W3 (Or.inl (List.mem_cons_self ..))
      have lf4_X := lf2_X.keep kw3 (allS g_b1 all0)
      have VV1 : Arv Z h3 b1 k1 .char (1 : Int32) [.int c0] (.int 0) := by have q := Arv.set AA qA SA MA HA GA (fits_nar_char _) W3 0 rfl (Nat.le_of_ble_eq_true rfl); rw [own_narc ⟨c0a, own_255le c0b⟩] at q; exact q
      obtain ⟨T5, h5, X5, e5, E5, A5, D5, -, st5⟩ := newO X3 hx hZ hown (hw _ (List.mem_of_getElem? (i := 1) rfl)) (hw _ (List.mem_of_getElem? (i := 2) rfl)) (hw _ (List.mem_of_getElem? (i := 3) rfl)) e3 (g := (mkF m 41 #[.val (.int ya0), .val (.int ya1), .val (.int ya2), .val (.int ya3), .val (.int sa), .val (.int ap), .val (.ref b1), .unset, .unset, .unset, .unset, .unset, .unset, .unset, .unset, .unset, .unset, .unset] [])) rfl (hb hby at_41) (by decide) (by decide)
      obtain ⟨b5, gb5⟩ : ∃ z, z = h3.size := ⟨_, rfl⟩
      rw [← gb5] at A5 D5 st5
      have Z5 : n0 ≤ h5.size := Nat.le_trans Z3 E5.1
      have g_b5 : n0 ≤ b5 := Nat.le_trans Z3 (Nat.le_of_eq gb5.symm)
      refine Goes.on (T' := T5) (g' := (mkF m 44 #[.val (.int ya0), .val (.int ya1), .val (.int ya2), .val (.int ya3), .val (.int sa), .val (.int ap), .val (.ref b1), .unset, .unset, .unset, .unset, .unset, .unset, .unset, .unset, .unset, .unset, .unset] [(.ref b5)])) ?_ st5
      have F5_value : Fld Z h5 b5 "java/lang/String" "value" "[B" .null := D5 (Or.inr (hw _ (List.mem_of_getElem? (i := 29) rfl))) (ty := (.array .byte)) (by decide)
      have F5_coder : Fld Z h5 b5 "java/lang/String" "coder" "B" (.int (0 : Int32)) := D5 (Or.inr (hw _ (List.mem_of_getElem? (i := 27) rfl))) (ty := .byte) (by decide)
      have ke5 : Keep _ _ [] := (Keep.refl _ []).ext E5
      have lf6_X := lf4_X.keep ke5 all0
      have lf6_VC := VV1.keep ke5 nin0
      refine Goes.on (T' := T5) (g' := (mkF m 45 #[.val (.int ya0), .val (.int ya1), .val (.int ya2), .val (.int ya3), .val (.int sa), .val (.int ap), .val (.ref b1), .unset, .unset, .unset, .unset, .unset, .unset, .unset, .unset, .unset, .unset, .unset] [(.ref b5), (.ref b5)])) ?_ (fun t_ k_ => XS.dup X5.here hx rfl (hb hby at_44) rfl rfl k_)
      refine Goes.on (T' := T5) (g' := (mkF m 47 #[.val (.int ya0), .val (.int ya1), .val (.int ya2), .val (.int ya3), .val (.int sa), .val (.int ap), .val (.ref b1), .unset, .unset, .unset, .unset, .unset, .unset, .unset, .unset, .unset, .unset, .unset] [(.ref b1), (.ref b5), (.ref b5)])) ?_ (fun t_ k_ => XS.aload X5.here hx rfl (hb hby at_45) rfl rfl k_)
      have hp0 : ∀ c ∈ ([c0] : List Int32), ¬ c < 0 ∧ ¬ (255 : Int32) < c := by intro c hc; simp only [List.mem_cons, List.not_mem_nil, or_false] at hc; rw [hc]; exact ⟨c0a, c0b⟩
      obtain ⟨_, _, ⟨T7, Lq_7, kq_7, nq_7⟩, -, X7, ⟨Lc7, hQ7, l7, y7, z7⟩, st7⟩ := X5.specialBack hx (y := (⟨"java/lang/String", "<init>", "([C)V"⟩ : MethodName)) rfl hown (mvT hZ (hw _ (List.mem_of_getElem? (i := 4) rfl))) (mvT hZ (hw _ (List.mem_of_getElem? (i := 5) rfl))) (mvT hZ (hw _ (List.mem_of_getElem? (i := 6) rfl))) (by decide) (StrChars.Road.backV (W := 1) hZ hws (kI := 4) (hw _ (List.mem_of_getElem? (i := 2) rfl)) (cs := [c0]) (bs := ([c0] : List Int32).map (fun c => c.toInt8.toInt32)) (n := 1) g_b5 Z5 A5 F5_value F5_coder lf6_VC (CS.ext lf6_X.2) hzc rfl rfl (by decide) (by decide) hp0 rfl (by decide) (by decide)) (g := (mkF m 47 #[.val (.int ya0), .val (.int ya1), .val (.int ya2), .val (.int ya3), .val (.int sa), .val (.int ap), .val (.ref b1), .unset, .unset, .unset, .unset, .unset, .unset, .unset, .unset, .unset, .unset, .unset] [(.ref b1), (.ref b5), (.ref b5)])) rfl (by rw [hml]; rfl) (Steps.refl _) (a := b5) (argsL := [(.ref b1)]) (rest := [(.ref b5)]) (lenOf pd_23 rfl) rfl (by show 2 * 0 + _ ≤ _; exact Nat.le_of_eq rfl) (hb hby at_47) (fun _ _ => ⟨rfl, e5, (by decide : 2 + 1 ≤ _), (by decide : 5 + 1 ≤ _)⟩)
      dsimp only [Pt.U, Pt.locs, Pt.cells, Pt.slots] at X7 l7 y7 z7 st7 hQ7
      rw [l7, y7, z7] at X7
      change Stand p l e _ _ m _ below meth c T7 _ 3 6 at X7
      obtain ⟨rfl, N7q, K7, -, -, -⟩ := hQ7
      have N7 := Fr.app N3 N7q
      refine Goes.on (T' := T7) (g' := (mkF m 50 #[.val (.int ya0), .val (.int ya1), .val (.int ya2), .val (.int ya3), .val (.int sa), .val (.int ap), .val (.ref b1), .unset, .unset, .unset, .unset, .unset, .unset, .unset, .unset, .unset, .unset, .unset] [(.ref b5)])) ?_ (fun t => st7.trans)
      have Zs : n0 ≤ T7.heap.size := Nat.le_trans Z5 K7.1
      have lf8_X := lf6_X.keep K7 (allS g_b5 all0)
      refine Goes.on (T' := T7) (g' := (mkF m 52 #[.val (.int ya0), .val (.int ya1), .val (.int ya2), .val (.int ya3), .val (.int sa), .val (.int ap), .val (.ref b1), .val (.ref b5), .unset, .unset, .unset, .unset, .unset, .unset, .unset, .unset, .unset, .unset] [])) ?_ (fun t_ k_ => XS.astore X7.here hx rfl (hb hby at_50) rfl rfl (l' := #[.val (.int ya0), .val (.int ya1), .val (.int ya2), .val (.int ya3), .val (.int sa), .val (.int ap), .val (.ref b1), .val (.ref b5), .unset, .unset, .unset, .unset, .unset, .unset, .unset, .unset, .unset, .unset]) rfl k_)
      refine Goes.on (T' := T7) (g' := (mkF m 53 #[.val (.int ya0), .val (.int ya1), .val (.int ya2), .val (.int ya3), .val (.int sa), .val (.int ap), .val (.ref b1), .val (.ref b5), .unset, .unset, .unset, .unset, .unset, .unset, .unset, .unset, .unset, .unset] [(.int ya2)])) ?_ (fun t_ k_ => XS.iloadN X7.here hx rfl (hb hby at_52) rfl k_)
      refine Goes.on (T' := T7) (g' := (mkF m 56 #[.val (.int ya0), .val (.int ya1), .val (.int ya2), .val (.int ya3), .val (.int sa), .val (.int ap), .val (.ref b1), .val (.ref b5), .unset, .unset, .unset, .unset, .unset, .unset, .unset, .unset, .unset, .unset] [(.int (255 : Int32)), (.int ya2)])) ?_ (fun t_ k_ => XS.sipush X7.here hx rfl (hb hby at_53) k_)
      refine Goes.on (T' := T7) (g' := (mkF m 57 #[.val (.int ya0), .val (.int ya1), .val (.int ya2), .val (.int ya3), .val (.int sa), .val (.int ap), .val (.ref b1), .val (.ref b5), .unset, .unset, .unset, .unset, .unset, .unset, .unset, .unset, .unset, .unset] [(.int (ya2 &&& (255 : Int32)))])) ?_ (fun t_ k_ => XS.iand X7.here hx rfl (hb hby at_56) rfl k_)
      refine Goes.on (T' := T7) (g' := (mkF m 58 #[.val (.int ya0), .val (.int ya1), .val (.int ya2), .val (.int ya3), .val (.int sa), .val (.int ap), .val (.ref b1), .val (.ref b5), .unset, .unset, .unset, .unset, .unset, .unset, .unset, .unset, .unset, .unset] [(.int ((ya2 &&& (255 : Int32)).toUInt32.toUInt16.toUInt32.toInt32))])) ?_ (fun t_ k_ => XS.i2c X7.here hx rfl (hb hby at_57) rfl k_)
      obtain ⟨c1, ec1, c1a, c1b⟩ := own_c255 ya2
      rw [ec1]
      obtain ⟨_, _, ⟨T9, Lq_9, kq_9, nq_9⟩, -, X9, ⟨Lc9, hQ9, l9, y9, z9⟩, st9⟩ := Jvm.LawKit.callS X7 hx (y := (⟨"java/lang/String", "valueOf", "(C)Ljava/lang/String;"⟩ : MethodName)) hown (mvT hZ (hw _ (List.mem_of_getElem? (i := 30) rfl))) (mvT hZ (hw _ (List.mem_of_getElem? (i := 31) rfl))) (mvT hZ (hw _ (List.mem_of_getElem? (i := 3) rfl))) (mvT hZ (hw _ (List.mem_of_getElem? (i := 32) rfl))) (by decide) (backOf (W := 0) (rmVO l Z a0 hw [] c1 zc T7.heap n0 Zs c1a c1b CS hzc lf8_X) hZ (hw _ (List.mem_of_getElem? (i := 32) rfl)) (hw _ (List.mem_of_getElem? (i := 3) rfl)) (by decide) (by decide)) (g := (mkF m 58 #[.val (.int ya0), .val (.int ya1), .val (.int ya2), .val (.int ya3), .val (.int sa), .val (.int ap), .val (.ref b1), .val (.ref b5), .unset, .unset, .unset, .unset, .unset, .unset, .unset, .unset, .unset, .unset] [(.int c1)])) rfl (by rw [hml]; rfl) (argsL := [(.int c1)]) (rest := []) (lenOf pd_24 rfl) rfl (by show 2 * 0 + _ ≤ _; exact Nat.le_of_eq rfl) (hb hby at_58) (fun _ _ => ⟨rfl, rfl, (by decide : 3 + 2 ≤ _), (by decide : 6 + 5 ≤ _)⟩)
      dsimp only [Pt.U, Pt.locs, Pt.cells, Pt.slots] at X9 l9 y9 z9 st9 hQ9
      rw [l9, y9, z9] at X9
      change Stand p l e _ _ m _ below meth c T9 _ 5 11 at X9
      obtain ⟨pn, tp, kp, rfl, N9q, K9, szx9, szt9, S_pn⟩ := hQ9
      have N9 := Fr.app N7 N9q
      refine Goes.on (T' := T9) (g' := (mkF m 61 #[.val (.int ya0), .val (.int ya1), .val (.int ya2), .val (.int ya3), .val (.int sa), .val (.int ap), .val (.ref b1), .val (.ref b5), .unset, .unset, .unset, .unset, .unset, .unset, .unset, .unset, .unset, .unset] [(.ref pn)])) ?_ st9
      have Zv9 : n0 ≤ T9.heap.size := Nat.le_trans Zs K9.1
      have g_pn : n0 ≤ pn := Nat.le_trans Zs szx9
      have lf10_X := lf8_X.keep K9 all0
      refine Goes.on (T' := T9) (g' := (mkF m 63 #[.val (.int ya0), .val (.int ya1), .val (.int ya2), .val (.int ya3), .val (.int sa), .val (.int ap), .val (.ref b1), .val (.ref b5), .val (.ref pn), .unset, .unset, .unset, .unset, .unset, .unset, .unset, .unset, .unset] [])) ?_ (fun t_ k_ => XS.astore X9.here hx rfl (hb hby at_61) rfl rfl (l' := #[.val (.int ya0), .val (.int ya1), .val (.int ya2), .val (.int ya3), .val (.int sa), .val (.int ap), .val (.ref b1), .val (.ref b5), .val (.ref pn), .unset, .unset, .unset, .unset, .unset, .unset, .unset, .unset, .unset]) rfl k_)
      refine Goes.on (T' := T9) (g' := (mkF m 64 #[.val (.int ya0), .val (.int ya1), .val (.int ya2), .val (.int ya3), .val (.int sa), .val (.int ap), .val (.ref b1), .val (.ref b5), .val (.ref pn), .unset, .unset, .unset, .unset, .unset, .unset, .unset, .unset, .unset] [(.int ya3)])) ?_ (fun t_ k_ => XS.iloadN X9.here hx rfl (hb hby at_63) rfl k_)
      refine Goes.on (T' := T9) (g' := (mkF m 67 #[.val (.int ya0), .val (.int ya1), .val (.int ya2), .val (.int ya3), .val (.int sa), .val (.int ap), .val (.ref b1), .val (.ref b5), .val (.ref pn), .unset, .unset, .unset, .unset, .unset, .unset, .unset, .unset, .unset] [(.int (255 : Int32)), (.int ya3)])) ?_ (fun t_ k_ => XS.sipush X9.here hx rfl (hb hby at_64) k_)
      refine Goes.on (T' := T9) (g' := (mkF m 68 #[.val (.int ya0), .val (.int ya1), .val (.int ya2), .val (.int ya3), .val (.int sa), .val (.int ap), .val (.ref b1), .val (.ref b5), .val (.ref pn), .unset, .unset, .unset, .unset, .unset, .unset, .unset, .unset, .unset] [(.int (ya3 &&& (255 : Int32)))])) ?_ (fun t_ k_ => XS.iand X9.here hx rfl (hb hby at_67) rfl k_)
      refine Goes.on (T' := T9) (g' := (mkF m 69 #[.val (.int ya0), .val (.int ya1), .val (.int ya2), .val (.int ya3), .val (.int sa), .val (.int ap), .val (.ref b1), .val (.ref b5), .val (.ref pn), .unset, .unset, .unset, .unset, .unset, .unset, .unset, .unset, .unset] [(.int ((ya3 &&& (255 : Int32)).toUInt32.toUInt16.toUInt32.toInt32))])) ?_ (fun t_ k_ => XS.i2c X9.here hx rfl (hb hby at_68) rfl k_)
      obtain ⟨c2, ec2, c2a, c2b⟩ := own_c255 ya3
      rw [ec2]
      obtain ⟨_, _, ⟨T11, Lq_11, kq_11, nq_11⟩, -, X11, ⟨Lc11, hQ11, l11, y11, z11⟩, st11⟩ := Jvm.LawKit.callS X9 hx (y := (⟨"java/lang/String", "valueOf", "(C)Ljava/lang/String;"⟩ : MethodName)) hown (mvT hZ (hw _ (List.mem_of_getElem? (i := 30) rfl))) (mvT hZ (hw _ (List.mem_of_getElem? (i := 31) rfl))) (mvT hZ (hw _ (List.mem_of_getElem? (i := 3) rfl))) (mvT hZ (hw _ (List.mem_of_getElem? (i := 32) rfl))) (by decide) (backOf (W := 0) (rmVO l Z a0 hw [] c2 zc T9.heap n0 Zv9 c2a c2b CS hzc lf10_X) hZ (hw _ (List.mem_of_getElem? (i := 32) rfl)) (hw _ (List.mem_of_getElem? (i := 3) rfl)) (by decide) (by decide)) (g := (mkF m 69 #[.val (.int ya0), .val (.int ya1), .val (.int ya2), .val (.int ya3), .val (.int sa), .val (.int ap), .val (.ref b1), .val (.ref b5), .val (.ref pn), .unset, .unset, .unset, .unset, .unset, .unset, .unset, .unset, .unset] [(.int c2)])) rfl (by rw [hml]; rfl) (argsL := [(.int c2)]) (rest := []) (lenOf pd_24 rfl) rfl (by show 2 * 0 + _ ≤ _; exact Nat.le_of_eq rfl) (hb hby at_69) (fun _ _ => ⟨rfl, rfl, (by decide : 5 + 2 ≤ _), (by decide : 11 + 5 ≤ _)⟩)
      dsimp only [Pt.U, Pt.locs, Pt.cells, Pt.slots] at X11 l11 y11 z11 st11 hQ11
      rw [l11, y11, z11] at X11
      change Stand p l e _ _ m _ below meth c T11 _ 7 16 at X11
      obtain ⟨qy, tq, kq, rfl, N11q, K11, szx11, szt11, S_qy⟩ := hQ11
      have N11 := Fr.app N9 N11q
      refine Goes.on (T' := T11) (g' := (mkF m 72 #[.val (.int ya0), .val (.int ya1), .val (.int ya2), .val (.int ya3), .val (.int sa), .val (.int ap), .val (.ref b1), .val (.ref b5), .val (.ref pn), .unset, .unset, .unset, .unset, .unset, .unset, .unset, .unset, .unset] [(.ref qy)])) ?_ st11
      have Zv11 : n0 ≤ T11.heap.size := Nat.le_trans Zv9 K11.1
      have g_qy : n0 ≤ qy := Nat.le_trans Zv9 szx11
      have ne_s : pn ≠ qy := Nat.ne_of_lt (Nat.lt_of_lt_of_le S_pn.exa.lt szx11)
      have lf12_X := lf10_X.keep K11 all0
      have lf12_S_pn := S_pn.keep K11 nin0 nin0
      refine Goes.on (T' := T11) (g' := (mkF m 74 #[.val (.int ya0), .val (.int ya1), .val (.int ya2), .val (.int ya3), .val (.int sa), .val (.int ap), .val (.ref b1), .val (.ref b5), .val (.ref pn), .val (.ref qy), .unset, .unset, .unset, .unset, .unset, .unset, .unset, .unset] [])) ?_ (fun t_ k_ => XS.astore X11.here hx rfl (hb hby at_72) rfl rfl (l' := #[.val (.int ya0), .val (.int ya1), .val (.int ya2), .val (.int ya3), .val (.int sa), .val (.int ap), .val (.ref b1), .val (.ref b5), .val (.ref pn), .val (.ref qy), .unset, .unset, .unset, .unset, .unset, .unset, .unset, .unset]) rfl k_)
      refine Goes.on (T' := T11) (g' := (mkF m 76 #[.val (.int ya0), .val (.int ya1), .val (.int ya2), .val (.int ya3), .val (.int sa), .val (.int ap), .val (.ref b1), .val (.ref b5), .val (.ref pn), .val (.ref qy), .unset, .unset, .unset, .unset, .unset, .unset, .unset, .unset] [(.ref pn)])) ?_ (fun t_ k_ => XS.aload X11.here hx rfl (hb hby at_74) rfl rfl k_)
      obtain ⟨_, _, ⟨T13, Lq_13, kq_13, nq_13⟩, -, X13, ⟨Lc13, hQ13, l13, y13, z13⟩, st13⟩ := Jvm.LawKit.callS X11 hx (y := (⟨"com/example/entitlement/entitlement/Term", "local", "(Ljava/lang/String;)Lcom/example/entitlement/entitlement/Term;"⟩ : MethodName)) hown (mvT hZ (hw _ (List.mem_of_getElem? (i := 44) rfl))) (mvT hZ (hw _ (List.mem_of_getElem? (i := 45) rfl))) (mvT hZ (hw _ (List.mem_of_getElem? (i := 46) rfl))) (mvT hZ (hw _ (List.mem_of_getElem? (i := 47) rfl))) (by decide) (backOf (W := 0) (rmTL l Z a0 hw [] pn kl T11.heap n0 Zv11 KL lf12_X) hZ (hw _ (List.mem_of_getElem? (i := 47) rfl)) (hw _ (List.mem_of_getElem? (i := 46) rfl)) (by decide) (by decide)) (g := (mkF m 76 #[.val (.int ya0), .val (.int ya1), .val (.int ya2), .val (.int ya3), .val (.int sa), .val (.int ap), .val (.ref b1), .val (.ref b5), .val (.ref pn), .val (.ref qy), .unset, .unset, .unset, .unset, .unset, .unset, .unset, .unset] [(.ref pn)])) rfl (by rw [hml]; rfl) (argsL := [(.ref pn)]) (rest := []) (lenOf pd_25 rfl) rfl (by show 2 * 0 + _ ≤ _; exact Nat.le_of_eq rfl) (hb hby at_76) (fun _ _ => ⟨rfl, rfl, (by decide : 7 + 1 ≤ _), (by decide : 16 + 5 ≤ _)⟩)
      dsimp only [Pt.U, Pt.locs, Pt.cells, Pt.slots] at X13 l13 y13 z13 st13 hQ13
      rw [l13, y13, z13] at X13
      change Stand p l e _ _ m _ below meth c T13 _ 8 21 at X13
      obtain ⟨tm1, rfl, N13q, K13, -⟩ := hQ13
      have N13 := Fr.app N11 N13q
      refine Goes.on (T' := T13) (g' := (mkF m 79 #[.val (.int ya0), .val (.int ya1), .val (.int ya2), .val (.int ya3), .val (.int sa), .val (.int ap), .val (.ref b1), .val (.ref b5), .val (.ref pn), .val (.ref qy), .unset, .unset, .unset, .unset, .unset, .unset, .unset, .unset] [(.ref tm1)])) ?_ st13
      have Zv13 : n0 ≤ T13.heap.size := Nat.le_trans Zv11 K13.1
      have lf14_X := lf12_X.keep K13 all0
      have lf14_S_pn := lf12_S_pn.keep K13 nin0 nin0
      have lf14_S_qy := S_qy.keep K13 nin0 nin0
      obtain ⟨_, _, ⟨T15, Lq_15, kq_15, nq_15⟩, -, X15, ⟨Lc15, hQ15, l15, y15, z15⟩, st15⟩ := Jvm.LawKit.callS X13 hx (y := (⟨"com/example/entitlement/entitlement/Expression", "term", "(Lcom/example/entitlement/entitlement/Term;)Lcom/example/entitlement/entitlement/Expression;"⟩ : MethodName)) hown (mvT hZ (hw _ (List.mem_of_getElem? (i := 70) rfl))) (mvT hZ (hw _ (List.mem_of_getElem? (i := 71) rfl))) (mvT hZ (hw _ (List.mem_of_getElem? (i := 72) rfl))) (mvT hZ (hw _ (List.mem_of_getElem? (i := 73) rfl))) (by decide) (backOf (W := 0) (rmET l Z a0 hw [] tm1 kt el T13.heap n0 Zv13 KT LS EE EA lf14_X) hZ (hw _ (List.mem_of_getElem? (i := 73) rfl)) (hw _ (List.mem_of_getElem? (i := 72) rfl)) (by decide) (by decide)) (g := (mkF m 79 #[.val (.int ya0), .val (.int ya1), .val (.int ya2), .val (.int ya3), .val (.int sa), .val (.int ap), .val (.ref b1), .val (.ref b5), .val (.ref pn), .val (.ref qy), .unset, .unset, .unset, .unset, .unset, .unset, .unset, .unset] [(.ref tm1)])) rfl (by rw [hml]; rfl) (argsL := [(.ref tm1)]) (rest := []) (lenOf pd_26 rfl) rfl (by show 2 * 0 + _ ≤ _; exact Nat.le_of_eq rfl) (hb hby at_79) (fun _ _ => ⟨rfl, rfl, (by decide : 8 + 1 ≤ _), (by decide : 21 + 3 ≤ _)⟩)
      dsimp only [Pt.U, Pt.locs, Pt.cells, Pt.slots] at X15 l15 y15 z15 st15 hQ15
      rw [l15, y15, z15] at X15
      change Stand p l e _ _ m _ below meth c T15 _ 9 24 at X15
      obtain ⟨pr, rfl, N15q, K15, -, EX_pr⟩ := hQ15
      have N15 := Fr.app N13 N15q
      refine Goes.on (T' := T15) (g' := (mkF m 82 #[.val (.int ya0), .val (.int ya1), .val (.int ya2), .val (.int ya3), .val (.int sa), .val (.int ap), .val (.ref b1), .val (.ref b5), .val (.ref pn), .val (.ref qy), .unset, .unset, .unset, .unset, .unset, .unset, .unset, .unset] [(.ref pr)])) ?_ st15
      have Zv15 : n0 ≤ T15.heap.size := Nat.le_trans Zv13 K15.1
      have lf16_X := lf14_X.keep K15 all0
      have lf16_S_pn := lf14_S_pn.keep K15 nin0 nin0
      have lf16_S_qy := lf14_S_qy.keep K15 nin0 nin0
      refine Goes.on (T' := T15) (g' := (mkF m 84 #[.val (.int ya0), .val (.int ya1), .val (.int ya2), .val (.int ya3), .val (.int sa), .val (.int ap), .val (.ref b1), .val (.ref b5), .val (.ref pn), .val (.ref qy), .val (.ref pr), .unset, .unset, .unset, .unset, .unset, .unset, .unset] [])) ?_ (fun t_ k_ => XS.astore X15.here hx rfl (hb hby at_82) rfl rfl (l' := #[.val (.int ya0), .val (.int ya1), .val (.int ya2), .val (.int ya3), .val (.int sa), .val (.int ap), .val (.ref b1), .val (.ref b5), .val (.ref pn), .val (.ref qy), .val (.ref pr), .unset, .unset, .unset, .unset, .unset, .unset, .unset]) rfl k_)
      refine Goes.on (T' := T15) (g' := (mkF m 86 #[.val (.int ya0), .val (.int ya1), .val (.int ya2), .val (.int ya3), .val (.int sa), .val (.int ap), .val (.ref b1), .val (.ref b5), .val (.ref pn), .val (.ref qy), .val (.ref pr), .unset, .unset, .unset, .unset, .unset, .unset, .unset] [(.ref qy)])) ?_ (fun t_ k_ => XS.aload X15.here hx rfl (hb hby at_84) rfl rfl k_)
      obtain ⟨_, _, ⟨T17, Lq_17, kq_17, nq_17⟩, -, X17, ⟨Lc17, hQ17, l17, y17, z17⟩, st17⟩ := Jvm.LawKit.callS X15 hx (y := (⟨"com/example/entitlement/entitlement/Term", "local", "(Ljava/lang/String;)Lcom/example/entitlement/entitlement/Term;"⟩ : MethodName)) hown (mvT hZ (hw _ (List.mem_of_getElem? (i := 44) rfl))) (mvT hZ (hw _ (List.mem_of_getElem? (i := 45) rfl))) (mvT hZ (hw _ (List.mem_of_getElem? (i := 46) rfl))) (mvT hZ (hw _ (List.mem_of_getElem? (i := 47) rfl))) (by decide) (backOf (W := 0) (rmTL l Z a0 hw [] qy kl T15.heap n0 Zv15 KL lf16_X) hZ (hw _ (List.mem_of_getElem? (i := 47) rfl)) (hw _ (List.mem_of_getElem? (i := 46) rfl)) (by decide) (by decide)) (g := (mkF m 86 #[.val (.int ya0), .val (.int ya1), .val (.int ya2), .val (.int ya3), .val (.int sa), .val (.int ap), .val (.ref b1), .val (.ref b5), .val (.ref pn), .val (.ref qy), .val (.ref pr), .unset, .unset, .unset, .unset, .unset, .unset, .unset] [(.ref qy)])) rfl (by rw [hml]; rfl) (argsL := [(.ref qy)]) (rest := []) (lenOf pd_25 rfl) rfl (by show 2 * 0 + _ ≤ _; exact Nat.le_of_eq rfl) (hb hby at_86) (fun _ _ => ⟨rfl, rfl, (by decide : 9 + 1 ≤ _), (by decide : 24 + 5 ≤ _)⟩)
      dsimp only [Pt.U, Pt.locs, Pt.cells, Pt.slots] at X17 l17 y17 z17 st17 hQ17
      rw [l17, y17, z17] at X17
      change Stand p l e _ _ m _ below meth c T17 _ 10 29 at X17
      obtain ⟨tm2, rfl, N17q, K17, -⟩ := hQ17
      have N17 := Fr.app N15 N17q
      refine Goes.on (T' := T17) (g' := (mkF m 89 #[.val (.int ya0), .val (.int ya1), .val (.int ya2), .val (.int ya3), .val (.int sa), .val (.int ap), .val (.ref b1), .val (.ref b5), .val (.ref pn), .val (.ref qy), .val (.ref pr), .unset, .unset, .unset, .unset, .unset, .unset, .unset] [(.ref tm2)])) ?_ st17
      have Zv17 : n0 ≤ T17.heap.size := Nat.le_trans Zv15 K17.1
      have lf18_X := lf16_X.keep K17 all0
      have lf18_S_pn := lf16_S_pn.keep K17 nin0 nin0
      have lf18_S_qy := lf16_S_qy.keep K17 nin0 nin0
      have lf18_EX_pr := EX_pr.keep K17
      obtain ⟨_, _, ⟨T19, Lq_19, kq_19, nq_19⟩, -, X19, ⟨Lc19, hQ19, l19, y19, z19⟩, st19⟩ := Jvm.LawKit.callS X17 hx (y := (⟨"com/example/entitlement/entitlement/Expression", "term", "(Lcom/example/entitlement/entitlement/Term;)Lcom/example/entitlement/entitlement/Expression;"⟩ : MethodName)) hown (mvT hZ (hw _ (List.mem_of_getElem? (i := 70) rfl))) (mvT hZ (hw _ (List.mem_of_getElem? (i := 71) rfl))) (mvT hZ (hw _ (List.mem_of_getElem? (i := 72) rfl))) (mvT hZ (hw _ (List.mem_of_getElem? (i := 73) rfl))) (by decide) (backOf (W := 0) (rmET l Z a0 hw [] tm2 kt el T17.heap n0 Zv17 KT LS EE EA lf18_X) hZ (hw _ (List.mem_of_getElem? (i := 73) rfl)) (hw _ (List.mem_of_getElem? (i := 72) rfl)) (by decide) (by decide)) (g := (mkF m 89 #[.val (.int ya0), .val (.int ya1), .val (.int ya2), .val (.int ya3), .val (.int sa), .val (.int ap), .val (.ref b1), .val (.ref b5), .val (.ref pn), .val (.ref qy), .val (.ref pr), .unset, .unset, .unset, .unset, .unset, .unset, .unset] [(.ref tm2)])) rfl (by rw [hml]; rfl) (argsL := [(.ref tm2)]) (rest := []) (lenOf pd_26 rfl) rfl (by show 2 * 0 + _ ≤ _; exact Nat.le_of_eq rfl) (hb hby at_89) (fun _ _ => ⟨rfl, rfl, (by decide : 10 + 1 ≤ _), (by decide : 29 + 3 ≤ _)⟩)
      dsimp only [Pt.U, Pt.locs, Pt.cells, Pt.slots] at X19 l19 y19 z19 st19 hQ19
      rw [l19, y19, z19] at X19
      change Stand p l e _ _ m _ below meth c T19 _ 11 32 at X19
      obtain ⟨ar, rfl, N19q, K19, -, EX_ar⟩ := hQ19
      have N19 := Fr.app N17 N19q
      refine Goes.on (T' := T19) (g' := (mkF m 92 #[.val (.int ya0), .val (.int ya1), .val (.int ya2), .val (.int ya3), .val (.int sa), .val (.int ap), .val (.ref b1), .val (.ref b5), .val (.ref pn), .val (.ref qy), .val (.ref pr), .unset, .unset, .unset, .unset, .unset, .unset, .unset] [(.ref ar)])) ?_ st19
      have Zv19 : n0 ≤ T19.heap.size := Nat.le_trans Zv17 K19.1
      have lf20_X := lf18_X.keep K19 all0
      have lf20_S_pn := lf18_S_pn.keep K19 nin0 nin0
      have lf20_S_qy := lf18_S_qy.keep K19 nin0 nin0
      have lf20_EX_pr := lf18_EX_pr.keep K19
      refine Goes.on (T' := T19) (g' := (mkF m 94 #[.val (.int ya0), .val (.int ya1), .val (.int ya2), .val (.int ya3), .val (.int sa), .val (.int ap), .val (.ref b1), .val (.ref b5), .val (.ref pn), .val (.ref qy), .val (.ref pr), .val (.ref ar), .unset, .unset, .unset, .unset, .unset, .unset] [])) ?_ (fun t_ k_ => XS.astore X19.here hx rfl (hb hby at_92) rfl rfl (l' := #[.val (.int ya0), .val (.int ya1), .val (.int ya2), .val (.int ya3), .val (.int sa), .val (.int ap), .val (.ref b1), .val (.ref b5), .val (.ref pn), .val (.ref qy), .val (.ref pr), .val (.ref ar), .unset, .unset, .unset, .unset, .unset, .unset]) rfl k_)
      obtain ⟨T21, h21, X21, e21, E21, A21, D21, -, st21⟩ := newO X19 hx hZ hown (hw _ (List.mem_of_getElem? (i := 113) rfl)) (hw _ (List.mem_of_getElem? (i := 114) rfl)) (hw _ (List.mem_of_getElem? (i := 115) rfl)) rfl (g := (mkF m 94 #[.val (.int ya0), .val (.int ya1), .val (.int ya2), .val (.int ya3), .val (.int sa), .val (.int ap), .val (.ref b1), .val (.ref b5), .val (.ref pn), .val (.ref qy), .val (.ref pr), .val (.ref ar), .unset, .unset, .unset, .unset, .unset, .unset] [])) rfl (hb hby at_94) (by decide) (by decide)
      obtain ⟨b21, gb21⟩ : ∃ z, z = T19.heap.size := ⟨_, rfl⟩
      rw [← gb21] at A21 D21 st21
      have Z21 : n0 ≤ h21.size := Nat.le_trans Zv19 E21.1
      have g_b21 : n0 ≤ b21 := Nat.le_trans Zv19 (Nat.le_of_eq gb21.symm)
      refine Goes.on (T' := T21) (g' := (mkF m 97 #[.val (.int ya0), .val (.int ya1), .val (.int ya2), .val (.int ya3), .val (.int sa), .val (.int ap), .val (.ref b1), .val (.ref b5), .val (.ref pn), .val (.ref qy), .val (.ref pr), .val (.ref ar), .unset, .unset, .unset, .unset, .unset, .unset] [(.ref b21)])) ?_ st21
      have F21_relations : Fld Z h21 b21 "com/example/entitlement/entitlement/ObjectType" "relations" "Ljava/util/Map;" .null := D21 (Or.inr (hw _ (List.mem_of_getElem? (i := 137) rfl))) (ty := (.object "java/util/Map")) (by decide)
      have F21_permissions : Fld Z h21 b21 "com/example/entitlement/entitlement/ObjectType" "permissions" "Ljava/util/Map;" .null := D21 (Or.inr (hw _ (List.mem_of_getElem? (i := 139) rfl))) (ty := (.object "java/util/Map")) (by decide)
      have F21_exclusiveSets : Fld Z h21 b21 "com/example/entitlement/entitlement/ObjectType" "exclusiveSets" "Ljava/util/Map;" .null := D21 (Or.inr (hw _ (List.mem_of_getElem? (i := 141) rfl))) (ty := (.object "java/util/Map")) (by decide)
      have F21_single : Fld Z h21 b21 "com/example/entitlement/entitlement/ObjectType" "single" "Ljava/util/Set;" .null := D21 (Or.inr (hw _ (List.mem_of_getElem? (i := 167) rfl))) (ty := (.object "java/util/Set")) (by decide)
      have F21_readBackwards : Fld Z h21 b21 "com/example/entitlement/entitlement/ObjectType" "readBackwards" "Ljava/util/Map;" .null := D21 (Or.inr (hw _ (List.mem_of_getElem? (i := 169) rfl))) (ty := (.object "java/util/Map")) (by decide)
      have F21_anchors : Fld Z h21 b21 "com/example/entitlement/entitlement/ObjectType" "anchors" "Ljava/util/Map;" .null := D21 (Or.inr (hw _ (List.mem_of_getElem? (i := 171) rfl))) (ty := (.object "java/util/Map")) (by decide)
      have F21_name : Fld Z h21 b21 "com/example/entitlement/entitlement/ObjectType" "name" "Ljava/lang/String;" .null := D21 (Or.inr (hw _ (List.mem_of_getElem? (i := 173) rfl))) (ty := (.object "java/lang/String")) (by decide)
      have F21_actionPermission : Fld Z h21 b21 "com/example/entitlement/entitlement/ObjectType" "actionPermission" "Lcom/example/entitlement/entitlement/Expression;" .null := D21 (Or.inl (hw _ (List.mem_of_getElem? (i := 180) rfl))) (ty := (.object "com/example/entitlement/entitlement/Expression")) (by decide)
      have ke21 : Keep _ _ [] := (Keep.refl _ []).ext E21
      have lf22_X := lf20_X.keep ke21 all0
      have lf22_S_pn := lf20_S_pn.keep ke21 nin0 nin0
      have lf22_S_qy := lf20_S_qy.keep ke21 nin0 nin0
      have lf22_EX_pr := lf20_EX_pr.keep ke21
      have lf22_EX_ar := EX_ar.keep ke21
      obtain ⟨ot, eot⟩ : ∃ z, z = b21 := ⟨_, rfl⟩
      rw [← eot] at A21 g_b21 F21_relations F21_permissions F21_exclusiveSets F21_single F21_readBackwards F21_anchors F21_name F21_actionPermission ⊢
      refine Goes.on (T' := T21) (g' := (mkF m 98 #[.val (.int ya0), .val (.int ya1), .val (.int ya2), .val (.int ya3), .val (.int sa), .val (.int ap), .val (.ref b1), .val (.ref b5), .val (.ref pn), .val (.ref qy), .val (.ref pr), .val (.ref ar), .unset, .unset, .unset, .unset, .unset, .unset] [(.ref ot), (.ref ot)])) ?_ (fun t_ k_ => XS.dup X21.here hx rfl (hb hby at_97) rfl rfl k_)
      refine Goes.on (T' := T21) (g' := (mkF m 100 #[.val (.int ya0), .val (.int ya1), .val (.int ya2), .val (.int ya3), .val (.int sa), .val (.int ap), .val (.ref b1), .val (.ref b5), .val (.ref pn), .val (.ref qy), .val (.ref pr), .val (.ref ar), .unset, .unset, .unset, .unset, .unset, .unset] [(.ref b5), (.ref ot), (.ref ot)])) ?_ (fun t_ k_ => XS.aload X21.here hx rfl (hb hby at_98) rfl rfl k_)
      obtain ⟨_, _, ⟨T23, Lq_23, kq_23, nq_23⟩, -, X23, ⟨Lc23, hQ23, l23, y23, z23⟩, st23⟩ := X21.specialBack hx (y := (⟨"com/example/entitlement/entitlement/ObjectType", "<init>", "(Ljava/lang/String;)V"⟩ : MethodName)) rfl hown (mvT hZ (hw _ (List.mem_of_getElem? (i := 116) rfl))) (mvT hZ (hw _ (List.mem_of_getElem? (i := 117) rfl))) (mvT hZ (hw _ (List.mem_of_getElem? (i := 118) rfl))) (by decide) (backOf (W := 1) (rmOI l Z a0 hw [] ot b5 h21 n0 Z21 A21 g_b21 F21_relations F21_permissions F21_exclusiveSets F21_single F21_readBackwards F21_anchors F21_name F21_actionPermission) hZ (hw _ (List.mem_of_getElem? (i := 118) rfl)) (hw _ (List.mem_of_getElem? (i := 115) rfl)) (by decide) (by decide)) (g := (mkF m 100 #[.val (.int ya0), .val (.int ya1), .val (.int ya2), .val (.int ya3), .val (.int sa), .val (.int ap), .val (.ref b1), .val (.ref b5), .val (.ref pn), .val (.ref qy), .val (.ref pr), .val (.ref ar), .unset, .unset, .unset, .unset, .unset, .unset] [(.ref b5), (.ref ot), (.ref ot)])) rfl (by rw [hml]; rfl) (Steps.refl _) (a := ot) (argsL := [(.ref b5)]) (rest := [(.ref ot)]) (lenOf pd_27 rfl) rfl (by show 2 * 0 + _ ≤ _; exact Nat.le_of_eq rfl) (hb hby at_100) (fun _ _ => ⟨rfl, e21, (by decide : 12 + 7 ≤ _), (by decide : 41 + 49 ≤ _)⟩)
      dsimp only [Pt.U, Pt.locs, Pt.cells, Pt.slots] at X23 l23 y23 z23 st23 hQ23
      rw [l23, y23, z23] at X23
      change Stand p l e _ _ m _ below meth c T23 _ 19 90 at X23
      obtain ⟨rfl, N23q, K23, ⟨mr, mp, OEn, FRn, FPn, FAn, MRn, MPn, mrp, szr, szp⟩⟩ := hQ23
      have N23 := Fr.app N19 N23q
      refine Goes.on (T' := T23) (g' := (mkF m 103 #[.val (.int ya0), .val (.int ya1), .val (.int ya2), .val (.int ya3), .val (.int sa), .val (.int ap), .val (.ref b1), .val (.ref b5), .val (.ref pn), .val (.ref qy), .val (.ref pr), .val (.ref ar), .unset, .unset, .unset, .unset, .unset, .unset] [(.ref ot)])) ?_ (fun t => st23.trans)
      have Zo : n0 ≤ T23.heap.size := Nat.le_trans Z21 K23.1
      have g_mp : n0 ≤ mp := Nat.le_trans Z21 szp
      have lf24_X := lf22_X.keep K23 (allS g_b21 all0)
      have lf24_S_pn := lf22_S_pn.keep K23 (ninS (Exa.ne lf22_S_pn.exa A21 (by decide)) nin0) (ninS (Ne.symm (Exa.neArv A21 lf22_S_pn.arv (hw _ (List.mem_of_getElem? (i := 114) rfl)))) nin0)
      have lf24_S_qy := lf22_S_qy.keep K23 (ninS (Exa.ne lf22_S_qy.exa A21 (by decide)) nin0) (ninS (Ne.symm (Exa.neArv A21 lf22_S_qy.arv (hw _ (List.mem_of_getElem? (i := 114) rfl)))) nin0)
      have lf24_EX_pr := lf22_EX_pr.keep K23
      have lf24_EX_ar := lf22_EX_ar.keep K23
      refine Goes.on (T' := T23) (g' := (mkF m 105 #[.val (.int ya0), .val (.int ya1), .val (.int ya2), .val (.int ya3), .val (.int sa), .val (.int ap), .val (.ref b1), .val (.ref b5), .val (.ref pn), .val (.ref qy), .val (.ref pr), .val (.ref ar), .val (.ref ot), .unset, .unset, .unset, .unset, .unset] [])) ?_ (fun t_ k_ => XS.astore X23.here hx rfl (hb hby at_103) rfl rfl (l' := #[.val (.int ya0), .val (.int ya1), .val (.int ya2), .val (.int ya3), .val (.int sa), .val (.int ap), .val (.ref b1), .val (.ref b5), .val (.ref pn), .val (.ref qy), .val (.ref pr), .val (.ref ar), .val (.ref ot), .unset, .unset, .unset, .unset, .unset]) rfl k_)
      refine Goes.on (T' := T23) (g' := (mkF m 107 #[.val (.int ya0), .val (.int ya1), .val (.int ya2), .val (.int ya3), .val (.int sa), .val (.int ap), .val (.ref b1), .val (.ref b5), .val (.ref pn), .val (.ref qy), .val (.ref pr), .val (.ref ar), .val (.ref ot), .unset, .unset, .unset, .unset, .unset] [(.ref ot)])) ?_ (fun t_ k_ => XS.aload X23.here hx rfl (hb hby at_105) rfl rfl k_)
      obtain ⟨cq25, kq25, q25a, q25b, q25c⟩ := isOf hZ rfl OEn
      obtain ⟨_, _, ⟨T25, Lq_25, kq_25, nq_25⟩, -, X25, ⟨Lc25, hQ25, l25, y25, z25⟩, st25⟩ := X23.virtualBack hx (y := (⟨"com/example/entitlement/entitlement/ObjectType", "hasActionPermission", "()Z"⟩ : MethodName)) (z := (⟨"com/example/entitlement/entitlement/ObjectType", "hasActionPermission", "()Z"⟩ : MethodName)) hown (mvT hZ (hw _ (List.mem_of_getElem? (i := 174) rfl))) (mvT hZ (hw _ (List.mem_of_getElem? (i := 175) rfl))) (notFace_of_selects (args := #[]) (mvT hZ (hw _ (List.mem_of_getElem? (i := 177) rfl)))) (mvT hZ (hw _ (List.mem_of_getElem? (i := 177) rfl))) (mvT hZ (hw _ (List.mem_of_getElem? (i := 176) rfl))) (by decide) (backOf (W := 0) (rmN0 l Z a0 hw [] ot T23.heap n0 Zo FAn) hZ (hw _ (List.mem_of_getElem? (i := 178) rfl)) (hw _ (List.mem_of_getElem? (i := 115) rfl)) (by decide) (by decide)) q25a q25c (g := (mkF m 107 #[.val (.int ya0), .val (.int ya1), .val (.int ya2), .val (.int ya3), .val (.int sa), .val (.int ap), .val (.ref b1), .val (.ref b5), .val (.ref pn), .val (.ref qy), .val (.ref pr), .val (.ref ar), .val (.ref ot), .unset, .unset, .unset, .unset, .unset] [(.ref ot)])) rfl (by rw [hml]; rfl) (Steps.refl _) (argsL := []) (rest := []) (lenOf pd_4 rfl) rfl (by show 2 * 0 + _ ≤ _; exact Nat.le_of_eq rfl) (hb hby at_107) (fun _ _ => ⟨rfl, rfl, (by decide : 19 + 0 ≤ _), (by decide : 90 + 0 ≤ _)⟩)
      dsimp only [Pt.U, Pt.locs, Pt.cells, Pt.slots] at X25 l25 y25 z25 st25 hQ25
      rw [l25, y25, z25] at X25
      change Stand p l e _ _ m _ below meth c T25 _ 19 90 at X25
      obtain ⟨rfl, N25q, eh25⟩ := hQ25
      have N25 := Fr.app N23 N25q
      refine Goes.on (T' := T25) (g' := (mkF m 110 #[.val (.int ya0), .val (.int ya1), .val (.int ya2), .val (.int ya3), .val (.int sa), .val (.int ap), .val (.ref b1), .val (.ref b5), .val (.ref pn), .val (.ref qy), .val (.ref pr), .val (.ref ar), .val (.ref ot), .unset, .unset, .unset, .unset, .unset] [(.int (0 : Int32))])) ?_ (fun t => st25.trans)
      refine Goes.on (T' := T25) (g' := (mkF m 112 #[.val (.int ya0), .val (.int ya1), .val (.int ya2), .val (.int ya3), .val (.int sa), .val (.int ap), .val (.ref b1), .val (.ref b5), .val (.ref pn), .val (.ref qy), .val (.ref pr), .val (.ref ar), .val (.ref ot), .val (.int (0 : Int32)), .unset, .unset, .unset, .unset] [])) ?_ (fun t_ k_ => XS.istore X25.here hx rfl (hb hby at_110) rfl (l' := #[.val (.int ya0), .val (.int ya1), .val (.int ya2), .val (.int ya3), .val (.int sa), .val (.int ap), .val (.ref b1), .val (.ref b5), .val (.ref pn), .val (.ref qy), .val (.ref pr), .val (.ref ar), .val (.ref ot), .val (.int (0 : Int32)), .unset, .unset, .unset, .unset]) rfl k_)
      refine Goes.on (T' := T25) (g' := (mkF m 114 #[.val (.int ya0), .val (.int ya1), .val (.int ya2), .val (.int ya3), .val (.int sa), .val (.int ap), .val (.ref b1), .val (.ref b5), .val (.ref pn), .val (.ref qy), .val (.ref pr), .val (.ref ar), .val (.ref ot), .val (.int (0 : Int32)), .unset, .unset, .unset, .unset] [(.int ap)])) ?_ (fun t_ k_ => XS.iload X25.here hx rfl (hb hby at_112) rfl k_)
      refine Goes.ifP X25 hx rfl (pc0 := 114) (pc' := 126) rfl (hb hby at_114) rfl (by decide) (by decide) (P := ap = (0 : Int32)) (ifc_eq _ _) (fun hc114 => ?_) (fun hc114 => ?_)
      · show Goes p e below W T25 (mkF m 126 #[.val (.int ya0), .val (.int ya1), .val (.int ya2), .val (.int ya3), .val (.int sa), .val (.int ap), .val (.ref b1), .val (.ref b5), .val (.ref pn), .val (.ref qy), .val (.ref pr), .val (.ref ar), .val (.ref ot), .val (.int (0 : Int32)), .unset, .unset, .unset, .unset] [])
        refine Goes.on (T' := T25) (g' := (mkF m 128 #[.val (.int ya0), .val (.int ya1), .val (.int ya2), .val (.int ya3), .val (.int sa), .val (.int ap), .val (.ref b1), .val (.ref b5), .val (.ref pn), .val (.ref qy), .val (.ref pr), .val (.ref ar), .val (.ref ot), .val (.int (0 : Int32)), .unset, .unset, .unset, .unset] [(.int sa)])) ?_ (fun t_ k_ => XS.iload X25.here hx rfl (hb hby at_126) rfl k_)
        refine Goes.ifP X25 hx rfl (pc0 := 128) (pc' := 138) rfl (hb hby at_128) rfl (by decide) (by decide) (P := sa = (0 : Int32)) (ifc_eq _ _) (fun hc128 => ?_) (fun hc128 => ?_)
        · show Goes p e below W T25 (mkF m 138 #[.val (.int ya0), .val (.int ya1), .val (.int ya2), .val (.int ya3), .val (.int sa), .val (.int ap), .val (.ref b1), .val (.ref b5), .val (.ref pn), .val (.ref qy), .val (.ref pr), .val (.ref ar), .val (.ref ot), .val (.int (0 : Int32)), .unset, .unset, .unset, .unset] [])
          refine Goes.on (T' := T25) (g' := (mkF m 140 #[.val (.int ya0), .val (.int ya1), .val (.int ya2), .val (.int ya3), .val (.int sa), .val (.int ap), .val (.ref b1), .val (.ref b5), .val (.ref pn), .val (.ref qy), .val (.ref pr), .val (.ref ar), .val (.ref ot), .val (.int (0 : Int32)), .unset, .unset, .unset, .unset] [(.ref ot)])) ?_ (fun t_ k_ => XS.aload X25.here hx rfl (hb hby at_138) rfl rfl k_)
          obtain ⟨cq26, kq26, q26a, q26b, q26c⟩ := isOf hZ eh25 OEn
          obtain ⟨_, _, ⟨T26, Lq_26, kq_26, nq_26⟩, -, X26, ⟨Lc26, hQ26, l26, y26, z26⟩, st26⟩ := X25.virtualBack hx (y := (⟨"com/example/entitlement/entitlement/ObjectType", "hasActionPermission", "()Z"⟩ : MethodName)) (z := (⟨"com/example/entitlement/entitlement/ObjectType", "hasActionPermission", "()Z"⟩ : MethodName)) hown (mvT hZ (hw _ (List.mem_of_getElem? (i := 174) rfl))) (mvT hZ (hw _ (List.mem_of_getElem? (i := 175) rfl))) (notFace_of_selects (args := #[]) (mvT hZ (hw _ (List.mem_of_getElem? (i := 177) rfl)))) (mvT hZ (hw _ (List.mem_of_getElem? (i := 177) rfl))) (mvT hZ (hw _ (List.mem_of_getElem? (i := 176) rfl))) (by decide) (backOf (W := 0) (rmN0 l Z a0 hw [] ot T23.heap n0 Zo FAn) hZ (hw _ (List.mem_of_getElem? (i := 178) rfl)) (hw _ (List.mem_of_getElem? (i := 115) rfl)) (by decide) (by decide)) q26a q26c (g := (mkF m 140 #[.val (.int ya0), .val (.int ya1), .val (.int ya2), .val (.int ya3), .val (.int sa), .val (.int ap), .val (.ref b1), .val (.ref b5), .val (.ref pn), .val (.ref qy), .val (.ref pr), .val (.ref ar), .val (.ref ot), .val (.int (0 : Int32)), .unset, .unset, .unset, .unset] [(.ref ot)])) rfl (by rw [hml]; rfl) (Steps.refl _) (argsL := []) (rest := []) (lenOf pd_4 rfl) rfl (by show 2 * 0 + _ ≤ _; exact Nat.le_of_eq rfl) (hb hby at_140) (fun _ _ => ⟨rfl, eh25, (by decide : 19 + 0 ≤ _), (by decide : 90 + 0 ≤ _)⟩)
          dsimp only [Pt.U, Pt.locs, Pt.cells, Pt.slots] at X26 l26 y26 z26 st26 hQ26
          rw [l26, y26, z26] at X26
          change Stand p l e _ _ m _ below meth c T26 _ 19 90 at X26
          obtain ⟨rfl, N26q, eh26⟩ := hQ26
          have N26 := Fr.app N25 N26q
          refine Goes.on (T' := T26) (g' := (mkF m 143 #[.val (.int ya0), .val (.int ya1), .val (.int ya2), .val (.int ya3), .val (.int sa), .val (.int ap), .val (.ref b1), .val (.ref b5), .val (.ref pn), .val (.ref qy), .val (.ref pr), .val (.ref ar), .val (.ref ot), .val (.int (0 : Int32)), .unset, .unset, .unset, .unset] [(.int (0 : Int32))])) ?_ (fun t => st26.trans)
          refine Goes.on (T' := T26) (g' := (mkF m 145 #[.val (.int ya0), .val (.int ya1), .val (.int ya2), .val (.int ya3), .val (.int sa), .val (.int ap), .val (.ref b1), .val (.ref b5), .val (.ref pn), .val (.ref qy), .val (.ref pr), .val (.ref ar), .val (.ref ot), .val (.int (0 : Int32)), .val (.int (0 : Int32)), .unset, .unset, .unset] [])) ?_ (fun t_ k_ => XS.istore X26.here hx rfl (hb hby at_143) rfl (l' := #[.val (.int ya0), .val (.int ya1), .val (.int ya2), .val (.int ya3), .val (.int sa), .val (.int ap), .val (.ref b1), .val (.ref b5), .val (.ref pn), .val (.ref qy), .val (.ref pr), .val (.ref ar), .val (.ref ot), .val (.int (0 : Int32)), .val (.int (0 : Int32)), .unset, .unset, .unset]) rfl k_)
          refine Goes.on (T' := T26) (g' := (mkF m 147 #[.val (.int ya0), .val (.int ya1), .val (.int ya2), .val (.int ya3), .val (.int sa), .val (.int ap), .val (.ref b1), .val (.ref b5), .val (.ref pn), .val (.ref qy), .val (.ref pr), .val (.ref ar), .val (.ref ot), .val (.int (0 : Int32)), .val (.int (0 : Int32)), .unset, .unset, .unset] [(.int ap)])) ?_ (fun t_ k_ => XS.iload X26.here hx rfl (hb hby at_145) rfl k_)
          refine Goes.on (T' := T26) (g' := (mkF m 164 #[.val (.int ya0), .val (.int ya1), .val (.int ya2), .val (.int ya3), .val (.int sa), .val (.int ap), .val (.ref b1), .val (.ref b5), .val (.ref pn), .val (.ref qy), .val (.ref pr), .val (.ref ar), .val (.ref ot), .val (.int (0 : Int32)), .val (.int (0 : Int32)), .unset, .unset, .unset] [])) ?_ (fun t_ k_ => XS.ifYes X26.here hx rfl (pc0 := 147) (pc' := 164) rfl (hb hby at_147) rfl ((if0 _ _).trans (teq hc114).1) (by decide) (by decide) k_)
          refine Goes.on (T' := T26) (g' := (mkF m 165 #[.val (.int ya0), .val (.int ya1), .val (.int ya2), .val (.int ya3), .val (.int sa), .val (.int ap), .val (.ref b1), .val (.ref b5), .val (.ref pn), .val (.ref qy), .val (.ref pr), .val (.ref ar), .val (.ref ot), .val (.int (0 : Int32)), .val (.int (0 : Int32)), .unset, .unset, .unset] [(.int (0 : Int32))])) ?_ (fun t_ k_ => XS.iconst X26.here hx rfl (hb hby at_164) k_)
          refine Goes.on (T' := T26) (g' := (mkF m 167 #[.val (.int ya0), .val (.int ya1), .val (.int ya2), .val (.int ya3), .val (.int sa), .val (.int ap), .val (.ref b1), .val (.ref b5), .val (.ref pn), .val (.ref qy), .val (.ref pr), .val (.ref ar), .val (.ref ot), .val (.int (0 : Int32)), .val (.int (0 : Int32)), .val (.int (0 : Int32)), .unset, .unset] [])) ?_ (fun t_ k_ => XS.istore X26.here hx rfl (hb hby at_165) rfl (l' := #[.val (.int ya0), .val (.int ya1), .val (.int ya2), .val (.int ya3), .val (.int sa), .val (.int ap), .val (.ref b1), .val (.ref b5), .val (.ref pn), .val (.ref qy), .val (.ref pr), .val (.ref ar), .val (.ref ot), .val (.int (0 : Int32)), .val (.int (0 : Int32)), .val (.int (0 : Int32)), .unset, .unset]) rfl k_)
          refine Goes.on (T' := T26) (g' := (mkF m 169 #[.val (.int ya0), .val (.int ya1), .val (.int ya2), .val (.int ya3), .val (.int sa), .val (.int ap), .val (.ref b1), .val (.ref b5), .val (.ref pn), .val (.ref qy), .val (.ref pr), .val (.ref ar), .val (.ref ot), .val (.int (0 : Int32)), .val (.int (0 : Int32)), .val (.int (0 : Int32)), .unset, .unset] [(.ref ot)])) ?_ (fun t_ k_ => XS.aload X26.here hx rfl (hb hby at_167) rfl rfl k_)
          refine Goes.on (T' := T26) (g' := (mkF m 171 #[.val (.int ya0), .val (.int ya1), .val (.int ya2), .val (.int ya3), .val (.int sa), .val (.int ap), .val (.ref b1), .val (.ref b5), .val (.ref pn), .val (.ref qy), .val (.ref pr), .val (.ref ar), .val (.ref ot), .val (.int (0 : Int32)), .val (.int (0 : Int32)), .val (.int (0 : Int32)), .unset, .unset] [(.ref qy), (.ref ot)])) ?_ (fun t_ k_ => XS.aload X26.here hx rfl (hb hby at_169) rfl rfl k_)
          obtain ⟨cq27, kq27, q27a, q27b, q27c⟩ := isOf hZ eh26 OEn
          obtain ⟨_, _, ⟨T27, Lq_27, kq_27, nq_27⟩, -, X27, ⟨Lc27, hQ27, l27, y27, z27⟩, st27⟩ := X26.virtualBack hx (y := (⟨"com/example/entitlement/entitlement/ObjectType", "ruleFor", "(Ljava/lang/String;)Lcom/example/entitlement/entitlement/Expression;"⟩ : MethodName)) (z := (⟨"com/example/entitlement/entitlement/ObjectType", "ruleFor", "(Ljava/lang/String;)Lcom/example/entitlement/entitlement/Expression;"⟩ : MethodName)) hown (mvT hZ (hw _ (List.mem_of_getElem? (i := 181) rfl))) (mvT hZ (hw _ (List.mem_of_getElem? (i := 182) rfl))) (notFace_of_selects (args := #[]) (mvT hZ (hw _ (List.mem_of_getElem? (i := 184) rfl)))) (mvT hZ (hw _ (List.mem_of_getElem? (i := 184) rfl))) (mvT hZ (hw _ (List.mem_of_getElem? (i := 183) rfl))) (by decide) (backOf (W := 0) (rmR0 l Z a0 hw [] ot mr .null mp qy T23.heap n0 Zo FRn FPn FAn rfl MRn MPn) hZ (hw _ (List.mem_of_getElem? (i := 185) rfl)) (hw _ (List.mem_of_getElem? (i := 115) rfl)) (by decide) (by decide)) q27a q27c (g := (mkF m 171 #[.val (.int ya0), .val (.int ya1), .val (.int ya2), .val (.int ya3), .val (.int sa), .val (.int ap), .val (.ref b1), .val (.ref b5), .val (.ref pn), .val (.ref qy), .val (.ref pr), .val (.ref ar), .val (.ref ot), .val (.int (0 : Int32)), .val (.int (0 : Int32)), .val (.int (0 : Int32)), .unset, .unset] [(.ref qy), (.ref ot)])) rfl (by rw [hml]; rfl) (Steps.refl _) (argsL := [(.ref qy)]) (rest := []) (lenOf pd_28 rfl) rfl (by show 2 * 0 + _ ≤ _; exact Nat.le_of_eq rfl) (hb hby at_171) (fun _ _ => ⟨rfl, eh26, (by decide : 19 + 0 ≤ _), (by decide : 90 + 0 ≤ _)⟩)
          dsimp only [Pt.U, Pt.locs, Pt.cells, Pt.slots] at X27 l27 y27 z27 st27 hQ27
          rw [l27, y27, z27] at X27
          change Stand p l e _ _ m _ below meth c T27 _ 19 90 at X27
          obtain ⟨rfl, N27q, eh27⟩ := hQ27
          have N27 := Fr.app N26 N27q
          refine Goes.on (T' := T27) (g' := (mkF m 174 #[.val (.int ya0), .val (.int ya1), .val (.int ya2), .val (.int ya3), .val (.int sa), .val (.int ap), .val (.ref b1), .val (.ref b5), .val (.ref pn), .val (.ref qy), .val (.ref pr), .val (.ref ar), .val (.ref ot), .val (.int (0 : Int32)), .val (.int (0 : Int32)), .val (.int (0 : Int32)), .unset, .unset] [.null])) ?_ (fun t => st27.trans)
          refine Goes.on (T' := T27) (g' := (mkF m 176 #[.val (.int ya0), .val (.int ya1), .val (.int ya2), .val (.int ya3), .val (.int sa), .val (.int ap), .val (.ref b1), .val (.ref b5), .val (.ref pn), .val (.ref qy), .val (.ref pr), .val (.ref ar), .val (.ref ot), .val (.int (0 : Int32)), .val (.int (0 : Int32)), .val (.int (0 : Int32)), .val .null, .unset] [])) ?_ (fun t_ k_ => XS.astore X27.here hx rfl (hb hby at_174) rfl rfl (l' := #[.val (.int ya0), .val (.int ya1), .val (.int ya2), .val (.int ya3), .val (.int sa), .val (.int ap), .val (.ref b1), .val (.ref b5), .val (.ref pn), .val (.ref qy), .val (.ref pr), .val (.ref ar), .val (.ref ot), .val (.int (0 : Int32)), .val (.int (0 : Int32)), .val (.int (0 : Int32)), .val .null, .unset]) rfl k_)
          refine Goes.on (T' := T27) (g' := (mkF m 178 #[.val (.int ya0), .val (.int ya1), .val (.int ya2), .val (.int ya3), .val (.int sa), .val (.int ap), .val (.ref b1), .val (.ref b5), .val (.ref pn), .val (.ref qy), .val (.ref pr), .val (.ref ar), .val (.ref ot), .val (.int (0 : Int32)), .val (.int (0 : Int32)), .val (.int (0 : Int32)), .val .null, .unset] [(.int (0 : Int32))])) ?_ (fun t_ k_ => XS.iload X27.here hx rfl (hb hby at_176) rfl k_)
          refine Goes.on (T' := T27) (g' := (mkF m 198 #[.val (.int ya0), .val (.int ya1), .val (.int ya2), .val (.int ya3), .val (.int sa), .val (.int ap), .val (.ref b1), .val (.ref b5), .val (.ref pn), .val (.ref qy), .val (.ref pr), .val (.ref ar), .val (.ref ot), .val (.int (0 : Int32)), .val (.int (0 : Int32)), .val (.int (0 : Int32)), .val .null, .unset] [])) ?_ (fun t_ k_ => XS.ifYes X27.here hx rfl (pc0 := 178) (pc' := 198) rfl (hb hby at_178) rfl (by decide) (by decide) (by decide) k_)
          refine Goes.on (T' := T27) (g' := (mkF m 200 #[.val (.int ya0), .val (.int ya1), .val (.int ya2), .val (.int ya3), .val (.int sa), .val (.int ap), .val (.ref b1), .val (.ref b5), .val (.ref pn), .val (.ref qy), .val (.ref pr), .val (.ref ar), .val (.ref ot), .val (.int (0 : Int32)), .val (.int (0 : Int32)), .val (.int (0 : Int32)), .val .null, .unset] [(.int sa)])) ?_ (fun t_ k_ => XS.iload X27.here hx rfl (hb hby at_198) rfl k_)
          refine Goes.on (T' := T27) (g' := (mkF m 220 #[.val (.int ya0), .val (.int ya1), .val (.int ya2), .val (.int ya3), .val (.int sa), .val (.int ap), .val (.ref b1), .val (.ref b5), .val (.ref pn), .val (.ref qy), .val (.ref pr), .val (.ref ar), .val (.ref ot), .val (.int (0 : Int32)), .val (.int (0 : Int32)), .val (.int (0 : Int32)), .val .null, .unset] [])) ?_ (fun t_ k_ => XS.ifYes X27.here hx rfl (pc0 := 200) (pc' := 220) rfl (hb hby at_200) rfl ((if0 _ _).trans (teq hc128).1) (by decide) (by decide) k_)
          refine Goes.on (T' := T27) (g' := (mkF m 222 #[.val (.int ya0), .val (.int ya1), .val (.int ya2), .val (.int ya3), .val (.int sa), .val (.int ap), .val (.ref b1), .val (.ref b5), .val (.ref pn), .val (.ref qy), .val (.ref pr), .val (.ref ar), .val (.ref ot), .val (.int (0 : Int32)), .val (.int (0 : Int32)), .val (.int (0 : Int32)), .val .null, .unset] [.null])) ?_ (fun t_ k_ => XS.aload X27.here hx rfl (hb hby at_220) rfl rfl k_)
          refine Goes.on (T' := T27) (g' := (mkF m 225 #[.val (.int ya0), .val (.int ya1), .val (.int ya2), .val (.int ya3), .val (.int sa), .val (.int ap), .val (.ref b1), .val (.ref b5), .val (.ref pn), .val (.ref qy), .val (.ref pr), .val (.ref ar), .val (.ref ot), .val (.int (0 : Int32)), .val (.int (0 : Int32)), .val (.int (0 : Int32)), .val .null, .unset] [])) ?_ (fun t_ k_ => XS.ifnonnullNo X27.here hx rfl (hb hby at_222) rfl k_)
          refine Goes.on (T' := T27) (g' := (mkF m 226 #[.val (.int ya0), .val (.int ya1), .val (.int ya2), .val (.int ya3), .val (.int sa), .val (.int ap), .val (.ref b1), .val (.ref b5), .val (.ref pn), .val (.ref qy), .val (.ref pr), .val (.ref ar), .val (.ref ot), .val (.int (0 : Int32)), .val (.int (0 : Int32)), .val (.int (0 : Int32)), .val .null, .unset] [(.int (1 : Int32))])) ?_ (fun t_ k_ => XS.iconst X27.here hx rfl (hb hby at_225) k_)
          refine Goes.on (T' := T27) (g' := (mkF m 230 #[.val (.int ya0), .val (.int ya1), .val (.int ya2), .val (.int ya3), .val (.int sa), .val (.int ap), .val (.ref b1), .val (.ref b5), .val (.ref pn), .val (.ref qy), .val (.ref pr), .val (.ref ar), .val (.ref ot), .val (.int (0 : Int32)), .val (.int (0 : Int32)), .val (.int (0 : Int32)), .val .null, .unset] [(.int (1 : Int32))])) ?_ (fun t_ k_ => XS.goto X27.here hx rfl (pc0 := 226) (pc' := 230) rfl (hb hby at_226) (by decide) (by decide) k_)
          refine Goes.on (T' := T27) (g' := (mkF m 232 #[.val (.int ya0), .val (.int ya1), .val (.int ya2), .val (.int ya3), .val (.int sa), .val (.int ap), .val (.ref b1), .val (.ref b5), .val (.ref pn), .val (.ref qy), .val (.ref pr), .val (.ref ar), .val (.ref ot), .val (.int (0 : Int32)), .val (.int (0 : Int32)), .val (.int (0 : Int32)), .val .null, .val (.int (1 : Int32))] [])) ?_ (fun t_ k_ => XS.istore X27.here hx rfl (hb hby at_230) rfl (l' := #[.val (.int ya0), .val (.int ya1), .val (.int ya2), .val (.int ya3), .val (.int sa), .val (.int ap), .val (.ref b1), .val (.ref b5), .val (.ref pn), .val (.ref qy), .val (.ref pr), .val (.ref ar), .val (.ref ot), .val (.int (0 : Int32)), .val (.int (0 : Int32)), .val (.int (0 : Int32)), .val .null, .val (.int (1 : Int32))]) rfl k_)
          refine Goes.on (T' := T27) (g' := (mkF m 234 #[.val (.int ya0), .val (.int ya1), .val (.int ya2), .val (.int ya3), .val (.int sa), .val (.int ap), .val (.ref b1), .val (.ref b5), .val (.ref pn), .val (.ref qy), .val (.ref pr), .val (.ref ar), .val (.ref ot), .val (.int (0 : Int32)), .val (.int (0 : Int32)), .val (.int (0 : Int32)), .val .null, .val (.int (1 : Int32))] [(.int (0 : Int32))])) ?_ (fun t_ k_ => XS.iload X27.here hx rfl (hb hby at_232) rfl k_)
          refine Goes.on (T' := T27) (g' := (mkF m 237 #[.val (.int ya0), .val (.int ya1), .val (.int ya2), .val (.int ya3), .val (.int sa), .val (.int ap), .val (.ref b1), .val (.ref b5), .val (.ref pn), .val (.ref qy), .val (.ref pr), .val (.ref ar), .val (.ref ot), .val (.int (0 : Int32)), .val (.int (0 : Int32)), .val (.int (0 : Int32)), .val .null, .val (.int (1 : Int32))] [])) ?_ (fun t_ k_ => XS.ifNo X27.here hx rfl (hb hby at_234) rfl (by decide) k_)
          refine Goes.on (T' := T27) (g' := (mkF m 239 #[.val (.int ya0), .val (.int ya1), .val (.int ya2), .val (.int ya3), .val (.int sa), .val (.int ap), .val (.ref b1), .val (.ref b5), .val (.ref pn), .val (.ref qy), .val (.ref pr), .val (.ref ar), .val (.ref ot), .val (.int (0 : Int32)), .val (.int (0 : Int32)), .val (.int (0 : Int32)), .val .null, .val (.int (1 : Int32))] [(.int (0 : Int32))])) ?_ (fun t_ k_ => XS.iload X27.here hx rfl (hb hby at_237) rfl k_)
          refine Goes.on (T' := T27) (g' := (mkF m 241 #[.val (.int ya0), .val (.int ya1), .val (.int ya2), .val (.int ya3), .val (.int sa), .val (.int ap), .val (.ref b1), .val (.ref b5), .val (.ref pn), .val (.ref qy), .val (.ref pr), .val (.ref ar), .val (.ref ot), .val (.int (0 : Int32)), .val (.int (0 : Int32)), .val (.int (0 : Int32)), .val .null, .val (.int (1 : Int32))] [(.int sa), (.int (0 : Int32))])) ?_ (fun t_ k_ => XS.iload X27.here hx rfl (hb hby at_239) rfl k_)
          refine Goes.on (T' := T27) (g' := (mkF m 244 #[.val (.int ya0), .val (.int ya1), .val (.int ya2), .val (.int ya3), .val (.int sa), .val (.int ap), .val (.ref b1), .val (.ref b5), .val (.ref pn), .val (.ref qy), .val (.ref pr), .val (.ref ar), .val (.ref ot), .val (.int (0 : Int32)), .val (.int (0 : Int32)), .val (.int (0 : Int32)), .val .null, .val (.int (1 : Int32))] [])) ?_ (fun t_ k_ => XS.icmpNo X27.here hx rfl (hb hby at_241) rfl (teq hc128.symm).2 k_)
          refine Goes.on (T' := T27) (g' := (mkF m 246 #[.val (.int ya0), .val (.int ya1), .val (.int ya2), .val (.int ya3), .val (.int sa), .val (.int ap), .val (.ref b1), .val (.ref b5), .val (.ref pn), .val (.ref qy), .val (.ref pr), .val (.ref ar), .val (.ref ot), .val (.int (0 : Int32)), .val (.int (0 : Int32)), .val (.int (0 : Int32)), .val .null, .val (.int (1 : Int32))] [(.int (1 : Int32))])) ?_ (fun t_ k_ => XS.iload X27.here hx rfl (hb hby at_244) rfl k_)
          refine Goes.on (T' := T27) (g' := (mkF m 249 #[.val (.int ya0), .val (.int ya1), .val (.int ya2), .val (.int ya3), .val (.int sa), .val (.int ap), .val (.ref b1), .val (.ref b5), .val (.ref pn), .val (.ref qy), .val (.ref pr), .val (.ref ar), .val (.ref ot), .val (.int (0 : Int32)), .val (.int (0 : Int32)), .val (.int (0 : Int32)), .val .null, .val (.int (1 : Int32))] [])) ?_ (fun t_ k_ => XS.ifNo X27.here hx rfl (hb hby at_246) rfl (by decide) k_)
          refine Goes.on (T' := T27) (g' := (mkF m 250 #[.val (.int ya0), .val (.int ya1), .val (.int ya2), .val (.int ya3), .val (.int sa), .val (.int ap), .val (.ref b1), .val (.ref b5), .val (.ref pn), .val (.ref qy), .val (.ref pr), .val (.ref ar), .val (.ref ot), .val (.int (0 : Int32)), .val (.int (0 : Int32)), .val (.int (0 : Int32)), .val .null, .val (.int (1 : Int32))] [(.int (1 : Int32))])) ?_ (fun t_ k_ => XS.iconst X27.here hx rfl (hb hby at_249) k_)
          refine Goes.on (T' := T27) (g' := (mkF m 254 #[.val (.int ya0), .val (.int ya1), .val (.int ya2), .val (.int ya3), .val (.int sa), .val (.int ap), .val (.ref b1), .val (.ref b5), .val (.ref pn), .val (.ref qy), .val (.ref pr), .val (.ref ar), .val (.ref ot), .val (.int (0 : Int32)), .val (.int (0 : Int32)), .val (.int (0 : Int32)), .val .null, .val (.int (1 : Int32))] [(.int (1 : Int32))])) ?_ (fun t_ k_ => XS.goto X27.here hx rfl (pc0 := 250) (pc' := 254) rfl (hb hby at_250) (by decide) (by decide) k_)
          rw [hWd]
          exact Goes.retn X27 (v := some (.int (nar .boolean (1 : Int32)))) (fun fs hr => retN X27 hx (t := .boolean) Bd.returns (by simp) (hb hby at_254) hr) (fun h => by rw [Bd.returns] at h; cases h) Bd.notSynchronized (by decide) (by decide) (by rw [eh27]; exact ⟨rfl, N27⟩)
        · show Goes p e below W T25 (mkF m 131 #[.val (.int ya0), .val (.int ya1), .val (.int ya2), .val (.int ya3), .val (.int sa), .val (.int ap), .val (.ref b1), .val (.ref b5), .val (.ref pn), .val (.ref qy), .val (.ref pr), .val (.ref ar), .val (.ref ot), .val (.int (0 : Int32)), .unset, .unset, .unset, .unset] [])
          refine Goes.on (T' := T25) (g' := (mkF m 133 #[.val (.int ya0), .val (.int ya1), .val (.int ya2), .val (.int ya3), .val (.int sa), .val (.int ap), .val (.ref b1), .val (.ref b5), .val (.ref pn), .val (.ref qy), .val (.ref pr), .val (.ref ar), .val (.ref ot), .val (.int (0 : Int32)), .unset, .unset, .unset, .unset] [(.ref ot)])) ?_ (fun t_ k_ => XS.aload X25.here hx rfl (hb hby at_131) rfl rfl k_)
          refine Goes.on (T' := T25) (g' := (mkF m 135 #[.val (.int ya0), .val (.int ya1), .val (.int ya2), .val (.int ya3), .val (.int sa), .val (.int ap), .val (.ref b1), .val (.ref b5), .val (.ref pn), .val (.ref qy), .val (.ref pr), .val (.ref ar), .val (.ref ot), .val (.int (0 : Int32)), .unset, .unset, .unset, .unset] [(.ref ar), (.ref ot)])) ?_ (fun t_ k_ => XS.aload X25.here hx rfl (hb hby at_133) rfl rfl k_)
          obtain ⟨cq28, kq28, q28a, q28b, q28c⟩ := isOf hZ eh25 OEn
          obtain ⟨_, _, ⟨T28, Lq_28, kq_28, nq_28⟩, -, X28, ⟨Lc28, hQ28, l28, y28, z28⟩, st28⟩ := X25.virtualBack hx (y := (⟨"com/example/entitlement/entitlement/ObjectType", "setActionPermission", "(Lcom/example/entitlement/entitlement/Expression;)V"⟩ : MethodName)) (z := (⟨"com/example/entitlement/entitlement/ObjectType", "setActionPermission", "(Lcom/example/entitlement/entitlement/Expression;)V"⟩ : MethodName)) hown (mvT hZ (hw _ (List.mem_of_getElem? (i := 287) rfl))) (mvT hZ (hw _ (List.mem_of_getElem? (i := 288) rfl))) (notFace_of_selects (args := #[]) (mvT hZ (hw _ (List.mem_of_getElem? (i := 290) rfl)))) (mvT hZ (hw _ (List.mem_of_getElem? (i := 290) rfl))) (mvT hZ (hw _ (List.mem_of_getElem? (i := 289) rfl))) (by decide) (backOf (W := 0) (rmSA l Z a0 hw [] ot ar mr mp T23.heap n0 Zo OEn FRn FPn FAn g_b21) hZ (hw _ (List.mem_of_getElem? (i := 291) rfl)) (hw _ (List.mem_of_getElem? (i := 115) rfl)) (by decide) (by decide)) q28a q28c (g := (mkF m 135 #[.val (.int ya0), .val (.int ya1), .val (.int ya2), .val (.int ya3), .val (.int sa), .val (.int ap), .val (.ref b1), .val (.ref b5), .val (.ref pn), .val (.ref qy), .val (.ref pr), .val (.ref ar), .val (.ref ot), .val (.int (0 : Int32)), .unset, .unset, .unset, .unset] [(.ref ar), (.ref ot)])) rfl (by rw [hml]; rfl) (Steps.refl _) (argsL := [(.ref ar)]) (rest := []) (lenOf pd_29 rfl) rfl (by show 2 * 0 + _ ≤ _; exact Nat.le_of_eq rfl) (hb hby at_135) (fun _ _ => ⟨rfl, eh25, (by decide : 19 + 0 ≤ _), (by decide : 90 + 0 ≤ _)⟩)
          dsimp only [Pt.U, Pt.locs, Pt.cells, Pt.slots] at X28 l28 y28 z28 st28 hQ28
          rw [l28, y28, z28] at X28
          change Stand p l e _ _ m _ below meth c T28 _ 19 90 at X28
          obtain ⟨rfl, N28q, K28, OEs, FRs, FPs, FAs⟩ := hQ28
          have N28 := Fr.app N25 N28q
          refine Goes.on (T' := T28) (g' := (mkF m 138 #[.val (.int ya0), .val (.int ya1), .val (.int ya2), .val (.int ya3), .val (.int sa), .val (.int ap), .val (.ref b1), .val (.ref b5), .val (.ref pn), .val (.ref qy), .val (.ref pr), .val (.ref ar), .val (.ref ot), .val (.int (0 : Int32)), .unset, .unset, .unset, .unset] [])) ?_ (fun t => st28.trans)
          have Zt : n0 ≤ T28.heap.size := Nat.le_trans Zo K28.1
          have lf29_X := lf24_X.keep K28 (allS g_b21 all0)
          have lf29_S_pn := lf24_S_pn.keep K28 (ninS (Exa.ne lf24_S_pn.exa OEn (by decide)) nin0) (ninS (Ne.symm (Exa.neArv OEn lf24_S_pn.arv (hw _ (List.mem_of_getElem? (i := 114) rfl)))) nin0)
          have lf29_S_qy := lf24_S_qy.keep K28 (ninS (Exa.ne lf24_S_qy.exa OEn (by decide)) nin0) (ninS (Ne.symm (Exa.neArv OEn lf24_S_qy.arv (hw _ (List.mem_of_getElem? (i := 114) rfl)))) nin0)
          have lf29_EX_pr := lf24_EX_pr.keep K28
          have lf29_EX_ar := lf24_EX_ar.keep K28
          have lf29_MR := MRn.keep K28 (ninS (Exa.ne MRn.E OEn (by decide)) nin0)
          have lf29_MP := MPn.keep K28 (ninS (Exa.ne MPn.E OEn (by decide)) nin0)
          refine Goes.on (T' := T28) (g' := (mkF m 140 #[.val (.int ya0), .val (.int ya1), .val (.int ya2), .val (.int ya3), .val (.int sa), .val (.int ap), .val (.ref b1), .val (.ref b5), .val (.ref pn), .val (.ref qy), .val (.ref pr), .val (.ref ar), .val (.ref ot), .val (.int (0 : Int32)), .unset, .unset, .unset, .unset] [(.ref ot)])) ?_ (fun t_ k_ => XS.aload X28.here hx rfl (hb hby at_138) rfl rfl k_)
          obtain ⟨cq30, kq30, q30a, q30b, q30c⟩ := isOf hZ rfl OEs
          obtain ⟨_, _, ⟨T30, Lq_30, kq_30, nq_30⟩, -, X30, ⟨Lc30, hQ30, l30, y30, z30⟩, st30⟩ := X28.virtualBack hx (y := (⟨"com/example/entitlement/entitlement/ObjectType", "hasActionPermission", "()Z"⟩ : MethodName)) (z := (⟨"com/example/entitlement/entitlement/ObjectType", "hasActionPermission", "()Z"⟩ : MethodName)) hown (mvT hZ (hw _ (List.mem_of_getElem? (i := 174) rfl))) (mvT hZ (hw _ (List.mem_of_getElem? (i := 175) rfl))) (notFace_of_selects (args := #[]) (mvT hZ (hw _ (List.mem_of_getElem? (i := 177) rfl)))) (mvT hZ (hw _ (List.mem_of_getElem? (i := 177) rfl))) (mvT hZ (hw _ (List.mem_of_getElem? (i := 176) rfl))) (by decide) (backOf (W := 0) (rmN1 l Z a0 hw [] ot ar T28.heap n0 Zt FAs) hZ (hw _ (List.mem_of_getElem? (i := 178) rfl)) (hw _ (List.mem_of_getElem? (i := 115) rfl)) (by decide) (by decide)) q30a q30c (g := (mkF m 140 #[.val (.int ya0), .val (.int ya1), .val (.int ya2), .val (.int ya3), .val (.int sa), .val (.int ap), .val (.ref b1), .val (.ref b5), .val (.ref pn), .val (.ref qy), .val (.ref pr), .val (.ref ar), .val (.ref ot), .val (.int (0 : Int32)), .unset, .unset, .unset, .unset] [(.ref ot)])) rfl (by rw [hml]; rfl) (Steps.refl _) (argsL := []) (rest := []) (lenOf pd_4 rfl) rfl (by show 2 * 0 + _ ≤ _; exact Nat.le_of_eq rfl) (hb hby at_140) (fun _ _ => ⟨rfl, rfl, (by decide : 19 + 0 ≤ _), (by decide : 90 + 0 ≤ _)⟩)
          dsimp only [Pt.U, Pt.locs, Pt.cells, Pt.slots] at X30 l30 y30 z30 st30 hQ30
          rw [l30, y30, z30] at X30
          change Stand p l e _ _ m _ below meth c T30 _ 19 90 at X30
          obtain ⟨rfl, N30q, eh30⟩ := hQ30
          have N30 := Fr.app N28 N30q
          refine Goes.on (T' := T30) (g' := (mkF m 143 #[.val (.int ya0), .val (.int ya1), .val (.int ya2), .val (.int ya3), .val (.int sa), .val (.int ap), .val (.ref b1), .val (.ref b5), .val (.ref pn), .val (.ref qy), .val (.ref pr), .val (.ref ar), .val (.ref ot), .val (.int (0 : Int32)), .unset, .unset, .unset, .unset] [(.int (1 : Int32))])) ?_ (fun t => st30.trans)
          refine Goes.on (T' := T30) (g' := (mkF m 145 #[.val (.int ya0), .val (.int ya1), .val (.int ya2), .val (.int ya3), .val (.int sa), .val (.int ap), .val (.ref b1), .val (.ref b5), .val (.ref pn), .val (.ref qy), .val (.ref pr), .val (.ref ar), .val (.ref ot), .val (.int (0 : Int32)), .val (.int (1 : Int32)), .unset, .unset, .unset] [])) ?_ (fun t_ k_ => XS.istore X30.here hx rfl (hb hby at_143) rfl (l' := #[.val (.int ya0), .val (.int ya1), .val (.int ya2), .val (.int ya3), .val (.int sa), .val (.int ap), .val (.ref b1), .val (.ref b5), .val (.ref pn), .val (.ref qy), .val (.ref pr), .val (.ref ar), .val (.ref ot), .val (.int (0 : Int32)), .val (.int (1 : Int32)), .unset, .unset, .unset]) rfl k_)
          refine Goes.on (T' := T30) (g' := (mkF m 147 #[.val (.int ya0), .val (.int ya1), .val (.int ya2), .val (.int ya3), .val (.int sa), .val (.int ap), .val (.ref b1), .val (.ref b5), .val (.ref pn), .val (.ref qy), .val (.ref pr), .val (.ref ar), .val (.ref ot), .val (.int (0 : Int32)), .val (.int (1 : Int32)), .unset, .unset, .unset] [(.int ap)])) ?_ (fun t_ k_ => XS.iload X30.here hx rfl (hb hby at_145) rfl k_)
          refine Goes.on (T' := T30) (g' := (mkF m 164 #[.val (.int ya0), .val (.int ya1), .val (.int ya2), .val (.int ya3), .val (.int sa), .val (.int ap), .val (.ref b1), .val (.ref b5), .val (.ref pn), .val (.ref qy), .val (.ref pr), .val (.ref ar), .val (.ref ot), .val (.int (0 : Int32)), .val (.int (1 : Int32)), .unset, .unset, .unset] [])) ?_ (fun t_ k_ => XS.ifYes X30.here hx rfl (pc0 := 147) (pc' := 164) rfl (hb hby at_147) rfl ((if0 _ _).trans (teq hc114).1) (by decide) (by decide) k_)
          refine Goes.on (T' := T30) (g' := (mkF m 165 #[.val (.int ya0), .val (.int ya1), .val (.int ya2), .val (.int ya3), .val (.int sa), .val (.int ap), .val (.ref b1), .val (.ref b5), .val (.ref pn), .val (.ref qy), .val (.ref pr), .val (.ref ar), .val (.ref ot), .val (.int (0 : Int32)), .val (.int (1 : Int32)), .unset, .unset, .unset] [(.int (0 : Int32))])) ?_ (fun t_ k_ => XS.iconst X30.here hx rfl (hb hby at_164) k_)
          refine Goes.on (T' := T30) (g' := (mkF m 167 #[.val (.int ya0), .val (.int ya1), .val (.int ya2), .val (.int ya3), .val (.int sa), .val (.int ap), .val (.ref b1), .val (.ref b5), .val (.ref pn), .val (.ref qy), .val (.ref pr), .val (.ref ar), .val (.ref ot), .val (.int (0 : Int32)), .val (.int (1 : Int32)), .val (.int (0 : Int32)), .unset, .unset] [])) ?_ (fun t_ k_ => XS.istore X30.here hx rfl (hb hby at_165) rfl (l' := #[.val (.int ya0), .val (.int ya1), .val (.int ya2), .val (.int ya3), .val (.int sa), .val (.int ap), .val (.ref b1), .val (.ref b5), .val (.ref pn), .val (.ref qy), .val (.ref pr), .val (.ref ar), .val (.ref ot), .val (.int (0 : Int32)), .val (.int (1 : Int32)), .val (.int (0 : Int32)), .unset, .unset]) rfl k_)
          refine Goes.on (T' := T30) (g' := (mkF m 169 #[.val (.int ya0), .val (.int ya1), .val (.int ya2), .val (.int ya3), .val (.int sa), .val (.int ap), .val (.ref b1), .val (.ref b5), .val (.ref pn), .val (.ref qy), .val (.ref pr), .val (.ref ar), .val (.ref ot), .val (.int (0 : Int32)), .val (.int (1 : Int32)), .val (.int (0 : Int32)), .unset, .unset] [(.ref ot)])) ?_ (fun t_ k_ => XS.aload X30.here hx rfl (hb hby at_167) rfl rfl k_)
          refine Goes.on (T' := T30) (g' := (mkF m 171 #[.val (.int ya0), .val (.int ya1), .val (.int ya2), .val (.int ya3), .val (.int sa), .val (.int ap), .val (.ref b1), .val (.ref b5), .val (.ref pn), .val (.ref qy), .val (.ref pr), .val (.ref ar), .val (.ref ot), .val (.int (0 : Int32)), .val (.int (1 : Int32)), .val (.int (0 : Int32)), .unset, .unset] [(.ref qy), (.ref ot)])) ?_ (fun t_ k_ => XS.aload X30.here hx rfl (hb hby at_169) rfl rfl k_)
          obtain ⟨cq31, kq31, q31a, q31b, q31c⟩ := isOf hZ eh30 OEs
          obtain ⟨_, _, ⟨T31, Lq_31, kq_31, nq_31⟩, -, X31, ⟨Lc31, hQ31, l31, y31, z31⟩, st31⟩ := X30.virtualBack hx (y := (⟨"com/example/entitlement/entitlement/ObjectType", "ruleFor", "(Ljava/lang/String;)Lcom/example/entitlement/entitlement/Expression;"⟩ : MethodName)) (z := (⟨"com/example/entitlement/entitlement/ObjectType", "ruleFor", "(Ljava/lang/String;)Lcom/example/entitlement/entitlement/Expression;"⟩ : MethodName)) hown (mvT hZ (hw _ (List.mem_of_getElem? (i := 181) rfl))) (mvT hZ (hw _ (List.mem_of_getElem? (i := 182) rfl))) (notFace_of_selects (args := #[]) (mvT hZ (hw _ (List.mem_of_getElem? (i := 184) rfl)))) (mvT hZ (hw _ (List.mem_of_getElem? (i := 184) rfl))) (mvT hZ (hw _ (List.mem_of_getElem? (i := 183) rfl))) (by decide) (backOf (W := 0) (rmR0 l Z a0 hw [] ot mr (.ref ar) mp qy T28.heap n0 Zt FRs FPs FAs rfl lf29_MR lf29_MP) hZ (hw _ (List.mem_of_getElem? (i := 185) rfl)) (hw _ (List.mem_of_getElem? (i := 115) rfl)) (by decide) (by decide)) q31a q31c (g := (mkF m 171 #[.val (.int ya0), .val (.int ya1), .val (.int ya2), .val (.int ya3), .val (.int sa), .val (.int ap), .val (.ref b1), .val (.ref b5), .val (.ref pn), .val (.ref qy), .val (.ref pr), .val (.ref ar), .val (.ref ot), .val (.int (0 : Int32)), .val (.int (1 : Int32)), .val (.int (0 : Int32)), .unset, .unset] [(.ref qy), (.ref ot)])) rfl (by rw [hml]; rfl) (Steps.refl _) (argsL := [(.ref qy)]) (rest := []) (lenOf pd_28 rfl) rfl (by show 2 * 0 + _ ≤ _; exact Nat.le_of_eq rfl) (hb hby at_171) (fun _ _ => ⟨rfl, eh30, (by decide : 19 + 0 ≤ _), (by decide : 90 + 0 ≤ _)⟩)
          dsimp only [Pt.U, Pt.locs, Pt.cells, Pt.slots] at X31 l31 y31 z31 st31 hQ31
          rw [l31, y31, z31] at X31
          change Stand p l e _ _ m _ below meth c T31 _ 19 90 at X31
          obtain ⟨rfl, N31q, eh31⟩ := hQ31
          have N31 := Fr.app N30 N31q
          refine Goes.on (T' := T31) (g' := (mkF m 174 #[.val (.int ya0), .val (.int ya1), .val (.int ya2), .val (.int ya3), .val (.int sa), .val (.int ap), .val (.ref b1), .val (.ref b5), .val (.ref pn), .val (.ref qy), .val (.ref pr), .val (.ref ar), .val (.ref ot), .val (.int (0 : Int32)), .val (.int (1 : Int32)), .val (.int (0 : Int32)), .unset, .unset] [(.ref ar)])) ?_ (fun t => st31.trans)
          refine Goes.on (T' := T31) (g' := (mkF m 176 #[.val (.int ya0), .val (.int ya1), .val (.int ya2), .val (.int ya3), .val (.int sa), .val (.int ap), .val (.ref b1), .val (.ref b5), .val (.ref pn), .val (.ref qy), .val (.ref pr), .val (.ref ar), .val (.ref ot), .val (.int (0 : Int32)), .val (.int (1 : Int32)), .val (.int (0 : Int32)), .val (.ref ar), .unset] [])) ?_ (fun t_ k_ => XS.astore X31.here hx rfl (hb hby at_174) rfl rfl (l' := #[.val (.int ya0), .val (.int ya1), .val (.int ya2), .val (.int ya3), .val (.int sa), .val (.int ap), .val (.ref b1), .val (.ref b5), .val (.ref pn), .val (.ref qy), .val (.ref pr), .val (.ref ar), .val (.ref ot), .val (.int (0 : Int32)), .val (.int (1 : Int32)), .val (.int (0 : Int32)), .val (.ref ar), .unset]) rfl k_)
          refine Goes.on (T' := T31) (g' := (mkF m 178 #[.val (.int ya0), .val (.int ya1), .val (.int ya2), .val (.int ya3), .val (.int sa), .val (.int ap), .val (.ref b1), .val (.ref b5), .val (.ref pn), .val (.ref qy), .val (.ref pr), .val (.ref ar), .val (.ref ot), .val (.int (0 : Int32)), .val (.int (1 : Int32)), .val (.int (0 : Int32)), .val (.ref ar), .unset] [(.int (0 : Int32))])) ?_ (fun t_ k_ => XS.iload X31.here hx rfl (hb hby at_176) rfl k_)
          refine Goes.on (T' := T31) (g' := (mkF m 198 #[.val (.int ya0), .val (.int ya1), .val (.int ya2), .val (.int ya3), .val (.int sa), .val (.int ap), .val (.ref b1), .val (.ref b5), .val (.ref pn), .val (.ref qy), .val (.ref pr), .val (.ref ar), .val (.ref ot), .val (.int (0 : Int32)), .val (.int (1 : Int32)), .val (.int (0 : Int32)), .val (.ref ar), .unset] [])) ?_ (fun t_ k_ => XS.ifYes X31.here hx rfl (pc0 := 178) (pc' := 198) rfl (hb hby at_178) rfl (by decide) (by decide) (by decide) k_)
          refine Goes.on (T' := T31) (g' := (mkF m 200 #[.val (.int ya0), .val (.int ya1), .val (.int ya2), .val (.int ya3), .val (.int sa), .val (.int ap), .val (.ref b1), .val (.ref b5), .val (.ref pn), .val (.ref qy), .val (.ref pr), .val (.ref ar), .val (.ref ot), .val (.int (0 : Int32)), .val (.int (1 : Int32)), .val (.int (0 : Int32)), .val (.ref ar), .unset] [(.int sa)])) ?_ (fun t_ k_ => XS.iload X31.here hx rfl (hb hby at_198) rfl k_)
          refine Goes.on (T' := T31) (g' := (mkF m 203 #[.val (.int ya0), .val (.int ya1), .val (.int ya2), .val (.int ya3), .val (.int sa), .val (.int ap), .val (.ref b1), .val (.ref b5), .val (.ref pn), .val (.ref qy), .val (.ref pr), .val (.ref ar), .val (.ref ot), .val (.int (0 : Int32)), .val (.int (1 : Int32)), .val (.int (0 : Int32)), .val (.ref ar), .unset] [])) ?_ (fun t_ k_ => XS.ifNo X31.here hx rfl (hb hby at_200) rfl ((if0 _ _).trans (feq hc128).1) k_)
          refine Goes.on (T' := T31) (g' := (mkF m 205 #[.val (.int ya0), .val (.int ya1), .val (.int ya2), .val (.int ya3), .val (.int sa), .val (.int ap), .val (.ref b1), .val (.ref b5), .val (.ref pn), .val (.ref qy), .val (.ref pr), .val (.ref ar), .val (.ref ot), .val (.int (0 : Int32)), .val (.int (1 : Int32)), .val (.int (0 : Int32)), .val (.ref ar), .unset] [(.ref ar)])) ?_ (fun t_ k_ => XS.aload X31.here hx rfl (hb hby at_203) rfl rfl k_)
          refine Goes.on (T' := T31) (g' := (mkF m 207 #[.val (.int ya0), .val (.int ya1), .val (.int ya2), .val (.int ya3), .val (.int sa), .val (.int ap), .val (.ref b1), .val (.ref b5), .val (.ref pn), .val (.ref qy), .val (.ref pr), .val (.ref ar), .val (.ref ot), .val (.int (0 : Int32)), .val (.int (1 : Int32)), .val (.int (0 : Int32)), .val (.ref ar), .unset] [(.ref ar), (.ref ar)])) ?_ (fun t_ k_ => XS.aload X31.here hx rfl (hb hby at_205) rfl rfl k_)
          refine Goes.on (T' := T31) (g' := (mkF m 210 #[.val (.int ya0), .val (.int ya1), .val (.int ya2), .val (.int ya3), .val (.int sa), .val (.int ap), .val (.ref b1), .val (.ref b5), .val (.ref pn), .val (.ref qy), .val (.ref pr), .val (.ref ar), .val (.ref ot), .val (.int (0 : Int32)), .val (.int (1 : Int32)), .val (.int (0 : Int32)), .val (.ref ar), .unset] [])) ?_ (fun t_ k_ => Jvm.RoadKit.acmp X31 hx rfl rfl rfl (pc0 := 207) (pc' := 210) (same := true) rfl (hb hby at_207) rfl (decide_eq_true (congrArg Value.ref rfl)) (by decide) (by decide) k_)
          refine Goes.on (T' := T31) (g' := (mkF m 211 #[.val (.int ya0), .val (.int ya1), .val (.int ya2), .val (.int ya3), .val (.int sa), .val (.int ap), .val (.ref b1), .val (.ref b5), .val (.ref pn), .val (.ref qy), .val (.ref pr), .val (.ref ar), .val (.ref ot), .val (.int (0 : Int32)), .val (.int (1 : Int32)), .val (.int (0 : Int32)), .val (.ref ar), .unset] [(.int (1 : Int32))])) ?_ (fun t_ k_ => XS.iconst X31.here hx rfl (hb hby at_210) k_)
          refine Goes.on (T' := T31) (g' := (mkF m 215 #[.val (.int ya0), .val (.int ya1), .val (.int ya2), .val (.int ya3), .val (.int sa), .val (.int ap), .val (.ref b1), .val (.ref b5), .val (.ref pn), .val (.ref qy), .val (.ref pr), .val (.ref ar), .val (.ref ot), .val (.int (0 : Int32)), .val (.int (1 : Int32)), .val (.int (0 : Int32)), .val (.ref ar), .unset] [(.int (1 : Int32))])) ?_ (fun t_ k_ => XS.goto X31.here hx rfl (pc0 := 211) (pc' := 215) rfl (hb hby at_211) (by decide) (by decide) k_)
          refine Goes.on (T' := T31) (g' := (mkF m 217 #[.val (.int ya0), .val (.int ya1), .val (.int ya2), .val (.int ya3), .val (.int sa), .val (.int ap), .val (.ref b1), .val (.ref b5), .val (.ref pn), .val (.ref qy), .val (.ref pr), .val (.ref ar), .val (.ref ot), .val (.int (0 : Int32)), .val (.int (1 : Int32)), .val (.int (0 : Int32)), .val (.ref ar), .val (.int (1 : Int32))] [])) ?_ (fun t_ k_ => XS.istore X31.here hx rfl (hb hby at_215) rfl (l' := #[.val (.int ya0), .val (.int ya1), .val (.int ya2), .val (.int ya3), .val (.int sa), .val (.int ap), .val (.ref b1), .val (.ref b5), .val (.ref pn), .val (.ref qy), .val (.ref pr), .val (.ref ar), .val (.ref ot), .val (.int (0 : Int32)), .val (.int (1 : Int32)), .val (.int (0 : Int32)), .val (.ref ar), .val (.int (1 : Int32))]) rfl k_)
          refine Goes.on (T' := T31) (g' := (mkF m 232 #[.val (.int ya0), .val (.int ya1), .val (.int ya2), .val (.int ya3), .val (.int sa), .val (.int ap), .val (.ref b1), .val (.ref b5), .val (.ref pn), .val (.ref qy), .val (.ref pr), .val (.ref ar), .val (.ref ot), .val (.int (0 : Int32)), .val (.int (1 : Int32)), .val (.int (0 : Int32)), .val (.ref ar), .val (.int (1 : Int32))] [])) ?_ (fun t_ k_ => XS.goto X31.here hx rfl (pc0 := 217) (pc' := 232) rfl (hb hby at_217) (by decide) (by decide) k_)
          refine Goes.on (T' := T31) (g' := (mkF m 234 #[.val (.int ya0), .val (.int ya1), .val (.int ya2), .val (.int ya3), .val (.int sa), .val (.int ap), .val (.ref b1), .val (.ref b5), .val (.ref pn), .val (.ref qy), .val (.ref pr), .val (.ref ar), .val (.ref ot), .val (.int (0 : Int32)), .val (.int (1 : Int32)), .val (.int (0 : Int32)), .val (.ref ar), .val (.int (1 : Int32))] [(.int (0 : Int32))])) ?_ (fun t_ k_ => XS.iload X31.here hx rfl (hb hby at_232) rfl k_)
          refine Goes.on (T' := T31) (g' := (mkF m 237 #[.val (.int ya0), .val (.int ya1), .val (.int ya2), .val (.int ya3), .val (.int sa), .val (.int ap), .val (.ref b1), .val (.ref b5), .val (.ref pn), .val (.ref qy), .val (.ref pr), .val (.ref ar), .val (.ref ot), .val (.int (0 : Int32)), .val (.int (1 : Int32)), .val (.int (0 : Int32)), .val (.ref ar), .val (.int (1 : Int32))] [])) ?_ (fun t_ k_ => XS.ifNo X31.here hx rfl (hb hby at_234) rfl (by decide) k_)
          refine Goes.on (T' := T31) (g' := (mkF m 239 #[.val (.int ya0), .val (.int ya1), .val (.int ya2), .val (.int ya3), .val (.int sa), .val (.int ap), .val (.ref b1), .val (.ref b5), .val (.ref pn), .val (.ref qy), .val (.ref pr), .val (.ref ar), .val (.ref ot), .val (.int (0 : Int32)), .val (.int (1 : Int32)), .val (.int (0 : Int32)), .val (.ref ar), .val (.int (1 : Int32))] [(.int (1 : Int32))])) ?_ (fun t_ k_ => XS.iload X31.here hx rfl (hb hby at_237) rfl k_)
          refine Goes.on (T' := T31) (g' := (mkF m 241 #[.val (.int ya0), .val (.int ya1), .val (.int ya2), .val (.int ya3), .val (.int sa), .val (.int ap), .val (.ref b1), .val (.ref b5), .val (.ref pn), .val (.ref qy), .val (.ref pr), .val (.ref ar), .val (.ref ot), .val (.int (0 : Int32)), .val (.int (1 : Int32)), .val (.int (0 : Int32)), .val (.ref ar), .val (.int (1 : Int32))] [(.int sa), (.int (1 : Int32))])) ?_ (fun t_ k_ => XS.iload X31.here hx rfl (hb hby at_239) rfl k_)
          refine Goes.on (T' := T31) (g' := (mkF m 244 #[.val (.int ya0), .val (.int ya1), .val (.int ya2), .val (.int ya3), .val (.int sa), .val (.int ap), .val (.ref b1), .val (.ref b5), .val (.ref pn), .val (.ref qy), .val (.ref pr), .val (.ref ar), .val (.ref ot), .val (.int (0 : Int32)), .val (.int (1 : Int32)), .val (.int (0 : Int32)), .val (.ref ar), .val (.int (1 : Int32))] [])) ?_ (fun t_ k_ => XS.icmpNo X31.here hx rfl (hb hby at_241) rfl (teq (hsa.resolve_left hc128).symm).2 k_)
          refine Goes.on (T' := T31) (g' := (mkF m 246 #[.val (.int ya0), .val (.int ya1), .val (.int ya2), .val (.int ya3), .val (.int sa), .val (.int ap), .val (.ref b1), .val (.ref b5), .val (.ref pn), .val (.ref qy), .val (.ref pr), .val (.ref ar), .val (.ref ot), .val (.int (0 : Int32)), .val (.int (1 : Int32)), .val (.int (0 : Int32)), .val (.ref ar), .val (.int (1 : Int32))] [(.int (1 : Int32))])) ?_ (fun t_ k_ => XS.iload X31.here hx rfl (hb hby at_244) rfl k_)
          refine Goes.on (T' := T31) (g' := (mkF m 249 #[.val (.int ya0), .val (.int ya1), .val (.int ya2), .val (.int ya3), .val (.int sa), .val (.int ap), .val (.ref b1), .val (.ref b5), .val (.ref pn), .val (.ref qy), .val (.ref pr), .val (.ref ar), .val (.ref ot), .val (.int (0 : Int32)), .val (.int (1 : Int32)), .val (.int (0 : Int32)), .val (.ref ar), .val (.int (1 : Int32))] [])) ?_ (fun t_ k_ => XS.ifNo X31.here hx rfl (hb hby at_246) rfl (by decide) k_)
          refine Goes.on (T' := T31) (g' := (mkF m 250 #[.val (.int ya0), .val (.int ya1), .val (.int ya2), .val (.int ya3), .val (.int sa), .val (.int ap), .val (.ref b1), .val (.ref b5), .val (.ref pn), .val (.ref qy), .val (.ref pr), .val (.ref ar), .val (.ref ot), .val (.int (0 : Int32)), .val (.int (1 : Int32)), .val (.int (0 : Int32)), .val (.ref ar), .val (.int (1 : Int32))] [(.int (1 : Int32))])) ?_ (fun t_ k_ => XS.iconst X31.here hx rfl (hb hby at_249) k_)
          refine Goes.on (T' := T31) (g' := (mkF m 254 #[.val (.int ya0), .val (.int ya1), .val (.int ya2), .val (.int ya3), .val (.int sa), .val (.int ap), .val (.ref b1), .val (.ref b5), .val (.ref pn), .val (.ref qy), .val (.ref pr), .val (.ref ar), .val (.ref ot), .val (.int (0 : Int32)), .val (.int (1 : Int32)), .val (.int (0 : Int32)), .val (.ref ar), .val (.int (1 : Int32))] [(.int (1 : Int32))])) ?_ (fun t_ k_ => XS.goto X31.here hx rfl (pc0 := 250) (pc' := 254) rfl (hb hby at_250) (by decide) (by decide) k_)
          rw [hWd]
          exact Goes.retn X31 (v := some (.int (nar .boolean (1 : Int32)))) (fun fs hr => retN X31 hx (t := .boolean) Bd.returns (by simp) (hb hby at_254) hr) (fun h => by rw [Bd.returns] at h; cases h) Bd.notSynchronized (by decide) (by decide) (by rw [eh31]; exact ⟨rfl, N31⟩)
      · show Goes p e below W T25 (mkF m 117 #[.val (.int ya0), .val (.int ya1), .val (.int ya2), .val (.int ya3), .val (.int sa), .val (.int ap), .val (.ref b1), .val (.ref b5), .val (.ref pn), .val (.ref qy), .val (.ref pr), .val (.ref ar), .val (.ref ot), .val (.int (0 : Int32)), .unset, .unset, .unset, .unset] [])
        refine Goes.on (T' := T25) (g' := (mkF m 119 #[.val (.int ya0), .val (.int ya1), .val (.int ya2), .val (.int ya3), .val (.int sa), .val (.int ap), .val (.ref b1), .val (.ref b5), .val (.ref pn), .val (.ref qy), .val (.ref pr), .val (.ref ar), .val (.ref ot), .val (.int (0 : Int32)), .unset, .unset, .unset, .unset] [(.ref ot)])) ?_ (fun t_ k_ => XS.aload X25.here hx rfl (hb hby at_117) rfl rfl k_)
        refine Goes.on (T' := T25) (g' := (mkF m 121 #[.val (.int ya0), .val (.int ya1), .val (.int ya2), .val (.int ya3), .val (.int sa), .val (.int ap), .val (.ref b1), .val (.ref b5), .val (.ref pn), .val (.ref qy), .val (.ref pr), .val (.ref ar), .val (.ref ot), .val (.int (0 : Int32)), .unset, .unset, .unset, .unset] [(.ref pn), (.ref ot)])) ?_ (fun t_ k_ => XS.aload X25.here hx rfl (hb hby at_119) rfl rfl k_)
        refine Goes.on (T' := T25) (g' := (mkF m 123 #[.val (.int ya0), .val (.int ya1), .val (.int ya2), .val (.int ya3), .val (.int sa), .val (.int ap), .val (.ref b1), .val (.ref b5), .val (.ref pn), .val (.ref qy), .val (.ref pr), .val (.ref ar), .val (.ref ot), .val (.int (0 : Int32)), .unset, .unset, .unset, .unset] [(.ref pr), (.ref pn), (.ref ot)])) ?_ (fun t_ k_ => XS.aload X25.here hx rfl (hb hby at_121) rfl rfl k_)
        obtain ⟨cq32, kq32, q32a, q32b, q32c⟩ := isOf hZ eh25 OEn
        obtain ⟨_, _, ⟨T32, Lq_32, kq_32, nq_32⟩, -, X32, ⟨Lc32, hQ32, l32, y32, z32⟩, st32⟩ := X25.virtualBack hx (y := (⟨"com/example/entitlement/entitlement/ObjectType", "addPermission", "(Ljava/lang/String;Lcom/example/entitlement/entitlement/Expression;)V"⟩ : MethodName)) (z := (⟨"com/example/entitlement/entitlement/ObjectType", "addPermission", "(Ljava/lang/String;Lcom/example/entitlement/entitlement/Expression;)V"⟩ : MethodName)) hown (mvT hZ (hw _ (List.mem_of_getElem? (i := 210) rfl))) (mvT hZ (hw _ (List.mem_of_getElem? (i := 211) rfl))) (notFace_of_selects (args := #[]) (mvT hZ (hw _ (List.mem_of_getElem? (i := 213) rfl)))) (mvT hZ (hw _ (List.mem_of_getElem? (i := 213) rfl))) (mvT hZ (hw _ (List.mem_of_getElem? (i := 212) rfl))) (by decide) (backOf (W := 0) (rmAP l Z a0 hw [] ot mp pr pn tp kp c1 zc T23.heap n0 Zo FPn MPn g_mp lf24_S_pn g_pn c1a c1b CS hzc lf24_X) hZ (hw _ (List.mem_of_getElem? (i := 214) rfl)) (hw _ (List.mem_of_getElem? (i := 115) rfl)) (by decide) (by decide)) q32a q32c (g := (mkF m 123 #[.val (.int ya0), .val (.int ya1), .val (.int ya2), .val (.int ya3), .val (.int sa), .val (.int ap), .val (.ref b1), .val (.ref b5), .val (.ref pn), .val (.ref qy), .val (.ref pr), .val (.ref ar), .val (.ref ot), .val (.int (0 : Int32)), .unset, .unset, .unset, .unset] [(.ref pr), (.ref pn), (.ref ot)])) rfl (by rw [hml]; rfl) (Steps.refl _) (argsL := [(.ref pn), (.ref pr)]) (rest := []) (lenOf pd_30 rfl) rfl (by show 2 * 0 + _ ≤ _; exact Nat.le_of_eq rfl) (hb hby at_123) (fun _ _ => ⟨rfl, eh25, (by decide : 19 + 2 ≤ _), (by decide : 90 + 20 ≤ _)⟩)
        dsimp only [Pt.U, Pt.locs, Pt.cells, Pt.slots] at X32 l32 y32 z32 st32 hQ32
        rw [l32, y32, z32] at X32
        change Stand p l e _ _ m _ below meth c T32 _ 21 110 at X32
        obtain ⟨b, nd, kb, rfl, N32q, K32, szb, szn, HM, SPn⟩ := hQ32
        have N32 := Fr.app N25 N32q
        refine Goes.on (T' := T32) (g' := (mkF m 126 #[.val (.int ya0), .val (.int ya1), .val (.int ya2), .val (.int ya3), .val (.int sa), .val (.int ap), .val (.ref b1), .val (.ref b5), .val (.ref pn), .val (.ref qy), .val (.ref pr), .val (.ref ar), .val (.ref ot), .val (.int (0 : Int32)), .unset, .unset, .unset, .unset] [])) ?_ (fun t => st32.trans)
        have Za : n0 ≤ T32.heap.size := Nat.le_trans Zo K32.1
        have lf33_X := lf24_X.keep K32 (allS g_mp (allS g_pn all0))
        have lf33_S_qy := lf24_S_qy.keep K32 (ninS (Exa.ne lf24_S_qy.exa MPn.E (by decide)) (ninS (Ne.symm ne_s) nin0)) (ninS (Ne.symm (Exa.neArv MPn.E lf24_S_qy.arv (hw _ (List.mem_of_getElem? (i := 121) rfl)))) (ninS (Ne.symm (Exa.neArv lf24_S_pn.exa lf24_S_qy.arv (hw _ (List.mem_of_getElem? (i := 2) rfl)))) nin0))
        have lf33_EX_pr := lf24_EX_pr.keep K32
        have lf33_EX_ar := lf24_EX_ar.keep K32
        have lf33_OE := OEn.keep K32
        have lf33_FR := FRn.keep K32 (ninS (Exa.ne OEn MPn.E (by decide)) (ninS (Exa.ne OEn lf24_S_pn.exa (by decide)) nin0))
        have lf33_FP := FPn.keep K32 (ninS (Exa.ne OEn MPn.E (by decide)) (ninS (Exa.ne OEn lf24_S_pn.exa (by decide)) nin0))
        have lf33_FA := FAn.keep K32 (ninS (Exa.ne OEn MPn.E (by decide)) (ninS (Exa.ne OEn lf24_S_pn.exa (by decide)) nin0))
        have lf33_MR := MRn.keep K32 (ninS mrp (ninS (Exa.ne MRn.E lf24_S_pn.exa (by decide)) nin0))
        refine Goes.on (T' := T32) (g' := (mkF m 128 #[.val (.int ya0), .val (.int ya1), .val (.int ya2), .val (.int ya3), .val (.int sa), .val (.int ap), .val (.ref b1), .val (.ref b5), .val (.ref pn), .val (.ref qy), .val (.ref pr), .val (.ref ar), .val (.ref ot), .val (.int (0 : Int32)), .unset, .unset, .unset, .unset] [(.int sa)])) ?_ (fun t_ k_ => XS.iload X32.here hx rfl (hb hby at_126) rfl k_)
        refine Goes.ifP X32 hx rfl (pc0 := 128) (pc' := 138) rfl (hb hby at_128) rfl (by decide) (by decide) (P := sa = (0 : Int32)) (ifc_eq _ _) (fun hc128 => ?_) (fun hc128 => ?_)
        · show Goes p e below W T32 (mkF m 138 #[.val (.int ya0), .val (.int ya1), .val (.int ya2), .val (.int ya3), .val (.int sa), .val (.int ap), .val (.ref b1), .val (.ref b5), .val (.ref pn), .val (.ref qy), .val (.ref pr), .val (.ref ar), .val (.ref ot), .val (.int (0 : Int32)), .unset, .unset, .unset, .unset] [])
          refine Goes.on (T' := T32) (g' := (mkF m 140 #[.val (.int ya0), .val (.int ya1), .val (.int ya2), .val (.int ya3), .val (.int sa), .val (.int ap), .val (.ref b1), .val (.ref b5), .val (.ref pn), .val (.ref qy), .val (.ref pr), .val (.ref ar), .val (.ref ot), .val (.int (0 : Int32)), .unset, .unset, .unset, .unset] [(.ref ot)])) ?_ (fun t_ k_ => XS.aload X32.here hx rfl (hb hby at_138) rfl rfl k_)
          obtain ⟨cq34, kq34, q34a, q34b, q34c⟩ := isOf hZ rfl lf33_OE
          obtain ⟨_, _, ⟨T34, Lq_34, kq_34, nq_34⟩, -, X34, ⟨Lc34, hQ34, l34, y34, z34⟩, st34⟩ := X32.virtualBack hx (y := (⟨"com/example/entitlement/entitlement/ObjectType", "hasActionPermission", "()Z"⟩ : MethodName)) (z := (⟨"com/example/entitlement/entitlement/ObjectType", "hasActionPermission", "()Z"⟩ : MethodName)) hown (mvT hZ (hw _ (List.mem_of_getElem? (i := 174) rfl))) (mvT hZ (hw _ (List.mem_of_getElem? (i := 175) rfl))) (notFace_of_selects (args := #[]) (mvT hZ (hw _ (List.mem_of_getElem? (i := 177) rfl)))) (mvT hZ (hw _ (List.mem_of_getElem? (i := 177) rfl))) (mvT hZ (hw _ (List.mem_of_getElem? (i := 176) rfl))) (by decide) (backOf (W := 0) (rmN0 l Z a0 hw [] ot T32.heap n0 Za lf33_FA) hZ (hw _ (List.mem_of_getElem? (i := 178) rfl)) (hw _ (List.mem_of_getElem? (i := 115) rfl)) (by decide) (by decide)) q34a q34c (g := (mkF m 140 #[.val (.int ya0), .val (.int ya1), .val (.int ya2), .val (.int ya3), .val (.int sa), .val (.int ap), .val (.ref b1), .val (.ref b5), .val (.ref pn), .val (.ref qy), .val (.ref pr), .val (.ref ar), .val (.ref ot), .val (.int (0 : Int32)), .unset, .unset, .unset, .unset] [(.ref ot)])) rfl (by rw [hml]; rfl) (Steps.refl _) (argsL := []) (rest := []) (lenOf pd_4 rfl) rfl (by show 2 * 0 + _ ≤ _; exact Nat.le_of_eq rfl) (hb hby at_140) (fun _ _ => ⟨rfl, rfl, (by decide : 21 + 0 ≤ _), (by decide : 110 + 0 ≤ _)⟩)
          dsimp only [Pt.U, Pt.locs, Pt.cells, Pt.slots] at X34 l34 y34 z34 st34 hQ34
          rw [l34, y34, z34] at X34
          change Stand p l e _ _ m _ below meth c T34 _ 21 110 at X34
          obtain ⟨rfl, N34q, eh34⟩ := hQ34
          have N34 := Fr.app N32 N34q
          refine Goes.on (T' := T34) (g' := (mkF m 143 #[.val (.int ya0), .val (.int ya1), .val (.int ya2), .val (.int ya3), .val (.int sa), .val (.int ap), .val (.ref b1), .val (.ref b5), .val (.ref pn), .val (.ref qy), .val (.ref pr), .val (.ref ar), .val (.ref ot), .val (.int (0 : Int32)), .unset, .unset, .unset, .unset] [(.int (0 : Int32))])) ?_ (fun t => st34.trans)
          refine Goes.on (T' := T34) (g' := (mkF m 145 #[.val (.int ya0), .val (.int ya1), .val (.int ya2), .val (.int ya3), .val (.int sa), .val (.int ap), .val (.ref b1), .val (.ref b5), .val (.ref pn), .val (.ref qy), .val (.ref pr), .val (.ref ar), .val (.ref ot), .val (.int (0 : Int32)), .val (.int (0 : Int32)), .unset, .unset, .unset] [])) ?_ (fun t_ k_ => XS.istore X34.here hx rfl (hb hby at_143) rfl (l' := #[.val (.int ya0), .val (.int ya1), .val (.int ya2), .val (.int ya3), .val (.int sa), .val (.int ap), .val (.ref b1), .val (.ref b5), .val (.ref pn), .val (.ref qy), .val (.ref pr), .val (.ref ar), .val (.ref ot), .val (.int (0 : Int32)), .val (.int (0 : Int32)), .unset, .unset, .unset]) rfl k_)
          refine Goes.on (T' := T34) (g' := (mkF m 147 #[.val (.int ya0), .val (.int ya1), .val (.int ya2), .val (.int ya3), .val (.int sa), .val (.int ap), .val (.ref b1), .val (.ref b5), .val (.ref pn), .val (.ref qy), .val (.ref pr), .val (.ref ar), .val (.ref ot), .val (.int (0 : Int32)), .val (.int (0 : Int32)), .unset, .unset, .unset] [(.int ap)])) ?_ (fun t_ k_ => XS.iload X34.here hx rfl (hb hby at_145) rfl k_)
          refine Goes.on (T' := T34) (g' := (mkF m 150 #[.val (.int ya0), .val (.int ya1), .val (.int ya2), .val (.int ya3), .val (.int sa), .val (.int ap), .val (.ref b1), .val (.ref b5), .val (.ref pn), .val (.ref qy), .val (.ref pr), .val (.ref ar), .val (.ref ot), .val (.int (0 : Int32)), .val (.int (0 : Int32)), .unset, .unset, .unset] [])) ?_ (fun t_ k_ => XS.ifNo X34.here hx rfl (hb hby at_147) rfl ((if0 _ _).trans (feq hc114).1) k_)
          refine Goes.on (T' := T34) (g' := (mkF m 152 #[.val (.int ya0), .val (.int ya1), .val (.int ya2), .val (.int ya3), .val (.int sa), .val (.int ap), .val (.ref b1), .val (.ref b5), .val (.ref pn), .val (.ref qy), .val (.ref pr), .val (.ref ar), .val (.ref ot), .val (.int (0 : Int32)), .val (.int (0 : Int32)), .unset, .unset, .unset] [(.ref pn)])) ?_ (fun t_ k_ => XS.aload X34.here hx rfl (hb hby at_150) rfl rfl k_)
          refine Goes.on (T' := T34) (g' := (mkF m 154 #[.val (.int ya0), .val (.int ya1), .val (.int ya2), .val (.int ya3), .val (.int sa), .val (.int ap), .val (.ref b1), .val (.ref b5), .val (.ref pn), .val (.ref qy), .val (.ref pr), .val (.ref ar), .val (.ref ot), .val (.int (0 : Int32)), .val (.int (0 : Int32)), .unset, .unset, .unset] [(.ref qy), (.ref pn)])) ?_ (fun t_ k_ => XS.aload X34.here hx rfl (hb hby at_152) rfl rfl k_)
          obtain ⟨cq35, kq35, q35a, q35b, q35c⟩ := isOf hZ eh34 SPn.exa
          obtain ⟨_, _, ⟨T35, Lq_35, kq_35, nq_35⟩, -, X35, ⟨Lc35, hQ35, l35, y35, z35⟩, st35⟩ := X34.virtualBack hx (y := (⟨"java/lang/String", "equals", "(Ljava/lang/Object;)Z"⟩ : MethodName)) (z := (⟨"java/lang/String", "equals", "(Ljava/lang/Object;)Z"⟩ : MethodName)) hown (mvT hZ (hw _ (List.mem_of_getElem? (i := 292) rfl))) (mvT hZ (hw _ (List.mem_of_getElem? (i := 293) rfl))) (notFace_of_selects (args := #[]) (mvT hZ (hw _ (List.mem_of_getElem? (i := 295) rfl)))) (mvT hZ (hw _ (List.mem_of_getElem? (i := 295) rfl))) (mvT hZ (hw _ (List.mem_of_getElem? (i := 294) rfl))) (by decide) (backOf (W := 0) (rmSE l Z a0 hw [] pn qy tp tq kp kq [own_lo c1] [own_lo c2] zc T32.heap n0 Za SPn.1 lf33_S_qy.1 (CS.ext lf33_X.2) hzc) hZ (hw _ (List.mem_of_getElem? (i := 296) rfl)) (hw _ (List.mem_of_getElem? (i := 3) rfl)) (by decide) (by decide)) q35a q35c (g := (mkF m 154 #[.val (.int ya0), .val (.int ya1), .val (.int ya2), .val (.int ya3), .val (.int sa), .val (.int ap), .val (.ref b1), .val (.ref b5), .val (.ref pn), .val (.ref qy), .val (.ref pr), .val (.ref ar), .val (.ref ot), .val (.int (0 : Int32)), .val (.int (0 : Int32)), .unset, .unset, .unset] [(.ref qy), (.ref pn)])) rfl (by rw [hml]; rfl) (Steps.refl _) (argsL := [(.ref qy)]) (rest := []) (lenOf pd_20 rfl) rfl (by show 2 * 0 + _ ≤ _; exact Nat.le_of_eq rfl) (hb hby at_154) (fun _ _ => ⟨rfl, eh34, (by decide : 21 + 0 ≤ _), (by decide : 110 + 0 ≤ _)⟩)
          dsimp only [Pt.U, Pt.locs, Pt.cells, Pt.slots] at X35 l35 y35 z35 st35 hQ35
          rw [l35, y35, z35] at X35
          change Stand p l e _ _ m _ below meth c T35 _ 21 110 at X35
          obtain ⟨rfl, N35q, eh35⟩ := hQ35
          have N35 := Fr.app N34 N35q
          refine Goes.on (T' := T35) (g' := (mkF m 157 #[.val (.int ya0), .val (.int ya1), .val (.int ya2), .val (.int ya3), .val (.int sa), .val (.int ap), .val (.ref b1), .val (.ref b5), .val (.ref pn), .val (.ref qy), .val (.ref pr), .val (.ref ar), .val (.ref ot), .val (.int (0 : Int32)), .val (.int (0 : Int32)), .unset, .unset, .unset] [(.int (if [own_lo c1] = [own_lo c2] then 1 else 0))])) ?_ (fun t => st35.trans)
          by_cases hqk : c2 = c1
          · rw [if_pos (by rw [hqk])]
            refine Goes.on (T' := T35) (g' := (mkF m 160 #[.val (.int ya0), .val (.int ya1), .val (.int ya2), .val (.int ya3), .val (.int sa), .val (.int ap), .val (.ref b1), .val (.ref b5), .val (.ref pn), .val (.ref qy), .val (.ref pr), .val (.ref ar), .val (.ref ot), .val (.int (0 : Int32)), .val (.int (0 : Int32)), .unset, .unset, .unset] [])) ?_ (fun t_ k_ => XS.ifNo X35.here hx rfl (hb hby at_157) rfl (by decide) k_)
            refine Goes.on (T' := T35) (g' := (mkF m 161 #[.val (.int ya0), .val (.int ya1), .val (.int ya2), .val (.int ya3), .val (.int sa), .val (.int ap), .val (.ref b1), .val (.ref b5), .val (.ref pn), .val (.ref qy), .val (.ref pr), .val (.ref ar), .val (.ref ot), .val (.int (0 : Int32)), .val (.int (0 : Int32)), .unset, .unset, .unset] [(.int (1 : Int32))])) ?_ (fun t_ k_ => XS.iconst X35.here hx rfl (hb hby at_160) k_)
            refine Goes.on (T' := T35) (g' := (mkF m 165 #[.val (.int ya0), .val (.int ya1), .val (.int ya2), .val (.int ya3), .val (.int sa), .val (.int ap), .val (.ref b1), .val (.ref b5), .val (.ref pn), .val (.ref qy), .val (.ref pr), .val (.ref ar), .val (.ref ot), .val (.int (0 : Int32)), .val (.int (0 : Int32)), .unset, .unset, .unset] [(.int (1 : Int32))])) ?_ (fun t_ k_ => XS.goto X35.here hx rfl (pc0 := 161) (pc' := 165) rfl (hb hby at_161) (by decide) (by decide) k_)
            refine Goes.on (T' := T35) (g' := (mkF m 167 #[.val (.int ya0), .val (.int ya1), .val (.int ya2), .val (.int ya3), .val (.int sa), .val (.int ap), .val (.ref b1), .val (.ref b5), .val (.ref pn), .val (.ref qy), .val (.ref pr), .val (.ref ar), .val (.ref ot), .val (.int (0 : Int32)), .val (.int (0 : Int32)), .val (.int (1 : Int32)), .unset, .unset] [])) ?_ (fun t_ k_ => XS.istore X35.here hx rfl (hb hby at_165) rfl (l' := #[.val (.int ya0), .val (.int ya1), .val (.int ya2), .val (.int ya3), .val (.int sa), .val (.int ap), .val (.ref b1), .val (.ref b5), .val (.ref pn), .val (.ref qy), .val (.ref pr), .val (.ref ar), .val (.ref ot), .val (.int (0 : Int32)), .val (.int (0 : Int32)), .val (.int (1 : Int32)), .unset, .unset]) rfl k_)
            refine Goes.on (T' := T35) (g' := (mkF m 169 #[.val (.int ya0), .val (.int ya1), .val (.int ya2), .val (.int ya3), .val (.int sa), .val (.int ap), .val (.ref b1), .val (.ref b5), .val (.ref pn), .val (.ref qy), .val (.ref pr), .val (.ref ar), .val (.ref ot), .val (.int (0 : Int32)), .val (.int (0 : Int32)), .val (.int (1 : Int32)), .unset, .unset] [(.ref ot)])) ?_ (fun t_ k_ => XS.aload X35.here hx rfl (hb hby at_167) rfl rfl k_)
            refine Goes.on (T' := T35) (g' := (mkF m 171 #[.val (.int ya0), .val (.int ya1), .val (.int ya2), .val (.int ya3), .val (.int sa), .val (.int ap), .val (.ref b1), .val (.ref b5), .val (.ref pn), .val (.ref qy), .val (.ref pr), .val (.ref ar), .val (.ref ot), .val (.int (0 : Int32)), .val (.int (0 : Int32)), .val (.int (1 : Int32)), .unset, .unset] [(.ref qy), (.ref ot)])) ?_ (fun t_ k_ => XS.aload X35.here hx rfl (hb hby at_169) rfl rfl k_)
            obtain ⟨cq36, kq36, q36a, q36b, q36c⟩ := isOf hZ eh35 lf33_OE
            obtain ⟨_, _, ⟨T36, Lq_36, kq_36, nq_36⟩, -, X36, ⟨Lc36, hQ36, l36, y36, z36⟩, st36⟩ := X35.virtualBack hx (y := (⟨"com/example/entitlement/entitlement/ObjectType", "ruleFor", "(Ljava/lang/String;)Lcom/example/entitlement/entitlement/Expression;"⟩ : MethodName)) (z := (⟨"com/example/entitlement/entitlement/ObjectType", "ruleFor", "(Ljava/lang/String;)Lcom/example/entitlement/entitlement/Expression;"⟩ : MethodName)) hown (mvT hZ (hw _ (List.mem_of_getElem? (i := 181) rfl))) (mvT hZ (hw _ (List.mem_of_getElem? (i := 182) rfl))) (notFace_of_selects (args := #[]) (mvT hZ (hw _ (List.mem_of_getElem? (i := 184) rfl)))) (mvT hZ (hw _ (List.mem_of_getElem? (i := 184) rfl))) (mvT hZ (hw _ (List.mem_of_getElem? (i := 183) rfl))) (by decide) (backOf (W := 0) (rmR1 l Z a0 hw [] ot mr .null mp b nd pr kb pn tp kp c1 qy tq kq c2 zc T32.heap n0 Za lf33_FR lf33_FP lf33_FA rfl lf33_MR HM SPn c1a c1b ne_s lf33_S_qy g_qy c2a c2b CS hzc lf33_X lf33_EX_pr lf33_OE) hZ (hw _ (List.mem_of_getElem? (i := 185) rfl)) (hw _ (List.mem_of_getElem? (i := 115) rfl)) (by decide) (by decide)) q36a q36c (g := (mkF m 171 #[.val (.int ya0), .val (.int ya1), .val (.int ya2), .val (.int ya3), .val (.int sa), .val (.int ap), .val (.ref b1), .val (.ref b5), .val (.ref pn), .val (.ref qy), .val (.ref pr), .val (.ref ar), .val (.ref ot), .val (.int (0 : Int32)), .val (.int (0 : Int32)), .val (.int (1 : Int32)), .unset, .unset] [(.ref qy), (.ref ot)])) rfl (by rw [hml]; rfl) (Steps.refl _) (argsL := [(.ref qy)]) (rest := []) (lenOf pd_28 rfl) rfl (by show 2 * 0 + _ ≤ _; exact Nat.le_of_eq rfl) (hb hby at_171) (fun _ _ => ⟨rfl, eh35, (by decide : 21 + 0 ≤ _), (by decide : 110 + 0 ≤ _)⟩)
            dsimp only [Pt.U, Pt.locs, Pt.cells, Pt.slots] at X36 l36 y36 z36 st36 hQ36
            rw [l36, y36, z36] at X36
            change Stand p l e _ _ m _ below meth c T36 _ 21 110 at X36
            obtain ⟨rfl, N36q⟩ := hQ36
            have N36 := Fr.app N35 N36q
            refine Goes.on (T' := T36) (g' := (mkF m 174 #[.val (.int ya0), .val (.int ya1), .val (.int ya2), .val (.int ya3), .val (.int sa), .val (.int ap), .val (.ref b1), .val (.ref b5), .val (.ref pn), .val (.ref qy), .val (.ref pr), .val (.ref ar), .val (.ref ot), .val (.int (0 : Int32)), .val (.int (0 : Int32)), .val (.int (1 : Int32)), .unset, .unset] [(if c2 = c1 then Value.ref pr else .null)])) ?_ (fun t => st36.trans)
            rw [if_pos hqk]
            refine Goes.on (T' := T36) (g' := (mkF m 176 #[.val (.int ya0), .val (.int ya1), .val (.int ya2), .val (.int ya3), .val (.int sa), .val (.int ap), .val (.ref b1), .val (.ref b5), .val (.ref pn), .val (.ref qy), .val (.ref pr), .val (.ref ar), .val (.ref ot), .val (.int (0 : Int32)), .val (.int (0 : Int32)), .val (.int (1 : Int32)), .val (.ref pr), .unset] [])) ?_ (fun t_ k_ => XS.astore X36.here hx rfl (hb hby at_174) rfl rfl (l' := #[.val (.int ya0), .val (.int ya1), .val (.int ya2), .val (.int ya3), .val (.int sa), .val (.int ap), .val (.ref b1), .val (.ref b5), .val (.ref pn), .val (.ref qy), .val (.ref pr), .val (.ref ar), .val (.ref ot), .val (.int (0 : Int32)), .val (.int (0 : Int32)), .val (.int (1 : Int32)), .val (.ref pr), .unset]) rfl k_)
            refine Goes.on (T' := T36) (g' := (mkF m 178 #[.val (.int ya0), .val (.int ya1), .val (.int ya2), .val (.int ya3), .val (.int sa), .val (.int ap), .val (.ref b1), .val (.ref b5), .val (.ref pn), .val (.ref qy), .val (.ref pr), .val (.ref ar), .val (.ref ot), .val (.int (0 : Int32)), .val (.int (0 : Int32)), .val (.int (1 : Int32)), .val (.ref pr), .unset] [(.int (1 : Int32))])) ?_ (fun t_ k_ => XS.iload X36.here hx rfl (hb hby at_176) rfl k_)
            refine Goes.on (T' := T36) (g' := (mkF m 181 #[.val (.int ya0), .val (.int ya1), .val (.int ya2), .val (.int ya3), .val (.int sa), .val (.int ap), .val (.ref b1), .val (.ref b5), .val (.ref pn), .val (.ref qy), .val (.ref pr), .val (.ref ar), .val (.ref ot), .val (.int (0 : Int32)), .val (.int (0 : Int32)), .val (.int (1 : Int32)), .val (.ref pr), .unset] [])) ?_ (fun t_ k_ => XS.ifNo X36.here hx rfl (hb hby at_178) rfl (by decide) k_)
            refine Goes.on (T' := T36) (g' := (mkF m 183 #[.val (.int ya0), .val (.int ya1), .val (.int ya2), .val (.int ya3), .val (.int sa), .val (.int ap), .val (.ref b1), .val (.ref b5), .val (.ref pn), .val (.ref qy), .val (.ref pr), .val (.ref ar), .val (.ref ot), .val (.int (0 : Int32)), .val (.int (0 : Int32)), .val (.int (1 : Int32)), .val (.ref pr), .unset] [(.ref pr)])) ?_ (fun t_ k_ => XS.aload X36.here hx rfl (hb hby at_181) rfl rfl k_)
            refine Goes.on (T' := T36) (g' := (mkF m 185 #[.val (.int ya0), .val (.int ya1), .val (.int ya2), .val (.int ya3), .val (.int sa), .val (.int ap), .val (.ref b1), .val (.ref b5), .val (.ref pn), .val (.ref qy), .val (.ref pr), .val (.ref ar), .val (.ref ot), .val (.int (0 : Int32)), .val (.int (0 : Int32)), .val (.int (1 : Int32)), .val (.ref pr), .unset] [(.ref pr), (.ref pr)])) ?_ (fun t_ k_ => XS.aload X36.here hx rfl (hb hby at_183) rfl rfl k_)
            refine Goes.on (T' := T36) (g' := (mkF m 188 #[.val (.int ya0), .val (.int ya1), .val (.int ya2), .val (.int ya3), .val (.int sa), .val (.int ap), .val (.ref b1), .val (.ref b5), .val (.ref pn), .val (.ref qy), .val (.ref pr), .val (.ref ar), .val (.ref ot), .val (.int (0 : Int32)), .val (.int (0 : Int32)), .val (.int (1 : Int32)), .val (.ref pr), .unset] [])) ?_ (fun t_ k_ => Jvm.RoadKit.acmp X36 hx rfl rfl rfl (pc0 := 185) (pc' := 188) (same := true) rfl (hb hby at_185) rfl (decide_eq_true (congrArg Value.ref rfl)) (by decide) (by decide) k_)
            refine Goes.on (T' := T36) (g' := (mkF m 189 #[.val (.int ya0), .val (.int ya1), .val (.int ya2), .val (.int ya3), .val (.int sa), .val (.int ap), .val (.ref b1), .val (.ref b5), .val (.ref pn), .val (.ref qy), .val (.ref pr), .val (.ref ar), .val (.ref ot), .val (.int (0 : Int32)), .val (.int (0 : Int32)), .val (.int (1 : Int32)), .val (.ref pr), .unset] [(.int (1 : Int32))])) ?_ (fun t_ k_ => XS.iconst X36.here hx rfl (hb hby at_188) k_)
            refine Goes.on (T' := T36) (g' := (mkF m 193 #[.val (.int ya0), .val (.int ya1), .val (.int ya2), .val (.int ya3), .val (.int sa), .val (.int ap), .val (.ref b1), .val (.ref b5), .val (.ref pn), .val (.ref qy), .val (.ref pr), .val (.ref ar), .val (.ref ot), .val (.int (0 : Int32)), .val (.int (0 : Int32)), .val (.int (1 : Int32)), .val (.ref pr), .unset] [(.int (1 : Int32))])) ?_ (fun t_ k_ => XS.goto X36.here hx rfl (pc0 := 189) (pc' := 193) rfl (hb hby at_189) (by decide) (by decide) k_)
            refine Goes.on (T' := T36) (g' := (mkF m 195 #[.val (.int ya0), .val (.int ya1), .val (.int ya2), .val (.int ya3), .val (.int sa), .val (.int ap), .val (.ref b1), .val (.ref b5), .val (.ref pn), .val (.ref qy), .val (.ref pr), .val (.ref ar), .val (.ref ot), .val (.int (0 : Int32)), .val (.int (0 : Int32)), .val (.int (1 : Int32)), .val (.ref pr), .val (.int (1 : Int32))] [])) ?_ (fun t_ k_ => XS.istore X36.here hx rfl (hb hby at_193) rfl (l' := #[.val (.int ya0), .val (.int ya1), .val (.int ya2), .val (.int ya3), .val (.int sa), .val (.int ap), .val (.ref b1), .val (.ref b5), .val (.ref pn), .val (.ref qy), .val (.ref pr), .val (.ref ar), .val (.ref ot), .val (.int (0 : Int32)), .val (.int (0 : Int32)), .val (.int (1 : Int32)), .val (.ref pr), .val (.int (1 : Int32))]) rfl k_)
            refine Goes.on (T' := T36) (g' := (mkF m 232 #[.val (.int ya0), .val (.int ya1), .val (.int ya2), .val (.int ya3), .val (.int sa), .val (.int ap), .val (.ref b1), .val (.ref b5), .val (.ref pn), .val (.ref qy), .val (.ref pr), .val (.ref ar), .val (.ref ot), .val (.int (0 : Int32)), .val (.int (0 : Int32)), .val (.int (1 : Int32)), .val (.ref pr), .val (.int (1 : Int32))] [])) ?_ (fun t_ k_ => XS.goto X36.here hx rfl (pc0 := 195) (pc' := 232) rfl (hb hby at_195) (by decide) (by decide) k_)
            refine Goes.on (T' := T36) (g' := (mkF m 234 #[.val (.int ya0), .val (.int ya1), .val (.int ya2), .val (.int ya3), .val (.int sa), .val (.int ap), .val (.ref b1), .val (.ref b5), .val (.ref pn), .val (.ref qy), .val (.ref pr), .val (.ref ar), .val (.ref ot), .val (.int (0 : Int32)), .val (.int (0 : Int32)), .val (.int (1 : Int32)), .val (.ref pr), .val (.int (1 : Int32))] [(.int (0 : Int32))])) ?_ (fun t_ k_ => XS.iload X36.here hx rfl (hb hby at_232) rfl k_)
            refine Goes.on (T' := T36) (g' := (mkF m 237 #[.val (.int ya0), .val (.int ya1), .val (.int ya2), .val (.int ya3), .val (.int sa), .val (.int ap), .val (.ref b1), .val (.ref b5), .val (.ref pn), .val (.ref qy), .val (.ref pr), .val (.ref ar), .val (.ref ot), .val (.int (0 : Int32)), .val (.int (0 : Int32)), .val (.int (1 : Int32)), .val (.ref pr), .val (.int (1 : Int32))] [])) ?_ (fun t_ k_ => XS.ifNo X36.here hx rfl (hb hby at_234) rfl (by decide) k_)
            refine Goes.on (T' := T36) (g' := (mkF m 239 #[.val (.int ya0), .val (.int ya1), .val (.int ya2), .val (.int ya3), .val (.int sa), .val (.int ap), .val (.ref b1), .val (.ref b5), .val (.ref pn), .val (.ref qy), .val (.ref pr), .val (.ref ar), .val (.ref ot), .val (.int (0 : Int32)), .val (.int (0 : Int32)), .val (.int (1 : Int32)), .val (.ref pr), .val (.int (1 : Int32))] [(.int (0 : Int32))])) ?_ (fun t_ k_ => XS.iload X36.here hx rfl (hb hby at_237) rfl k_)
            refine Goes.on (T' := T36) (g' := (mkF m 241 #[.val (.int ya0), .val (.int ya1), .val (.int ya2), .val (.int ya3), .val (.int sa), .val (.int ap), .val (.ref b1), .val (.ref b5), .val (.ref pn), .val (.ref qy), .val (.ref pr), .val (.ref ar), .val (.ref ot), .val (.int (0 : Int32)), .val (.int (0 : Int32)), .val (.int (1 : Int32)), .val (.ref pr), .val (.int (1 : Int32))] [(.int sa), (.int (0 : Int32))])) ?_ (fun t_ k_ => XS.iload X36.here hx rfl (hb hby at_239) rfl k_)
            refine Goes.on (T' := T36) (g' := (mkF m 244 #[.val (.int ya0), .val (.int ya1), .val (.int ya2), .val (.int ya3), .val (.int sa), .val (.int ap), .val (.ref b1), .val (.ref b5), .val (.ref pn), .val (.ref qy), .val (.ref pr), .val (.ref ar), .val (.ref ot), .val (.int (0 : Int32)), .val (.int (0 : Int32)), .val (.int (1 : Int32)), .val (.ref pr), .val (.int (1 : Int32))] [])) ?_ (fun t_ k_ => XS.icmpNo X36.here hx rfl (hb hby at_241) rfl (teq hc128.symm).2 k_)
            refine Goes.on (T' := T36) (g' := (mkF m 246 #[.val (.int ya0), .val (.int ya1), .val (.int ya2), .val (.int ya3), .val (.int sa), .val (.int ap), .val (.ref b1), .val (.ref b5), .val (.ref pn), .val (.ref qy), .val (.ref pr), .val (.ref ar), .val (.ref ot), .val (.int (0 : Int32)), .val (.int (0 : Int32)), .val (.int (1 : Int32)), .val (.ref pr), .val (.int (1 : Int32))] [(.int (1 : Int32))])) ?_ (fun t_ k_ => XS.iload X36.here hx rfl (hb hby at_244) rfl k_)
            refine Goes.on (T' := T36) (g' := (mkF m 249 #[.val (.int ya0), .val (.int ya1), .val (.int ya2), .val (.int ya3), .val (.int sa), .val (.int ap), .val (.ref b1), .val (.ref b5), .val (.ref pn), .val (.ref qy), .val (.ref pr), .val (.ref ar), .val (.ref ot), .val (.int (0 : Int32)), .val (.int (0 : Int32)), .val (.int (1 : Int32)), .val (.ref pr), .val (.int (1 : Int32))] [])) ?_ (fun t_ k_ => XS.ifNo X36.here hx rfl (hb hby at_246) rfl (by decide) k_)
            refine Goes.on (T' := T36) (g' := (mkF m 250 #[.val (.int ya0), .val (.int ya1), .val (.int ya2), .val (.int ya3), .val (.int sa), .val (.int ap), .val (.ref b1), .val (.ref b5), .val (.ref pn), .val (.ref qy), .val (.ref pr), .val (.ref ar), .val (.ref ot), .val (.int (0 : Int32)), .val (.int (0 : Int32)), .val (.int (1 : Int32)), .val (.ref pr), .val (.int (1 : Int32))] [(.int (1 : Int32))])) ?_ (fun t_ k_ => XS.iconst X36.here hx rfl (hb hby at_249) k_)
            refine Goes.on (T' := T36) (g' := (mkF m 254 #[.val (.int ya0), .val (.int ya1), .val (.int ya2), .val (.int ya3), .val (.int sa), .val (.int ap), .val (.ref b1), .val (.ref b5), .val (.ref pn), .val (.ref qy), .val (.ref pr), .val (.ref ar), .val (.ref ot), .val (.int (0 : Int32)), .val (.int (0 : Int32)), .val (.int (1 : Int32)), .val (.ref pr), .val (.int (1 : Int32))] [(.int (1 : Int32))])) ?_ (fun t_ k_ => XS.goto X36.here hx rfl (pc0 := 250) (pc' := 254) rfl (hb hby at_250) (by decide) (by decide) k_)
            rw [hWd]
            exact Goes.retn X36 (v := some (.int (nar .boolean (1 : Int32)))) (fun fs hr => retN X36 hx (t := .boolean) Bd.returns (by simp) (hb hby at_254) hr) (fun h => by rw [Bd.returns] at h; cases h) Bd.notSynchronized (by decide) (by decide) ⟨rfl, N36⟩
          · rw [if_neg (by rw [own_lo1 c1a c1b c2a c2b]; exact fun q => hqk q.symm)]
            refine Goes.on (T' := T35) (g' := (mkF m 164 #[.val (.int ya0), .val (.int ya1), .val (.int ya2), .val (.int ya3), .val (.int sa), .val (.int ap), .val (.ref b1), .val (.ref b5), .val (.ref pn), .val (.ref qy), .val (.ref pr), .val (.ref ar), .val (.ref ot), .val (.int (0 : Int32)), .val (.int (0 : Int32)), .unset, .unset, .unset] [])) ?_ (fun t_ k_ => XS.ifYes X35.here hx rfl (pc0 := 157) (pc' := 164) rfl (hb hby at_157) rfl (by decide) (by decide) (by decide) k_)
            refine Goes.on (T' := T35) (g' := (mkF m 165 #[.val (.int ya0), .val (.int ya1), .val (.int ya2), .val (.int ya3), .val (.int sa), .val (.int ap), .val (.ref b1), .val (.ref b5), .val (.ref pn), .val (.ref qy), .val (.ref pr), .val (.ref ar), .val (.ref ot), .val (.int (0 : Int32)), .val (.int (0 : Int32)), .unset, .unset, .unset] [(.int (0 : Int32))])) ?_ (fun t_ k_ => XS.iconst X35.here hx rfl (hb hby at_164) k_)
            refine Goes.on (T' := T35) (g' := (mkF m 167 #[.val (.int ya0), .val (.int ya1), .val (.int ya2), .val (.int ya3), .val (.int sa), .val (.int ap), .val (.ref b1), .val (.ref b5), .val (.ref pn), .val (.ref qy), .val (.ref pr), .val (.ref ar), .val (.ref ot), .val (.int (0 : Int32)), .val (.int (0 : Int32)), .val (.int (0 : Int32)), .unset, .unset] [])) ?_ (fun t_ k_ => XS.istore X35.here hx rfl (hb hby at_165) rfl (l' := #[.val (.int ya0), .val (.int ya1), .val (.int ya2), .val (.int ya3), .val (.int sa), .val (.int ap), .val (.ref b1), .val (.ref b5), .val (.ref pn), .val (.ref qy), .val (.ref pr), .val (.ref ar), .val (.ref ot), .val (.int (0 : Int32)), .val (.int (0 : Int32)), .val (.int (0 : Int32)), .unset, .unset]) rfl k_)
            refine Goes.on (T' := T35) (g' := (mkF m 169 #[.val (.int ya0), .val (.int ya1), .val (.int ya2), .val (.int ya3), .val (.int sa), .val (.int ap), .val (.ref b1), .val (.ref b5), .val (.ref pn), .val (.ref qy), .val (.ref pr), .val (.ref ar), .val (.ref ot), .val (.int (0 : Int32)), .val (.int (0 : Int32)), .val (.int (0 : Int32)), .unset, .unset] [(.ref ot)])) ?_ (fun t_ k_ => XS.aload X35.here hx rfl (hb hby at_167) rfl rfl k_)
            refine Goes.on (T' := T35) (g' := (mkF m 171 #[.val (.int ya0), .val (.int ya1), .val (.int ya2), .val (.int ya3), .val (.int sa), .val (.int ap), .val (.ref b1), .val (.ref b5), .val (.ref pn), .val (.ref qy), .val (.ref pr), .val (.ref ar), .val (.ref ot), .val (.int (0 : Int32)), .val (.int (0 : Int32)), .val (.int (0 : Int32)), .unset, .unset] [(.ref qy), (.ref ot)])) ?_ (fun t_ k_ => XS.aload X35.here hx rfl (hb hby at_169) rfl rfl k_)
            obtain ⟨cq37, kq37, q37a, q37b, q37c⟩ := isOf hZ eh35 lf33_OE
            obtain ⟨_, _, ⟨T37, Lq_37, kq_37, nq_37⟩, -, X37, ⟨Lc37, hQ37, l37, y37, z37⟩, st37⟩ := X35.virtualBack hx (y := (⟨"com/example/entitlement/entitlement/ObjectType", "ruleFor", "(Ljava/lang/String;)Lcom/example/entitlement/entitlement/Expression;"⟩ : MethodName)) (z := (⟨"com/example/entitlement/entitlement/ObjectType", "ruleFor", "(Ljava/lang/String;)Lcom/example/entitlement/entitlement/Expression;"⟩ : MethodName)) hown (mvT hZ (hw _ (List.mem_of_getElem? (i := 181) rfl))) (mvT hZ (hw _ (List.mem_of_getElem? (i := 182) rfl))) (notFace_of_selects (args := #[]) (mvT hZ (hw _ (List.mem_of_getElem? (i := 184) rfl)))) (mvT hZ (hw _ (List.mem_of_getElem? (i := 184) rfl))) (mvT hZ (hw _ (List.mem_of_getElem? (i := 183) rfl))) (by decide) (backOf (W := 0) (rmR1 l Z a0 hw [] ot mr .null mp b nd pr kb pn tp kp c1 qy tq kq c2 zc T32.heap n0 Za lf33_FR lf33_FP lf33_FA rfl lf33_MR HM SPn c1a c1b ne_s lf33_S_qy g_qy c2a c2b CS hzc lf33_X lf33_EX_pr lf33_OE) hZ (hw _ (List.mem_of_getElem? (i := 185) rfl)) (hw _ (List.mem_of_getElem? (i := 115) rfl)) (by decide) (by decide)) q37a q37c (g := (mkF m 171 #[.val (.int ya0), .val (.int ya1), .val (.int ya2), .val (.int ya3), .val (.int sa), .val (.int ap), .val (.ref b1), .val (.ref b5), .val (.ref pn), .val (.ref qy), .val (.ref pr), .val (.ref ar), .val (.ref ot), .val (.int (0 : Int32)), .val (.int (0 : Int32)), .val (.int (0 : Int32)), .unset, .unset] [(.ref qy), (.ref ot)])) rfl (by rw [hml]; rfl) (Steps.refl _) (argsL := [(.ref qy)]) (rest := []) (lenOf pd_28 rfl) rfl (by show 2 * 0 + _ ≤ _; exact Nat.le_of_eq rfl) (hb hby at_171) (fun _ _ => ⟨rfl, eh35, (by decide : 21 + 0 ≤ _), (by decide : 110 + 0 ≤ _)⟩)
            dsimp only [Pt.U, Pt.locs, Pt.cells, Pt.slots] at X37 l37 y37 z37 st37 hQ37
            rw [l37, y37, z37] at X37
            change Stand p l e _ _ m _ below meth c T37 _ 21 110 at X37
            obtain ⟨rfl, N37q⟩ := hQ37
            have N37 := Fr.app N35 N37q
            refine Goes.on (T' := T37) (g' := (mkF m 174 #[.val (.int ya0), .val (.int ya1), .val (.int ya2), .val (.int ya3), .val (.int sa), .val (.int ap), .val (.ref b1), .val (.ref b5), .val (.ref pn), .val (.ref qy), .val (.ref pr), .val (.ref ar), .val (.ref ot), .val (.int (0 : Int32)), .val (.int (0 : Int32)), .val (.int (0 : Int32)), .unset, .unset] [(if c2 = c1 then Value.ref pr else .null)])) ?_ (fun t => st37.trans)
            rw [if_neg hqk]
            refine Goes.on (T' := T37) (g' := (mkF m 176 #[.val (.int ya0), .val (.int ya1), .val (.int ya2), .val (.int ya3), .val (.int sa), .val (.int ap), .val (.ref b1), .val (.ref b5), .val (.ref pn), .val (.ref qy), .val (.ref pr), .val (.ref ar), .val (.ref ot), .val (.int (0 : Int32)), .val (.int (0 : Int32)), .val (.int (0 : Int32)), .val .null, .unset] [])) ?_ (fun t_ k_ => XS.astore X37.here hx rfl (hb hby at_174) rfl rfl (l' := #[.val (.int ya0), .val (.int ya1), .val (.int ya2), .val (.int ya3), .val (.int sa), .val (.int ap), .val (.ref b1), .val (.ref b5), .val (.ref pn), .val (.ref qy), .val (.ref pr), .val (.ref ar), .val (.ref ot), .val (.int (0 : Int32)), .val (.int (0 : Int32)), .val (.int (0 : Int32)), .val .null, .unset]) rfl k_)
            refine Goes.on (T' := T37) (g' := (mkF m 178 #[.val (.int ya0), .val (.int ya1), .val (.int ya2), .val (.int ya3), .val (.int sa), .val (.int ap), .val (.ref b1), .val (.ref b5), .val (.ref pn), .val (.ref qy), .val (.ref pr), .val (.ref ar), .val (.ref ot), .val (.int (0 : Int32)), .val (.int (0 : Int32)), .val (.int (0 : Int32)), .val .null, .unset] [(.int (0 : Int32))])) ?_ (fun t_ k_ => XS.iload X37.here hx rfl (hb hby at_176) rfl k_)
            refine Goes.on (T' := T37) (g' := (mkF m 198 #[.val (.int ya0), .val (.int ya1), .val (.int ya2), .val (.int ya3), .val (.int sa), .val (.int ap), .val (.ref b1), .val (.ref b5), .val (.ref pn), .val (.ref qy), .val (.ref pr), .val (.ref ar), .val (.ref ot), .val (.int (0 : Int32)), .val (.int (0 : Int32)), .val (.int (0 : Int32)), .val .null, .unset] [])) ?_ (fun t_ k_ => XS.ifYes X37.here hx rfl (pc0 := 178) (pc' := 198) rfl (hb hby at_178) rfl (by decide) (by decide) (by decide) k_)
            refine Goes.on (T' := T37) (g' := (mkF m 200 #[.val (.int ya0), .val (.int ya1), .val (.int ya2), .val (.int ya3), .val (.int sa), .val (.int ap), .val (.ref b1), .val (.ref b5), .val (.ref pn), .val (.ref qy), .val (.ref pr), .val (.ref ar), .val (.ref ot), .val (.int (0 : Int32)), .val (.int (0 : Int32)), .val (.int (0 : Int32)), .val .null, .unset] [(.int sa)])) ?_ (fun t_ k_ => XS.iload X37.here hx rfl (hb hby at_198) rfl k_)
            refine Goes.on (T' := T37) (g' := (mkF m 220 #[.val (.int ya0), .val (.int ya1), .val (.int ya2), .val (.int ya3), .val (.int sa), .val (.int ap), .val (.ref b1), .val (.ref b5), .val (.ref pn), .val (.ref qy), .val (.ref pr), .val (.ref ar), .val (.ref ot), .val (.int (0 : Int32)), .val (.int (0 : Int32)), .val (.int (0 : Int32)), .val .null, .unset] [])) ?_ (fun t_ k_ => XS.ifYes X37.here hx rfl (pc0 := 200) (pc' := 220) rfl (hb hby at_200) rfl ((if0 _ _).trans (teq hc128).1) (by decide) (by decide) k_)
            refine Goes.on (T' := T37) (g' := (mkF m 222 #[.val (.int ya0), .val (.int ya1), .val (.int ya2), .val (.int ya3), .val (.int sa), .val (.int ap), .val (.ref b1), .val (.ref b5), .val (.ref pn), .val (.ref qy), .val (.ref pr), .val (.ref ar), .val (.ref ot), .val (.int (0 : Int32)), .val (.int (0 : Int32)), .val (.int (0 : Int32)), .val .null, .unset] [.null])) ?_ (fun t_ k_ => XS.aload X37.here hx rfl (hb hby at_220) rfl rfl k_)
            refine Goes.on (T' := T37) (g' := (mkF m 225 #[.val (.int ya0), .val (.int ya1), .val (.int ya2), .val (.int ya3), .val (.int sa), .val (.int ap), .val (.ref b1), .val (.ref b5), .val (.ref pn), .val (.ref qy), .val (.ref pr), .val (.ref ar), .val (.ref ot), .val (.int (0 : Int32)), .val (.int (0 : Int32)), .val (.int (0 : Int32)), .val .null, .unset] [])) ?_ (fun t_ k_ => XS.ifnonnullNo X37.here hx rfl (hb hby at_222) rfl k_)
            refine Goes.on (T' := T37) (g' := (mkF m 226 #[.val (.int ya0), .val (.int ya1), .val (.int ya2), .val (.int ya3), .val (.int sa), .val (.int ap), .val (.ref b1), .val (.ref b5), .val (.ref pn), .val (.ref qy), .val (.ref pr), .val (.ref ar), .val (.ref ot), .val (.int (0 : Int32)), .val (.int (0 : Int32)), .val (.int (0 : Int32)), .val .null, .unset] [(.int (1 : Int32))])) ?_ (fun t_ k_ => XS.iconst X37.here hx rfl (hb hby at_225) k_)
            refine Goes.on (T' := T37) (g' := (mkF m 230 #[.val (.int ya0), .val (.int ya1), .val (.int ya2), .val (.int ya3), .val (.int sa), .val (.int ap), .val (.ref b1), .val (.ref b5), .val (.ref pn), .val (.ref qy), .val (.ref pr), .val (.ref ar), .val (.ref ot), .val (.int (0 : Int32)), .val (.int (0 : Int32)), .val (.int (0 : Int32)), .val .null, .unset] [(.int (1 : Int32))])) ?_ (fun t_ k_ => XS.goto X37.here hx rfl (pc0 := 226) (pc' := 230) rfl (hb hby at_226) (by decide) (by decide) k_)
            refine Goes.on (T' := T37) (g' := (mkF m 232 #[.val (.int ya0), .val (.int ya1), .val (.int ya2), .val (.int ya3), .val (.int sa), .val (.int ap), .val (.ref b1), .val (.ref b5), .val (.ref pn), .val (.ref qy), .val (.ref pr), .val (.ref ar), .val (.ref ot), .val (.int (0 : Int32)), .val (.int (0 : Int32)), .val (.int (0 : Int32)), .val .null, .val (.int (1 : Int32))] [])) ?_ (fun t_ k_ => XS.istore X37.here hx rfl (hb hby at_230) rfl (l' := #[.val (.int ya0), .val (.int ya1), .val (.int ya2), .val (.int ya3), .val (.int sa), .val (.int ap), .val (.ref b1), .val (.ref b5), .val (.ref pn), .val (.ref qy), .val (.ref pr), .val (.ref ar), .val (.ref ot), .val (.int (0 : Int32)), .val (.int (0 : Int32)), .val (.int (0 : Int32)), .val .null, .val (.int (1 : Int32))]) rfl k_)
            refine Goes.on (T' := T37) (g' := (mkF m 234 #[.val (.int ya0), .val (.int ya1), .val (.int ya2), .val (.int ya3), .val (.int sa), .val (.int ap), .val (.ref b1), .val (.ref b5), .val (.ref pn), .val (.ref qy), .val (.ref pr), .val (.ref ar), .val (.ref ot), .val (.int (0 : Int32)), .val (.int (0 : Int32)), .val (.int (0 : Int32)), .val .null, .val (.int (1 : Int32))] [(.int (0 : Int32))])) ?_ (fun t_ k_ => XS.iload X37.here hx rfl (hb hby at_232) rfl k_)
            refine Goes.on (T' := T37) (g' := (mkF m 237 #[.val (.int ya0), .val (.int ya1), .val (.int ya2), .val (.int ya3), .val (.int sa), .val (.int ap), .val (.ref b1), .val (.ref b5), .val (.ref pn), .val (.ref qy), .val (.ref pr), .val (.ref ar), .val (.ref ot), .val (.int (0 : Int32)), .val (.int (0 : Int32)), .val (.int (0 : Int32)), .val .null, .val (.int (1 : Int32))] [])) ?_ (fun t_ k_ => XS.ifNo X37.here hx rfl (hb hby at_234) rfl (by decide) k_)
            refine Goes.on (T' := T37) (g' := (mkF m 239 #[.val (.int ya0), .val (.int ya1), .val (.int ya2), .val (.int ya3), .val (.int sa), .val (.int ap), .val (.ref b1), .val (.ref b5), .val (.ref pn), .val (.ref qy), .val (.ref pr), .val (.ref ar), .val (.ref ot), .val (.int (0 : Int32)), .val (.int (0 : Int32)), .val (.int (0 : Int32)), .val .null, .val (.int (1 : Int32))] [(.int (0 : Int32))])) ?_ (fun t_ k_ => XS.iload X37.here hx rfl (hb hby at_237) rfl k_)
            refine Goes.on (T' := T37) (g' := (mkF m 241 #[.val (.int ya0), .val (.int ya1), .val (.int ya2), .val (.int ya3), .val (.int sa), .val (.int ap), .val (.ref b1), .val (.ref b5), .val (.ref pn), .val (.ref qy), .val (.ref pr), .val (.ref ar), .val (.ref ot), .val (.int (0 : Int32)), .val (.int (0 : Int32)), .val (.int (0 : Int32)), .val .null, .val (.int (1 : Int32))] [(.int sa), (.int (0 : Int32))])) ?_ (fun t_ k_ => XS.iload X37.here hx rfl (hb hby at_239) rfl k_)
            refine Goes.on (T' := T37) (g' := (mkF m 244 #[.val (.int ya0), .val (.int ya1), .val (.int ya2), .val (.int ya3), .val (.int sa), .val (.int ap), .val (.ref b1), .val (.ref b5), .val (.ref pn), .val (.ref qy), .val (.ref pr), .val (.ref ar), .val (.ref ot), .val (.int (0 : Int32)), .val (.int (0 : Int32)), .val (.int (0 : Int32)), .val .null, .val (.int (1 : Int32))] [])) ?_ (fun t_ k_ => XS.icmpNo X37.here hx rfl (hb hby at_241) rfl (teq hc128.symm).2 k_)
            refine Goes.on (T' := T37) (g' := (mkF m 246 #[.val (.int ya0), .val (.int ya1), .val (.int ya2), .val (.int ya3), .val (.int sa), .val (.int ap), .val (.ref b1), .val (.ref b5), .val (.ref pn), .val (.ref qy), .val (.ref pr), .val (.ref ar), .val (.ref ot), .val (.int (0 : Int32)), .val (.int (0 : Int32)), .val (.int (0 : Int32)), .val .null, .val (.int (1 : Int32))] [(.int (1 : Int32))])) ?_ (fun t_ k_ => XS.iload X37.here hx rfl (hb hby at_244) rfl k_)
            refine Goes.on (T' := T37) (g' := (mkF m 249 #[.val (.int ya0), .val (.int ya1), .val (.int ya2), .val (.int ya3), .val (.int sa), .val (.int ap), .val (.ref b1), .val (.ref b5), .val (.ref pn), .val (.ref qy), .val (.ref pr), .val (.ref ar), .val (.ref ot), .val (.int (0 : Int32)), .val (.int (0 : Int32)), .val (.int (0 : Int32)), .val .null, .val (.int (1 : Int32))] [])) ?_ (fun t_ k_ => XS.ifNo X37.here hx rfl (hb hby at_246) rfl (by decide) k_)
            refine Goes.on (T' := T37) (g' := (mkF m 250 #[.val (.int ya0), .val (.int ya1), .val (.int ya2), .val (.int ya3), .val (.int sa), .val (.int ap), .val (.ref b1), .val (.ref b5), .val (.ref pn), .val (.ref qy), .val (.ref pr), .val (.ref ar), .val (.ref ot), .val (.int (0 : Int32)), .val (.int (0 : Int32)), .val (.int (0 : Int32)), .val .null, .val (.int (1 : Int32))] [(.int (1 : Int32))])) ?_ (fun t_ k_ => XS.iconst X37.here hx rfl (hb hby at_249) k_)
            refine Goes.on (T' := T37) (g' := (mkF m 254 #[.val (.int ya0), .val (.int ya1), .val (.int ya2), .val (.int ya3), .val (.int sa), .val (.int ap), .val (.ref b1), .val (.ref b5), .val (.ref pn), .val (.ref qy), .val (.ref pr), .val (.ref ar), .val (.ref ot), .val (.int (0 : Int32)), .val (.int (0 : Int32)), .val (.int (0 : Int32)), .val .null, .val (.int (1 : Int32))] [(.int (1 : Int32))])) ?_ (fun t_ k_ => XS.goto X37.here hx rfl (pc0 := 250) (pc' := 254) rfl (hb hby at_250) (by decide) (by decide) k_)
            rw [hWd]
            exact Goes.retn X37 (v := some (.int (nar .boolean (1 : Int32)))) (fun fs hr => retN X37 hx (t := .boolean) Bd.returns (by simp) (hb hby at_254) hr) (fun h => by rw [Bd.returns] at h; cases h) Bd.notSynchronized (by decide) (by decide) ⟨rfl, N37⟩
        · show Goes p e below W T32 (mkF m 131 #[.val (.int ya0), .val (.int ya1), .val (.int ya2), .val (.int ya3), .val (.int sa), .val (.int ap), .val (.ref b1), .val (.ref b5), .val (.ref pn), .val (.ref qy), .val (.ref pr), .val (.ref ar), .val (.ref ot), .val (.int (0 : Int32)), .unset, .unset, .unset, .unset] [])
          refine Goes.on (T' := T32) (g' := (mkF m 133 #[.val (.int ya0), .val (.int ya1), .val (.int ya2), .val (.int ya3), .val (.int sa), .val (.int ap), .val (.ref b1), .val (.ref b5), .val (.ref pn), .val (.ref qy), .val (.ref pr), .val (.ref ar), .val (.ref ot), .val (.int (0 : Int32)), .unset, .unset, .unset, .unset] [(.ref ot)])) ?_ (fun t_ k_ => XS.aload X32.here hx rfl (hb hby at_131) rfl rfl k_)
          refine Goes.on (T' := T32) (g' := (mkF m 135 #[.val (.int ya0), .val (.int ya1), .val (.int ya2), .val (.int ya3), .val (.int sa), .val (.int ap), .val (.ref b1), .val (.ref b5), .val (.ref pn), .val (.ref qy), .val (.ref pr), .val (.ref ar), .val (.ref ot), .val (.int (0 : Int32)), .unset, .unset, .unset, .unset] [(.ref ar), (.ref ot)])) ?_ (fun t_ k_ => XS.aload X32.here hx rfl (hb hby at_133) rfl rfl k_)
          obtain ⟨cq38, kq38, q38a, q38b, q38c⟩ := isOf hZ rfl lf33_OE
          obtain ⟨_, _, ⟨T38, Lq_38, kq_38, nq_38⟩, -, X38, ⟨Lc38, hQ38, l38, y38, z38⟩, st38⟩ := X32.virtualBack hx (y := (⟨"com/example/entitlement/entitlement/ObjectType", "setActionPermission", "(Lcom/example/entitlement/entitlement/Expression;)V"⟩ : MethodName)) (z := (⟨"com/example/entitlement/entitlement/ObjectType", "setActionPermission", "(Lcom/example/entitlement/entitlement/Expression;)V"⟩ : MethodName)) hown (mvT hZ (hw _ (List.mem_of_getElem? (i := 287) rfl))) (mvT hZ (hw _ (List.mem_of_getElem? (i := 288) rfl))) (notFace_of_selects (args := #[]) (mvT hZ (hw _ (List.mem_of_getElem? (i := 290) rfl)))) (mvT hZ (hw _ (List.mem_of_getElem? (i := 290) rfl))) (mvT hZ (hw _ (List.mem_of_getElem? (i := 289) rfl))) (by decide) (backOf (W := 0) (rmSA l Z a0 hw [] ot ar mr mp T32.heap n0 Za lf33_OE lf33_FR lf33_FP lf33_FA g_b21) hZ (hw _ (List.mem_of_getElem? (i := 291) rfl)) (hw _ (List.mem_of_getElem? (i := 115) rfl)) (by decide) (by decide)) q38a q38c (g := (mkF m 135 #[.val (.int ya0), .val (.int ya1), .val (.int ya2), .val (.int ya3), .val (.int sa), .val (.int ap), .val (.ref b1), .val (.ref b5), .val (.ref pn), .val (.ref qy), .val (.ref pr), .val (.ref ar), .val (.ref ot), .val (.int (0 : Int32)), .unset, .unset, .unset, .unset] [(.ref ar), (.ref ot)])) rfl (by rw [hml]; rfl) (Steps.refl _) (argsL := [(.ref ar)]) (rest := []) (lenOf pd_29 rfl) rfl (by show 2 * 0 + _ ≤ _; exact Nat.le_of_eq rfl) (hb hby at_135) (fun _ _ => ⟨rfl, rfl, (by decide : 21 + 0 ≤ _), (by decide : 110 + 0 ≤ _)⟩)
          dsimp only [Pt.U, Pt.locs, Pt.cells, Pt.slots] at X38 l38 y38 z38 st38 hQ38
          rw [l38, y38, z38] at X38
          change Stand p l e _ _ m _ below meth c T38 _ 21 110 at X38
          obtain ⟨rfl, N38q, K38, OEs, FRs, FPs, FAs⟩ := hQ38
          have N38 := Fr.app N32 N38q
          refine Goes.on (T' := T38) (g' := (mkF m 138 #[.val (.int ya0), .val (.int ya1), .val (.int ya2), .val (.int ya3), .val (.int sa), .val (.int ap), .val (.ref b1), .val (.ref b5), .val (.ref pn), .val (.ref qy), .val (.ref pr), .val (.ref ar), .val (.ref ot), .val (.int (0 : Int32)), .unset, .unset, .unset, .unset] [])) ?_ (fun t => st38.trans)
          have Zt : n0 ≤ T38.heap.size := Nat.le_trans Za K38.1
          have lf39_X := lf33_X.keep K38 (allS g_b21 all0)
          have lf39_S_pn := SPn.keep K38 (ninS (Exa.ne SPn.exa lf33_OE (by decide)) nin0) (ninS (Ne.symm (Exa.neArv lf33_OE SPn.arv (hw _ (List.mem_of_getElem? (i := 114) rfl)))) nin0)
          have lf39_S_qy := lf33_S_qy.keep K38 (ninS (Exa.ne lf33_S_qy.exa lf33_OE (by decide)) nin0) (ninS (Ne.symm (Exa.neArv lf33_OE lf33_S_qy.arv (hw _ (List.mem_of_getElem? (i := 114) rfl)))) nin0)
          have lf39_EX_pr := lf33_EX_pr.keep K38
          have lf39_EX_ar := lf33_EX_ar.keep K38
          have lf39_MR := lf33_MR.keep K38 (ninS (Exa.ne lf33_MR.E lf33_OE (by decide)) nin0)
          have lf39_HM := HM.keep K38 (ninS (Exa.ne HM.E lf33_OE (by decide)) nin0) (ninS (Ne.symm (Exa.neArv lf33_OE HM.V (hw _ (List.mem_of_getElem? (i := 114) rfl)))) nin0) (ninS (Exa.ne HM.N lf33_OE (by decide)) nin0)
          refine Goes.on (T' := T38) (g' := (mkF m 140 #[.val (.int ya0), .val (.int ya1), .val (.int ya2), .val (.int ya3), .val (.int sa), .val (.int ap), .val (.ref b1), .val (.ref b5), .val (.ref pn), .val (.ref qy), .val (.ref pr), .val (.ref ar), .val (.ref ot), .val (.int (0 : Int32)), .unset, .unset, .unset, .unset] [(.ref ot)])) ?_ (fun t_ k_ => XS.aload X38.here hx rfl (hb hby at_138) rfl rfl k_)
          obtain ⟨cq40, kq40, q40a, q40b, q40c⟩ := isOf hZ rfl OEs
          obtain ⟨_, _, ⟨T40, Lq_40, kq_40, nq_40⟩, -, X40, ⟨Lc40, hQ40, l40, y40, z40⟩, st40⟩ := X38.virtualBack hx (y := (⟨"com/example/entitlement/entitlement/ObjectType", "hasActionPermission", "()Z"⟩ : MethodName)) (z := (⟨"com/example/entitlement/entitlement/ObjectType", "hasActionPermission", "()Z"⟩ : MethodName)) hown (mvT hZ (hw _ (List.mem_of_getElem? (i := 174) rfl))) (mvT hZ (hw _ (List.mem_of_getElem? (i := 175) rfl))) (notFace_of_selects (args := #[]) (mvT hZ (hw _ (List.mem_of_getElem? (i := 177) rfl)))) (mvT hZ (hw _ (List.mem_of_getElem? (i := 177) rfl))) (mvT hZ (hw _ (List.mem_of_getElem? (i := 176) rfl))) (by decide) (backOf (W := 0) (rmN1 l Z a0 hw [] ot ar T38.heap n0 Zt FAs) hZ (hw _ (List.mem_of_getElem? (i := 178) rfl)) (hw _ (List.mem_of_getElem? (i := 115) rfl)) (by decide) (by decide)) q40a q40c (g := (mkF m 140 #[.val (.int ya0), .val (.int ya1), .val (.int ya2), .val (.int ya3), .val (.int sa), .val (.int ap), .val (.ref b1), .val (.ref b5), .val (.ref pn), .val (.ref qy), .val (.ref pr), .val (.ref ar), .val (.ref ot), .val (.int (0 : Int32)), .unset, .unset, .unset, .unset] [(.ref ot)])) rfl (by rw [hml]; rfl) (Steps.refl _) (argsL := []) (rest := []) (lenOf pd_4 rfl) rfl (by show 2 * 0 + _ ≤ _; exact Nat.le_of_eq rfl) (hb hby at_140) (fun _ _ => ⟨rfl, rfl, (by decide : 21 + 0 ≤ _), (by decide : 110 + 0 ≤ _)⟩)
          dsimp only [Pt.U, Pt.locs, Pt.cells, Pt.slots] at X40 l40 y40 z40 st40 hQ40
          rw [l40, y40, z40] at X40
          change Stand p l e _ _ m _ below meth c T40 _ 21 110 at X40
          obtain ⟨rfl, N40q, eh40⟩ := hQ40
          have N40 := Fr.app N38 N40q
          refine Goes.on (T' := T40) (g' := (mkF m 143 #[.val (.int ya0), .val (.int ya1), .val (.int ya2), .val (.int ya3), .val (.int sa), .val (.int ap), .val (.ref b1), .val (.ref b5), .val (.ref pn), .val (.ref qy), .val (.ref pr), .val (.ref ar), .val (.ref ot), .val (.int (0 : Int32)), .unset, .unset, .unset, .unset] [(.int (1 : Int32))])) ?_ (fun t => st40.trans)
          refine Goes.on (T' := T40) (g' := (mkF m 145 #[.val (.int ya0), .val (.int ya1), .val (.int ya2), .val (.int ya3), .val (.int sa), .val (.int ap), .val (.ref b1), .val (.ref b5), .val (.ref pn), .val (.ref qy), .val (.ref pr), .val (.ref ar), .val (.ref ot), .val (.int (0 : Int32)), .val (.int (1 : Int32)), .unset, .unset, .unset] [])) ?_ (fun t_ k_ => XS.istore X40.here hx rfl (hb hby at_143) rfl (l' := #[.val (.int ya0), .val (.int ya1), .val (.int ya2), .val (.int ya3), .val (.int sa), .val (.int ap), .val (.ref b1), .val (.ref b5), .val (.ref pn), .val (.ref qy), .val (.ref pr), .val (.ref ar), .val (.ref ot), .val (.int (0 : Int32)), .val (.int (1 : Int32)), .unset, .unset, .unset]) rfl k_)
          refine Goes.on (T' := T40) (g' := (mkF m 147 #[.val (.int ya0), .val (.int ya1), .val (.int ya2), .val (.int ya3), .val (.int sa), .val (.int ap), .val (.ref b1), .val (.ref b5), .val (.ref pn), .val (.ref qy), .val (.ref pr), .val (.ref ar), .val (.ref ot), .val (.int (0 : Int32)), .val (.int (1 : Int32)), .unset, .unset, .unset] [(.int ap)])) ?_ (fun t_ k_ => XS.iload X40.here hx rfl (hb hby at_145) rfl k_)
          refine Goes.on (T' := T40) (g' := (mkF m 150 #[.val (.int ya0), .val (.int ya1), .val (.int ya2), .val (.int ya3), .val (.int sa), .val (.int ap), .val (.ref b1), .val (.ref b5), .val (.ref pn), .val (.ref qy), .val (.ref pr), .val (.ref ar), .val (.ref ot), .val (.int (0 : Int32)), .val (.int (1 : Int32)), .unset, .unset, .unset] [])) ?_ (fun t_ k_ => XS.ifNo X40.here hx rfl (hb hby at_147) rfl ((if0 _ _).trans (feq hc114).1) k_)
          refine Goes.on (T' := T40) (g' := (mkF m 152 #[.val (.int ya0), .val (.int ya1), .val (.int ya2), .val (.int ya3), .val (.int sa), .val (.int ap), .val (.ref b1), .val (.ref b5), .val (.ref pn), .val (.ref qy), .val (.ref pr), .val (.ref ar), .val (.ref ot), .val (.int (0 : Int32)), .val (.int (1 : Int32)), .unset, .unset, .unset] [(.ref pn)])) ?_ (fun t_ k_ => XS.aload X40.here hx rfl (hb hby at_150) rfl rfl k_)
          refine Goes.on (T' := T40) (g' := (mkF m 154 #[.val (.int ya0), .val (.int ya1), .val (.int ya2), .val (.int ya3), .val (.int sa), .val (.int ap), .val (.ref b1), .val (.ref b5), .val (.ref pn), .val (.ref qy), .val (.ref pr), .val (.ref ar), .val (.ref ot), .val (.int (0 : Int32)), .val (.int (1 : Int32)), .unset, .unset, .unset] [(.ref qy), (.ref pn)])) ?_ (fun t_ k_ => XS.aload X40.here hx rfl (hb hby at_152) rfl rfl k_)
          obtain ⟨cq41, kq41, q41a, q41b, q41c⟩ := isOf hZ eh40 lf39_S_pn.exa
          obtain ⟨_, _, ⟨T41, Lq_41, kq_41, nq_41⟩, -, X41, ⟨Lc41, hQ41, l41, y41, z41⟩, st41⟩ := X40.virtualBack hx (y := (⟨"java/lang/String", "equals", "(Ljava/lang/Object;)Z"⟩ : MethodName)) (z := (⟨"java/lang/String", "equals", "(Ljava/lang/Object;)Z"⟩ : MethodName)) hown (mvT hZ (hw _ (List.mem_of_getElem? (i := 292) rfl))) (mvT hZ (hw _ (List.mem_of_getElem? (i := 293) rfl))) (notFace_of_selects (args := #[]) (mvT hZ (hw _ (List.mem_of_getElem? (i := 295) rfl)))) (mvT hZ (hw _ (List.mem_of_getElem? (i := 295) rfl))) (mvT hZ (hw _ (List.mem_of_getElem? (i := 294) rfl))) (by decide) (backOf (W := 0) (rmSE l Z a0 hw [] pn qy tp tq kp kq [own_lo c1] [own_lo c2] zc T38.heap n0 Zt lf39_S_pn.1 lf39_S_qy.1 (CS.ext lf39_X.2) hzc) hZ (hw _ (List.mem_of_getElem? (i := 296) rfl)) (hw _ (List.mem_of_getElem? (i := 3) rfl)) (by decide) (by decide)) q41a q41c (g := (mkF m 154 #[.val (.int ya0), .val (.int ya1), .val (.int ya2), .val (.int ya3), .val (.int sa), .val (.int ap), .val (.ref b1), .val (.ref b5), .val (.ref pn), .val (.ref qy), .val (.ref pr), .val (.ref ar), .val (.ref ot), .val (.int (0 : Int32)), .val (.int (1 : Int32)), .unset, .unset, .unset] [(.ref qy), (.ref pn)])) rfl (by rw [hml]; rfl) (Steps.refl _) (argsL := [(.ref qy)]) (rest := []) (lenOf pd_20 rfl) rfl (by show 2 * 0 + _ ≤ _; exact Nat.le_of_eq rfl) (hb hby at_154) (fun _ _ => ⟨rfl, eh40, (by decide : 21 + 0 ≤ _), (by decide : 110 + 0 ≤ _)⟩)
          dsimp only [Pt.U, Pt.locs, Pt.cells, Pt.slots] at X41 l41 y41 z41 st41 hQ41
          rw [l41, y41, z41] at X41
          change Stand p l e _ _ m _ below meth c T41 _ 21 110 at X41
          obtain ⟨rfl, N41q, eh41⟩ := hQ41
          have N41 := Fr.app N40 N41q
          refine Goes.on (T' := T41) (g' := (mkF m 157 #[.val (.int ya0), .val (.int ya1), .val (.int ya2), .val (.int ya3), .val (.int sa), .val (.int ap), .val (.ref b1), .val (.ref b5), .val (.ref pn), .val (.ref qy), .val (.ref pr), .val (.ref ar), .val (.ref ot), .val (.int (0 : Int32)), .val (.int (1 : Int32)), .unset, .unset, .unset] [(.int (if [own_lo c1] = [own_lo c2] then 1 else 0))])) ?_ (fun t => st41.trans)
          by_cases hqk : c2 = c1
          · rw [if_pos (by rw [hqk])]
            refine Goes.on (T' := T41) (g' := (mkF m 160 #[.val (.int ya0), .val (.int ya1), .val (.int ya2), .val (.int ya3), .val (.int sa), .val (.int ap), .val (.ref b1), .val (.ref b5), .val (.ref pn), .val (.ref qy), .val (.ref pr), .val (.ref ar), .val (.ref ot), .val (.int (0 : Int32)), .val (.int (1 : Int32)), .unset, .unset, .unset] [])) ?_ (fun t_ k_ => XS.ifNo X41.here hx rfl (hb hby at_157) rfl (by decide) k_)
            refine Goes.on (T' := T41) (g' := (mkF m 161 #[.val (.int ya0), .val (.int ya1), .val (.int ya2), .val (.int ya3), .val (.int sa), .val (.int ap), .val (.ref b1), .val (.ref b5), .val (.ref pn), .val (.ref qy), .val (.ref pr), .val (.ref ar), .val (.ref ot), .val (.int (0 : Int32)), .val (.int (1 : Int32)), .unset, .unset, .unset] [(.int (1 : Int32))])) ?_ (fun t_ k_ => XS.iconst X41.here hx rfl (hb hby at_160) k_)
            refine Goes.on (T' := T41) (g' := (mkF m 165 #[.val (.int ya0), .val (.int ya1), .val (.int ya2), .val (.int ya3), .val (.int sa), .val (.int ap), .val (.ref b1), .val (.ref b5), .val (.ref pn), .val (.ref qy), .val (.ref pr), .val (.ref ar), .val (.ref ot), .val (.int (0 : Int32)), .val (.int (1 : Int32)), .unset, .unset, .unset] [(.int (1 : Int32))])) ?_ (fun t_ k_ => XS.goto X41.here hx rfl (pc0 := 161) (pc' := 165) rfl (hb hby at_161) (by decide) (by decide) k_)
            refine Goes.on (T' := T41) (g' := (mkF m 167 #[.val (.int ya0), .val (.int ya1), .val (.int ya2), .val (.int ya3), .val (.int sa), .val (.int ap), .val (.ref b1), .val (.ref b5), .val (.ref pn), .val (.ref qy), .val (.ref pr), .val (.ref ar), .val (.ref ot), .val (.int (0 : Int32)), .val (.int (1 : Int32)), .val (.int (1 : Int32)), .unset, .unset] [])) ?_ (fun t_ k_ => XS.istore X41.here hx rfl (hb hby at_165) rfl (l' := #[.val (.int ya0), .val (.int ya1), .val (.int ya2), .val (.int ya3), .val (.int sa), .val (.int ap), .val (.ref b1), .val (.ref b5), .val (.ref pn), .val (.ref qy), .val (.ref pr), .val (.ref ar), .val (.ref ot), .val (.int (0 : Int32)), .val (.int (1 : Int32)), .val (.int (1 : Int32)), .unset, .unset]) rfl k_)
            refine Goes.on (T' := T41) (g' := (mkF m 169 #[.val (.int ya0), .val (.int ya1), .val (.int ya2), .val (.int ya3), .val (.int sa), .val (.int ap), .val (.ref b1), .val (.ref b5), .val (.ref pn), .val (.ref qy), .val (.ref pr), .val (.ref ar), .val (.ref ot), .val (.int (0 : Int32)), .val (.int (1 : Int32)), .val (.int (1 : Int32)), .unset, .unset] [(.ref ot)])) ?_ (fun t_ k_ => XS.aload X41.here hx rfl (hb hby at_167) rfl rfl k_)
            refine Goes.on (T' := T41) (g' := (mkF m 171 #[.val (.int ya0), .val (.int ya1), .val (.int ya2), .val (.int ya3), .val (.int sa), .val (.int ap), .val (.ref b1), .val (.ref b5), .val (.ref pn), .val (.ref qy), .val (.ref pr), .val (.ref ar), .val (.ref ot), .val (.int (0 : Int32)), .val (.int (1 : Int32)), .val (.int (1 : Int32)), .unset, .unset] [(.ref qy), (.ref ot)])) ?_ (fun t_ k_ => XS.aload X41.here hx rfl (hb hby at_169) rfl rfl k_)
            obtain ⟨cq42, kq42, q42a, q42b, q42c⟩ := isOf hZ eh41 OEs
            obtain ⟨_, _, ⟨T42, Lq_42, kq_42, nq_42⟩, -, X42, ⟨Lc42, hQ42, l42, y42, z42⟩, st42⟩ := X41.virtualBack hx (y := (⟨"com/example/entitlement/entitlement/ObjectType", "ruleFor", "(Ljava/lang/String;)Lcom/example/entitlement/entitlement/Expression;"⟩ : MethodName)) (z := (⟨"com/example/entitlement/entitlement/ObjectType", "ruleFor", "(Ljava/lang/String;)Lcom/example/entitlement/entitlement/Expression;"⟩ : MethodName)) hown (mvT hZ (hw _ (List.mem_of_getElem? (i := 181) rfl))) (mvT hZ (hw _ (List.mem_of_getElem? (i := 182) rfl))) (notFace_of_selects (args := #[]) (mvT hZ (hw _ (List.mem_of_getElem? (i := 184) rfl)))) (mvT hZ (hw _ (List.mem_of_getElem? (i := 184) rfl))) (mvT hZ (hw _ (List.mem_of_getElem? (i := 183) rfl))) (by decide) (backOf (W := 0) (rmR1 l Z a0 hw [] ot mr (.ref ar) mp b nd pr kb pn tp kp c1 qy tq kq c2 zc T38.heap n0 Zt FRs FPs FAs rfl lf39_MR lf39_HM lf39_S_pn c1a c1b ne_s lf39_S_qy g_qy c2a c2b CS hzc lf39_X lf39_EX_pr OEs) hZ (hw _ (List.mem_of_getElem? (i := 185) rfl)) (hw _ (List.mem_of_getElem? (i := 115) rfl)) (by decide) (by decide)) q42a q42c (g := (mkF m 171 #[.val (.int ya0), .val (.int ya1), .val (.int ya2), .val (.int ya3), .val (.int sa), .val (.int ap), .val (.ref b1), .val (.ref b5), .val (.ref pn), .val (.ref qy), .val (.ref pr), .val (.ref ar), .val (.ref ot), .val (.int (0 : Int32)), .val (.int (1 : Int32)), .val (.int (1 : Int32)), .unset, .unset] [(.ref qy), (.ref ot)])) rfl (by rw [hml]; rfl) (Steps.refl _) (argsL := [(.ref qy)]) (rest := []) (lenOf pd_28 rfl) rfl (by show 2 * 0 + _ ≤ _; exact Nat.le_of_eq rfl) (hb hby at_171) (fun _ _ => ⟨rfl, eh41, (by decide : 21 + 0 ≤ _), (by decide : 110 + 0 ≤ _)⟩)
            dsimp only [Pt.U, Pt.locs, Pt.cells, Pt.slots] at X42 l42 y42 z42 st42 hQ42
            rw [l42, y42, z42] at X42
            change Stand p l e _ _ m _ below meth c T42 _ 21 110 at X42
            obtain ⟨rfl, N42q⟩ := hQ42
            have N42 := Fr.app N41 N42q
            refine Goes.on (T' := T42) (g' := (mkF m 174 #[.val (.int ya0), .val (.int ya1), .val (.int ya2), .val (.int ya3), .val (.int sa), .val (.int ap), .val (.ref b1), .val (.ref b5), .val (.ref pn), .val (.ref qy), .val (.ref pr), .val (.ref ar), .val (.ref ot), .val (.int (0 : Int32)), .val (.int (1 : Int32)), .val (.int (1 : Int32)), .unset, .unset] [(if c2 = c1 then Value.ref pr else (.ref ar))])) ?_ (fun t => st42.trans)
            rw [if_pos hqk]
            refine Goes.on (T' := T42) (g' := (mkF m 176 #[.val (.int ya0), .val (.int ya1), .val (.int ya2), .val (.int ya3), .val (.int sa), .val (.int ap), .val (.ref b1), .val (.ref b5), .val (.ref pn), .val (.ref qy), .val (.ref pr), .val (.ref ar), .val (.ref ot), .val (.int (0 : Int32)), .val (.int (1 : Int32)), .val (.int (1 : Int32)), .val (.ref pr), .unset] [])) ?_ (fun t_ k_ => XS.astore X42.here hx rfl (hb hby at_174) rfl rfl (l' := #[.val (.int ya0), .val (.int ya1), .val (.int ya2), .val (.int ya3), .val (.int sa), .val (.int ap), .val (.ref b1), .val (.ref b5), .val (.ref pn), .val (.ref qy), .val (.ref pr), .val (.ref ar), .val (.ref ot), .val (.int (0 : Int32)), .val (.int (1 : Int32)), .val (.int (1 : Int32)), .val (.ref pr), .unset]) rfl k_)
            refine Goes.on (T' := T42) (g' := (mkF m 178 #[.val (.int ya0), .val (.int ya1), .val (.int ya2), .val (.int ya3), .val (.int sa), .val (.int ap), .val (.ref b1), .val (.ref b5), .val (.ref pn), .val (.ref qy), .val (.ref pr), .val (.ref ar), .val (.ref ot), .val (.int (0 : Int32)), .val (.int (1 : Int32)), .val (.int (1 : Int32)), .val (.ref pr), .unset] [(.int (1 : Int32))])) ?_ (fun t_ k_ => XS.iload X42.here hx rfl (hb hby at_176) rfl k_)
            refine Goes.on (T' := T42) (g' := (mkF m 181 #[.val (.int ya0), .val (.int ya1), .val (.int ya2), .val (.int ya3), .val (.int sa), .val (.int ap), .val (.ref b1), .val (.ref b5), .val (.ref pn), .val (.ref qy), .val (.ref pr), .val (.ref ar), .val (.ref ot), .val (.int (0 : Int32)), .val (.int (1 : Int32)), .val (.int (1 : Int32)), .val (.ref pr), .unset] [])) ?_ (fun t_ k_ => XS.ifNo X42.here hx rfl (hb hby at_178) rfl (by decide) k_)
            refine Goes.on (T' := T42) (g' := (mkF m 183 #[.val (.int ya0), .val (.int ya1), .val (.int ya2), .val (.int ya3), .val (.int sa), .val (.int ap), .val (.ref b1), .val (.ref b5), .val (.ref pn), .val (.ref qy), .val (.ref pr), .val (.ref ar), .val (.ref ot), .val (.int (0 : Int32)), .val (.int (1 : Int32)), .val (.int (1 : Int32)), .val (.ref pr), .unset] [(.ref pr)])) ?_ (fun t_ k_ => XS.aload X42.here hx rfl (hb hby at_181) rfl rfl k_)
            refine Goes.on (T' := T42) (g' := (mkF m 185 #[.val (.int ya0), .val (.int ya1), .val (.int ya2), .val (.int ya3), .val (.int sa), .val (.int ap), .val (.ref b1), .val (.ref b5), .val (.ref pn), .val (.ref qy), .val (.ref pr), .val (.ref ar), .val (.ref ot), .val (.int (0 : Int32)), .val (.int (1 : Int32)), .val (.int (1 : Int32)), .val (.ref pr), .unset] [(.ref pr), (.ref pr)])) ?_ (fun t_ k_ => XS.aload X42.here hx rfl (hb hby at_183) rfl rfl k_)
            refine Goes.on (T' := T42) (g' := (mkF m 188 #[.val (.int ya0), .val (.int ya1), .val (.int ya2), .val (.int ya3), .val (.int sa), .val (.int ap), .val (.ref b1), .val (.ref b5), .val (.ref pn), .val (.ref qy), .val (.ref pr), .val (.ref ar), .val (.ref ot), .val (.int (0 : Int32)), .val (.int (1 : Int32)), .val (.int (1 : Int32)), .val (.ref pr), .unset] [])) ?_ (fun t_ k_ => Jvm.RoadKit.acmp X42 hx rfl rfl rfl (pc0 := 185) (pc' := 188) (same := true) rfl (hb hby at_185) rfl (decide_eq_true (congrArg Value.ref rfl)) (by decide) (by decide) k_)
            refine Goes.on (T' := T42) (g' := (mkF m 189 #[.val (.int ya0), .val (.int ya1), .val (.int ya2), .val (.int ya3), .val (.int sa), .val (.int ap), .val (.ref b1), .val (.ref b5), .val (.ref pn), .val (.ref qy), .val (.ref pr), .val (.ref ar), .val (.ref ot), .val (.int (0 : Int32)), .val (.int (1 : Int32)), .val (.int (1 : Int32)), .val (.ref pr), .unset] [(.int (1 : Int32))])) ?_ (fun t_ k_ => XS.iconst X42.here hx rfl (hb hby at_188) k_)
            refine Goes.on (T' := T42) (g' := (mkF m 193 #[.val (.int ya0), .val (.int ya1), .val (.int ya2), .val (.int ya3), .val (.int sa), .val (.int ap), .val (.ref b1), .val (.ref b5), .val (.ref pn), .val (.ref qy), .val (.ref pr), .val (.ref ar), .val (.ref ot), .val (.int (0 : Int32)), .val (.int (1 : Int32)), .val (.int (1 : Int32)), .val (.ref pr), .unset] [(.int (1 : Int32))])) ?_ (fun t_ k_ => XS.goto X42.here hx rfl (pc0 := 189) (pc' := 193) rfl (hb hby at_189) (by decide) (by decide) k_)
            refine Goes.on (T' := T42) (g' := (mkF m 195 #[.val (.int ya0), .val (.int ya1), .val (.int ya2), .val (.int ya3), .val (.int sa), .val (.int ap), .val (.ref b1), .val (.ref b5), .val (.ref pn), .val (.ref qy), .val (.ref pr), .val (.ref ar), .val (.ref ot), .val (.int (0 : Int32)), .val (.int (1 : Int32)), .val (.int (1 : Int32)), .val (.ref pr), .val (.int (1 : Int32))] [])) ?_ (fun t_ k_ => XS.istore X42.here hx rfl (hb hby at_193) rfl (l' := #[.val (.int ya0), .val (.int ya1), .val (.int ya2), .val (.int ya3), .val (.int sa), .val (.int ap), .val (.ref b1), .val (.ref b5), .val (.ref pn), .val (.ref qy), .val (.ref pr), .val (.ref ar), .val (.ref ot), .val (.int (0 : Int32)), .val (.int (1 : Int32)), .val (.int (1 : Int32)), .val (.ref pr), .val (.int (1 : Int32))]) rfl k_)
            refine Goes.on (T' := T42) (g' := (mkF m 232 #[.val (.int ya0), .val (.int ya1), .val (.int ya2), .val (.int ya3), .val (.int sa), .val (.int ap), .val (.ref b1), .val (.ref b5), .val (.ref pn), .val (.ref qy), .val (.ref pr), .val (.ref ar), .val (.ref ot), .val (.int (0 : Int32)), .val (.int (1 : Int32)), .val (.int (1 : Int32)), .val (.ref pr), .val (.int (1 : Int32))] [])) ?_ (fun t_ k_ => XS.goto X42.here hx rfl (pc0 := 195) (pc' := 232) rfl (hb hby at_195) (by decide) (by decide) k_)
            refine Goes.on (T' := T42) (g' := (mkF m 234 #[.val (.int ya0), .val (.int ya1), .val (.int ya2), .val (.int ya3), .val (.int sa), .val (.int ap), .val (.ref b1), .val (.ref b5), .val (.ref pn), .val (.ref qy), .val (.ref pr), .val (.ref ar), .val (.ref ot), .val (.int (0 : Int32)), .val (.int (1 : Int32)), .val (.int (1 : Int32)), .val (.ref pr), .val (.int (1 : Int32))] [(.int (0 : Int32))])) ?_ (fun t_ k_ => XS.iload X42.here hx rfl (hb hby at_232) rfl k_)
            refine Goes.on (T' := T42) (g' := (mkF m 237 #[.val (.int ya0), .val (.int ya1), .val (.int ya2), .val (.int ya3), .val (.int sa), .val (.int ap), .val (.ref b1), .val (.ref b5), .val (.ref pn), .val (.ref qy), .val (.ref pr), .val (.ref ar), .val (.ref ot), .val (.int (0 : Int32)), .val (.int (1 : Int32)), .val (.int (1 : Int32)), .val (.ref pr), .val (.int (1 : Int32))] [])) ?_ (fun t_ k_ => XS.ifNo X42.here hx rfl (hb hby at_234) rfl (by decide) k_)
            refine Goes.on (T' := T42) (g' := (mkF m 239 #[.val (.int ya0), .val (.int ya1), .val (.int ya2), .val (.int ya3), .val (.int sa), .val (.int ap), .val (.ref b1), .val (.ref b5), .val (.ref pn), .val (.ref qy), .val (.ref pr), .val (.ref ar), .val (.ref ot), .val (.int (0 : Int32)), .val (.int (1 : Int32)), .val (.int (1 : Int32)), .val (.ref pr), .val (.int (1 : Int32))] [(.int (1 : Int32))])) ?_ (fun t_ k_ => XS.iload X42.here hx rfl (hb hby at_237) rfl k_)
            refine Goes.on (T' := T42) (g' := (mkF m 241 #[.val (.int ya0), .val (.int ya1), .val (.int ya2), .val (.int ya3), .val (.int sa), .val (.int ap), .val (.ref b1), .val (.ref b5), .val (.ref pn), .val (.ref qy), .val (.ref pr), .val (.ref ar), .val (.ref ot), .val (.int (0 : Int32)), .val (.int (1 : Int32)), .val (.int (1 : Int32)), .val (.ref pr), .val (.int (1 : Int32))] [(.int sa), (.int (1 : Int32))])) ?_ (fun t_ k_ => XS.iload X42.here hx rfl (hb hby at_239) rfl k_)
            refine Goes.on (T' := T42) (g' := (mkF m 244 #[.val (.int ya0), .val (.int ya1), .val (.int ya2), .val (.int ya3), .val (.int sa), .val (.int ap), .val (.ref b1), .val (.ref b5), .val (.ref pn), .val (.ref qy), .val (.ref pr), .val (.ref ar), .val (.ref ot), .val (.int (0 : Int32)), .val (.int (1 : Int32)), .val (.int (1 : Int32)), .val (.ref pr), .val (.int (1 : Int32))] [])) ?_ (fun t_ k_ => XS.icmpNo X42.here hx rfl (hb hby at_241) rfl (teq (hsa.resolve_left hc128).symm).2 k_)
            refine Goes.on (T' := T42) (g' := (mkF m 246 #[.val (.int ya0), .val (.int ya1), .val (.int ya2), .val (.int ya3), .val (.int sa), .val (.int ap), .val (.ref b1), .val (.ref b5), .val (.ref pn), .val (.ref qy), .val (.ref pr), .val (.ref ar), .val (.ref ot), .val (.int (0 : Int32)), .val (.int (1 : Int32)), .val (.int (1 : Int32)), .val (.ref pr), .val (.int (1 : Int32))] [(.int (1 : Int32))])) ?_ (fun t_ k_ => XS.iload X42.here hx rfl (hb hby at_244) rfl k_)
            refine Goes.on (T' := T42) (g' := (mkF m 249 #[.val (.int ya0), .val (.int ya1), .val (.int ya2), .val (.int ya3), .val (.int sa), .val (.int ap), .val (.ref b1), .val (.ref b5), .val (.ref pn), .val (.ref qy), .val (.ref pr), .val (.ref ar), .val (.ref ot), .val (.int (0 : Int32)), .val (.int (1 : Int32)), .val (.int (1 : Int32)), .val (.ref pr), .val (.int (1 : Int32))] [])) ?_ (fun t_ k_ => XS.ifNo X42.here hx rfl (hb hby at_246) rfl (by decide) k_)
            refine Goes.on (T' := T42) (g' := (mkF m 250 #[.val (.int ya0), .val (.int ya1), .val (.int ya2), .val (.int ya3), .val (.int sa), .val (.int ap), .val (.ref b1), .val (.ref b5), .val (.ref pn), .val (.ref qy), .val (.ref pr), .val (.ref ar), .val (.ref ot), .val (.int (0 : Int32)), .val (.int (1 : Int32)), .val (.int (1 : Int32)), .val (.ref pr), .val (.int (1 : Int32))] [(.int (1 : Int32))])) ?_ (fun t_ k_ => XS.iconst X42.here hx rfl (hb hby at_249) k_)
            refine Goes.on (T' := T42) (g' := (mkF m 254 #[.val (.int ya0), .val (.int ya1), .val (.int ya2), .val (.int ya3), .val (.int sa), .val (.int ap), .val (.ref b1), .val (.ref b5), .val (.ref pn), .val (.ref qy), .val (.ref pr), .val (.ref ar), .val (.ref ot), .val (.int (0 : Int32)), .val (.int (1 : Int32)), .val (.int (1 : Int32)), .val (.ref pr), .val (.int (1 : Int32))] [(.int (1 : Int32))])) ?_ (fun t_ k_ => XS.goto X42.here hx rfl (pc0 := 250) (pc' := 254) rfl (hb hby at_250) (by decide) (by decide) k_)
            rw [hWd]
            exact Goes.retn X42 (v := some (.int (nar .boolean (1 : Int32)))) (fun fs hr => retN X42 hx (t := .boolean) Bd.returns (by simp) (hb hby at_254) hr) (fun h => by rw [Bd.returns] at h; cases h) Bd.notSynchronized (by decide) (by decide) ⟨rfl, N42⟩
          · rw [if_neg (by rw [own_lo1 c1a c1b c2a c2b]; exact fun q => hqk q.symm)]
            refine Goes.on (T' := T41) (g' := (mkF m 164 #[.val (.int ya0), .val (.int ya1), .val (.int ya2), .val (.int ya3), .val (.int sa), .val (.int ap), .val (.ref b1), .val (.ref b5), .val (.ref pn), .val (.ref qy), .val (.ref pr), .val (.ref ar), .val (.ref ot), .val (.int (0 : Int32)), .val (.int (1 : Int32)), .unset, .unset, .unset] [])) ?_ (fun t_ k_ => XS.ifYes X41.here hx rfl (pc0 := 157) (pc' := 164) rfl (hb hby at_157) rfl (by decide) (by decide) (by decide) k_)
            refine Goes.on (T' := T41) (g' := (mkF m 165 #[.val (.int ya0), .val (.int ya1), .val (.int ya2), .val (.int ya3), .val (.int sa), .val (.int ap), .val (.ref b1), .val (.ref b5), .val (.ref pn), .val (.ref qy), .val (.ref pr), .val (.ref ar), .val (.ref ot), .val (.int (0 : Int32)), .val (.int (1 : Int32)), .unset, .unset, .unset] [(.int (0 : Int32))])) ?_ (fun t_ k_ => XS.iconst X41.here hx rfl (hb hby at_164) k_)
            refine Goes.on (T' := T41) (g' := (mkF m 167 #[.val (.int ya0), .val (.int ya1), .val (.int ya2), .val (.int ya3), .val (.int sa), .val (.int ap), .val (.ref b1), .val (.ref b5), .val (.ref pn), .val (.ref qy), .val (.ref pr), .val (.ref ar), .val (.ref ot), .val (.int (0 : Int32)), .val (.int (1 : Int32)), .val (.int (0 : Int32)), .unset, .unset] [])) ?_ (fun t_ k_ => XS.istore X41.here hx rfl (hb hby at_165) rfl (l' := #[.val (.int ya0), .val (.int ya1), .val (.int ya2), .val (.int ya3), .val (.int sa), .val (.int ap), .val (.ref b1), .val (.ref b5), .val (.ref pn), .val (.ref qy), .val (.ref pr), .val (.ref ar), .val (.ref ot), .val (.int (0 : Int32)), .val (.int (1 : Int32)), .val (.int (0 : Int32)), .unset, .unset]) rfl k_)
            refine Goes.on (T' := T41) (g' := (mkF m 169 #[.val (.int ya0), .val (.int ya1), .val (.int ya2), .val (.int ya3), .val (.int sa), .val (.int ap), .val (.ref b1), .val (.ref b5), .val (.ref pn), .val (.ref qy), .val (.ref pr), .val (.ref ar), .val (.ref ot), .val (.int (0 : Int32)), .val (.int (1 : Int32)), .val (.int (0 : Int32)), .unset, .unset] [(.ref ot)])) ?_ (fun t_ k_ => XS.aload X41.here hx rfl (hb hby at_167) rfl rfl k_)
            refine Goes.on (T' := T41) (g' := (mkF m 171 #[.val (.int ya0), .val (.int ya1), .val (.int ya2), .val (.int ya3), .val (.int sa), .val (.int ap), .val (.ref b1), .val (.ref b5), .val (.ref pn), .val (.ref qy), .val (.ref pr), .val (.ref ar), .val (.ref ot), .val (.int (0 : Int32)), .val (.int (1 : Int32)), .val (.int (0 : Int32)), .unset, .unset] [(.ref qy), (.ref ot)])) ?_ (fun t_ k_ => XS.aload X41.here hx rfl (hb hby at_169) rfl rfl k_)
            obtain ⟨cq43, kq43, q43a, q43b, q43c⟩ := isOf hZ eh41 OEs
            obtain ⟨_, _, ⟨T43, Lq_43, kq_43, nq_43⟩, -, X43, ⟨Lc43, hQ43, l43, y43, z43⟩, st43⟩ := X41.virtualBack hx (y := (⟨"com/example/entitlement/entitlement/ObjectType", "ruleFor", "(Ljava/lang/String;)Lcom/example/entitlement/entitlement/Expression;"⟩ : MethodName)) (z := (⟨"com/example/entitlement/entitlement/ObjectType", "ruleFor", "(Ljava/lang/String;)Lcom/example/entitlement/entitlement/Expression;"⟩ : MethodName)) hown (mvT hZ (hw _ (List.mem_of_getElem? (i := 181) rfl))) (mvT hZ (hw _ (List.mem_of_getElem? (i := 182) rfl))) (notFace_of_selects (args := #[]) (mvT hZ (hw _ (List.mem_of_getElem? (i := 184) rfl)))) (mvT hZ (hw _ (List.mem_of_getElem? (i := 184) rfl))) (mvT hZ (hw _ (List.mem_of_getElem? (i := 183) rfl))) (by decide) (backOf (W := 0) (rmR1 l Z a0 hw [] ot mr (.ref ar) mp b nd pr kb pn tp kp c1 qy tq kq c2 zc T38.heap n0 Zt FRs FPs FAs rfl lf39_MR lf39_HM lf39_S_pn c1a c1b ne_s lf39_S_qy g_qy c2a c2b CS hzc lf39_X lf39_EX_pr OEs) hZ (hw _ (List.mem_of_getElem? (i := 185) rfl)) (hw _ (List.mem_of_getElem? (i := 115) rfl)) (by decide) (by decide)) q43a q43c (g := (mkF m 171 #[.val (.int ya0), .val (.int ya1), .val (.int ya2), .val (.int ya3), .val (.int sa), .val (.int ap), .val (.ref b1), .val (.ref b5), .val (.ref pn), .val (.ref qy), .val (.ref pr), .val (.ref ar), .val (.ref ot), .val (.int (0 : Int32)), .val (.int (1 : Int32)), .val (.int (0 : Int32)), .unset, .unset] [(.ref qy), (.ref ot)])) rfl (by rw [hml]; rfl) (Steps.refl _) (argsL := [(.ref qy)]) (rest := []) (lenOf pd_28 rfl) rfl (by show 2 * 0 + _ ≤ _; exact Nat.le_of_eq rfl) (hb hby at_171) (fun _ _ => ⟨rfl, eh41, (by decide : 21 + 0 ≤ _), (by decide : 110 + 0 ≤ _)⟩)
            dsimp only [Pt.U, Pt.locs, Pt.cells, Pt.slots] at X43 l43 y43 z43 st43 hQ43
            rw [l43, y43, z43] at X43
            change Stand p l e _ _ m _ below meth c T43 _ 21 110 at X43
            obtain ⟨rfl, N43q⟩ := hQ43
            have N43 := Fr.app N41 N43q
            refine Goes.on (T' := T43) (g' := (mkF m 174 #[.val (.int ya0), .val (.int ya1), .val (.int ya2), .val (.int ya3), .val (.int sa), .val (.int ap), .val (.ref b1), .val (.ref b5), .val (.ref pn), .val (.ref qy), .val (.ref pr), .val (.ref ar), .val (.ref ot), .val (.int (0 : Int32)), .val (.int (1 : Int32)), .val (.int (0 : Int32)), .unset, .unset] [(if c2 = c1 then Value.ref pr else (.ref ar))])) ?_ (fun t => st43.trans)
            rw [if_neg hqk]
            refine Goes.on (T' := T43) (g' := (mkF m 176 #[.val (.int ya0), .val (.int ya1), .val (.int ya2), .val (.int ya3), .val (.int sa), .val (.int ap), .val (.ref b1), .val (.ref b5), .val (.ref pn), .val (.ref qy), .val (.ref pr), .val (.ref ar), .val (.ref ot), .val (.int (0 : Int32)), .val (.int (1 : Int32)), .val (.int (0 : Int32)), .val (.ref ar), .unset] [])) ?_ (fun t_ k_ => XS.astore X43.here hx rfl (hb hby at_174) rfl rfl (l' := #[.val (.int ya0), .val (.int ya1), .val (.int ya2), .val (.int ya3), .val (.int sa), .val (.int ap), .val (.ref b1), .val (.ref b5), .val (.ref pn), .val (.ref qy), .val (.ref pr), .val (.ref ar), .val (.ref ot), .val (.int (0 : Int32)), .val (.int (1 : Int32)), .val (.int (0 : Int32)), .val (.ref ar), .unset]) rfl k_)
            refine Goes.on (T' := T43) (g' := (mkF m 178 #[.val (.int ya0), .val (.int ya1), .val (.int ya2), .val (.int ya3), .val (.int sa), .val (.int ap), .val (.ref b1), .val (.ref b5), .val (.ref pn), .val (.ref qy), .val (.ref pr), .val (.ref ar), .val (.ref ot), .val (.int (0 : Int32)), .val (.int (1 : Int32)), .val (.int (0 : Int32)), .val (.ref ar), .unset] [(.int (0 : Int32))])) ?_ (fun t_ k_ => XS.iload X43.here hx rfl (hb hby at_176) rfl k_)
            refine Goes.on (T' := T43) (g' := (mkF m 198 #[.val (.int ya0), .val (.int ya1), .val (.int ya2), .val (.int ya3), .val (.int sa), .val (.int ap), .val (.ref b1), .val (.ref b5), .val (.ref pn), .val (.ref qy), .val (.ref pr), .val (.ref ar), .val (.ref ot), .val (.int (0 : Int32)), .val (.int (1 : Int32)), .val (.int (0 : Int32)), .val (.ref ar), .unset] [])) ?_ (fun t_ k_ => XS.ifYes X43.here hx rfl (pc0 := 178) (pc' := 198) rfl (hb hby at_178) rfl (by decide) (by decide) (by decide) k_)
            refine Goes.on (T' := T43) (g' := (mkF m 200 #[.val (.int ya0), .val (.int ya1), .val (.int ya2), .val (.int ya3), .val (.int sa), .val (.int ap), .val (.ref b1), .val (.ref b5), .val (.ref pn), .val (.ref qy), .val (.ref pr), .val (.ref ar), .val (.ref ot), .val (.int (0 : Int32)), .val (.int (1 : Int32)), .val (.int (0 : Int32)), .val (.ref ar), .unset] [(.int sa)])) ?_ (fun t_ k_ => XS.iload X43.here hx rfl (hb hby at_198) rfl k_)
            refine Goes.on (T' := T43) (g' := (mkF m 203 #[.val (.int ya0), .val (.int ya1), .val (.int ya2), .val (.int ya3), .val (.int sa), .val (.int ap), .val (.ref b1), .val (.ref b5), .val (.ref pn), .val (.ref qy), .val (.ref pr), .val (.ref ar), .val (.ref ot), .val (.int (0 : Int32)), .val (.int (1 : Int32)), .val (.int (0 : Int32)), .val (.ref ar), .unset] [])) ?_ (fun t_ k_ => XS.ifNo X43.here hx rfl (hb hby at_200) rfl ((if0 _ _).trans (feq hc128).1) k_)
            refine Goes.on (T' := T43) (g' := (mkF m 205 #[.val (.int ya0), .val (.int ya1), .val (.int ya2), .val (.int ya3), .val (.int sa), .val (.int ap), .val (.ref b1), .val (.ref b5), .val (.ref pn), .val (.ref qy), .val (.ref pr), .val (.ref ar), .val (.ref ot), .val (.int (0 : Int32)), .val (.int (1 : Int32)), .val (.int (0 : Int32)), .val (.ref ar), .unset] [(.ref ar)])) ?_ (fun t_ k_ => XS.aload X43.here hx rfl (hb hby at_203) rfl rfl k_)
            refine Goes.on (T' := T43) (g' := (mkF m 207 #[.val (.int ya0), .val (.int ya1), .val (.int ya2), .val (.int ya3), .val (.int sa), .val (.int ap), .val (.ref b1), .val (.ref b5), .val (.ref pn), .val (.ref qy), .val (.ref pr), .val (.ref ar), .val (.ref ot), .val (.int (0 : Int32)), .val (.int (1 : Int32)), .val (.int (0 : Int32)), .val (.ref ar), .unset] [(.ref ar), (.ref ar)])) ?_ (fun t_ k_ => XS.aload X43.here hx rfl (hb hby at_205) rfl rfl k_)
            refine Goes.on (T' := T43) (g' := (mkF m 210 #[.val (.int ya0), .val (.int ya1), .val (.int ya2), .val (.int ya3), .val (.int sa), .val (.int ap), .val (.ref b1), .val (.ref b5), .val (.ref pn), .val (.ref qy), .val (.ref pr), .val (.ref ar), .val (.ref ot), .val (.int (0 : Int32)), .val (.int (1 : Int32)), .val (.int (0 : Int32)), .val (.ref ar), .unset] [])) ?_ (fun t_ k_ => Jvm.RoadKit.acmp X43 hx rfl rfl rfl (pc0 := 207) (pc' := 210) (same := true) rfl (hb hby at_207) rfl (decide_eq_true (congrArg Value.ref rfl)) (by decide) (by decide) k_)
            refine Goes.on (T' := T43) (g' := (mkF m 211 #[.val (.int ya0), .val (.int ya1), .val (.int ya2), .val (.int ya3), .val (.int sa), .val (.int ap), .val (.ref b1), .val (.ref b5), .val (.ref pn), .val (.ref qy), .val (.ref pr), .val (.ref ar), .val (.ref ot), .val (.int (0 : Int32)), .val (.int (1 : Int32)), .val (.int (0 : Int32)), .val (.ref ar), .unset] [(.int (1 : Int32))])) ?_ (fun t_ k_ => XS.iconst X43.here hx rfl (hb hby at_210) k_)
            refine Goes.on (T' := T43) (g' := (mkF m 215 #[.val (.int ya0), .val (.int ya1), .val (.int ya2), .val (.int ya3), .val (.int sa), .val (.int ap), .val (.ref b1), .val (.ref b5), .val (.ref pn), .val (.ref qy), .val (.ref pr), .val (.ref ar), .val (.ref ot), .val (.int (0 : Int32)), .val (.int (1 : Int32)), .val (.int (0 : Int32)), .val (.ref ar), .unset] [(.int (1 : Int32))])) ?_ (fun t_ k_ => XS.goto X43.here hx rfl (pc0 := 211) (pc' := 215) rfl (hb hby at_211) (by decide) (by decide) k_)
            refine Goes.on (T' := T43) (g' := (mkF m 217 #[.val (.int ya0), .val (.int ya1), .val (.int ya2), .val (.int ya3), .val (.int sa), .val (.int ap), .val (.ref b1), .val (.ref b5), .val (.ref pn), .val (.ref qy), .val (.ref pr), .val (.ref ar), .val (.ref ot), .val (.int (0 : Int32)), .val (.int (1 : Int32)), .val (.int (0 : Int32)), .val (.ref ar), .val (.int (1 : Int32))] [])) ?_ (fun t_ k_ => XS.istore X43.here hx rfl (hb hby at_215) rfl (l' := #[.val (.int ya0), .val (.int ya1), .val (.int ya2), .val (.int ya3), .val (.int sa), .val (.int ap), .val (.ref b1), .val (.ref b5), .val (.ref pn), .val (.ref qy), .val (.ref pr), .val (.ref ar), .val (.ref ot), .val (.int (0 : Int32)), .val (.int (1 : Int32)), .val (.int (0 : Int32)), .val (.ref ar), .val (.int (1 : Int32))]) rfl k_)
            refine Goes.on (T' := T43) (g' := (mkF m 232 #[.val (.int ya0), .val (.int ya1), .val (.int ya2), .val (.int ya3), .val (.int sa), .val (.int ap), .val (.ref b1), .val (.ref b5), .val (.ref pn), .val (.ref qy), .val (.ref pr), .val (.ref ar), .val (.ref ot), .val (.int (0 : Int32)), .val (.int (1 : Int32)), .val (.int (0 : Int32)), .val (.ref ar), .val (.int (1 : Int32))] [])) ?_ (fun t_ k_ => XS.goto X43.here hx rfl (pc0 := 217) (pc' := 232) rfl (hb hby at_217) (by decide) (by decide) k_)
            refine Goes.on (T' := T43) (g' := (mkF m 234 #[.val (.int ya0), .val (.int ya1), .val (.int ya2), .val (.int ya3), .val (.int sa), .val (.int ap), .val (.ref b1), .val (.ref b5), .val (.ref pn), .val (.ref qy), .val (.ref pr), .val (.ref ar), .val (.ref ot), .val (.int (0 : Int32)), .val (.int (1 : Int32)), .val (.int (0 : Int32)), .val (.ref ar), .val (.int (1 : Int32))] [(.int (0 : Int32))])) ?_ (fun t_ k_ => XS.iload X43.here hx rfl (hb hby at_232) rfl k_)
            refine Goes.on (T' := T43) (g' := (mkF m 237 #[.val (.int ya0), .val (.int ya1), .val (.int ya2), .val (.int ya3), .val (.int sa), .val (.int ap), .val (.ref b1), .val (.ref b5), .val (.ref pn), .val (.ref qy), .val (.ref pr), .val (.ref ar), .val (.ref ot), .val (.int (0 : Int32)), .val (.int (1 : Int32)), .val (.int (0 : Int32)), .val (.ref ar), .val (.int (1 : Int32))] [])) ?_ (fun t_ k_ => XS.ifNo X43.here hx rfl (hb hby at_234) rfl (by decide) k_)
            refine Goes.on (T' := T43) (g' := (mkF m 239 #[.val (.int ya0), .val (.int ya1), .val (.int ya2), .val (.int ya3), .val (.int sa), .val (.int ap), .val (.ref b1), .val (.ref b5), .val (.ref pn), .val (.ref qy), .val (.ref pr), .val (.ref ar), .val (.ref ot), .val (.int (0 : Int32)), .val (.int (1 : Int32)), .val (.int (0 : Int32)), .val (.ref ar), .val (.int (1 : Int32))] [(.int (1 : Int32))])) ?_ (fun t_ k_ => XS.iload X43.here hx rfl (hb hby at_237) rfl k_)
            refine Goes.on (T' := T43) (g' := (mkF m 241 #[.val (.int ya0), .val (.int ya1), .val (.int ya2), .val (.int ya3), .val (.int sa), .val (.int ap), .val (.ref b1), .val (.ref b5), .val (.ref pn), .val (.ref qy), .val (.ref pr), .val (.ref ar), .val (.ref ot), .val (.int (0 : Int32)), .val (.int (1 : Int32)), .val (.int (0 : Int32)), .val (.ref ar), .val (.int (1 : Int32))] [(.int sa), (.int (1 : Int32))])) ?_ (fun t_ k_ => XS.iload X43.here hx rfl (hb hby at_239) rfl k_)
            refine Goes.on (T' := T43) (g' := (mkF m 244 #[.val (.int ya0), .val (.int ya1), .val (.int ya2), .val (.int ya3), .val (.int sa), .val (.int ap), .val (.ref b1), .val (.ref b5), .val (.ref pn), .val (.ref qy), .val (.ref pr), .val (.ref ar), .val (.ref ot), .val (.int (0 : Int32)), .val (.int (1 : Int32)), .val (.int (0 : Int32)), .val (.ref ar), .val (.int (1 : Int32))] [])) ?_ (fun t_ k_ => XS.icmpNo X43.here hx rfl (hb hby at_241) rfl (teq (hsa.resolve_left hc128).symm).2 k_)
            refine Goes.on (T' := T43) (g' := (mkF m 246 #[.val (.int ya0), .val (.int ya1), .val (.int ya2), .val (.int ya3), .val (.int sa), .val (.int ap), .val (.ref b1), .val (.ref b5), .val (.ref pn), .val (.ref qy), .val (.ref pr), .val (.ref ar), .val (.ref ot), .val (.int (0 : Int32)), .val (.int (1 : Int32)), .val (.int (0 : Int32)), .val (.ref ar), .val (.int (1 : Int32))] [(.int (1 : Int32))])) ?_ (fun t_ k_ => XS.iload X43.here hx rfl (hb hby at_244) rfl k_)
            refine Goes.on (T' := T43) (g' := (mkF m 249 #[.val (.int ya0), .val (.int ya1), .val (.int ya2), .val (.int ya3), .val (.int sa), .val (.int ap), .val (.ref b1), .val (.ref b5), .val (.ref pn), .val (.ref qy), .val (.ref pr), .val (.ref ar), .val (.ref ot), .val (.int (0 : Int32)), .val (.int (1 : Int32)), .val (.int (0 : Int32)), .val (.ref ar), .val (.int (1 : Int32))] [])) ?_ (fun t_ k_ => XS.ifNo X43.here hx rfl (hb hby at_246) rfl (by decide) k_)
            refine Goes.on (T' := T43) (g' := (mkF m 250 #[.val (.int ya0), .val (.int ya1), .val (.int ya2), .val (.int ya3), .val (.int sa), .val (.int ap), .val (.ref b1), .val (.ref b5), .val (.ref pn), .val (.ref qy), .val (.ref pr), .val (.ref ar), .val (.ref ot), .val (.int (0 : Int32)), .val (.int (1 : Int32)), .val (.int (0 : Int32)), .val (.ref ar), .val (.int (1 : Int32))] [(.int (1 : Int32))])) ?_ (fun t_ k_ => XS.iconst X43.here hx rfl (hb hby at_249) k_)
            refine Goes.on (T' := T43) (g' := (mkF m 254 #[.val (.int ya0), .val (.int ya1), .val (.int ya2), .val (.int ya3), .val (.int sa), .val (.int ap), .val (.ref b1), .val (.ref b5), .val (.ref pn), .val (.ref qy), .val (.ref pr), .val (.ref ar), .val (.ref ot), .val (.int (0 : Int32)), .val (.int (1 : Int32)), .val (.int (0 : Int32)), .val (.ref ar), .val (.int (1 : Int32))] [(.int (1 : Int32))])) ?_ (fun t_ k_ => XS.goto X43.here hx rfl (pc0 := 250) (pc' := 254) rfl (hb hby at_250) (by decide) (by decide) k_)
            rw [hWd]
            exact Goes.retn X43 (v := some (.int (nar .boolean (1 : Int32)))) (fun fs hr => retN X43 hx (t := .boolean) Bd.returns (by simp) (hb hby at_254) hr) (fun h => by rw [Bd.returns] at h; cases h) Bd.notSynchronized (by decide) (by decide) ⟨rfl, N43⟩
    refine Goes.on (T' := s₁) (g' := (mkF m 14 #[.val (.int ya0), .val (.int ya1), .val (.int ya2), .val (.int ya3), .val (.int sa), .unset, .unset, .unset, .unset, .unset, .unset, .unset, .unset, .unset, .unset, .unset, .unset, .unset] [(.int ya0)])) ?_ (fun t_ k_ => XS.iloadN X0.here hx rfl (hb hby at_13) rfl k_)
    refine Goes.on (T' := s₁) (g' := (mkF m 15 #[.val (.int ya0), .val (.int ya1), .val (.int ya2), .val (.int ya3), .val (.int sa), .unset, .unset, .unset, .unset, .unset, .unset, .unset, .unset, .unset, .unset, .unset, .unset, .unset] [(.int (2 : Int32)), (.int ya0)])) ?_ (fun t_ k_ => XS.iconst X0.here hx rfl (hb hby at_14) k_)
    refine Goes.on (T' := s₁) (g' := (mkF m 16 #[.val (.int ya0), .val (.int ya1), .val (.int ya2), .val (.int ya3), .val (.int sa), .unset, .unset, .unset, .unset, .unset, .unset, .unset, .unset, .unset, .unset, .unset, .unset, .unset] [(.int (ya0 &&& (2 : Int32)))])) ?_ (fun t_ k_ => XS.iand X0.here hx rfl (hb hby at_15) rfl k_)
    refine Goes.ifP X0 hx rfl (pc0 := 16) (pc' := 23) rfl (hb hby at_16) rfl (by decide) (by decide) (P := (ya0 &&& (2 : Int32)) = (0 : Int32)) (ifc_eq _ _) (fun hc16 => ?_) (fun hc16 => ?_)
    · show Goes p e below W s₁ (mkF m 23 #[.val (.int ya0), .val (.int ya1), .val (.int ya2), .val (.int ya3), .val (.int sa), .unset, .unset, .unset, .unset, .unset, .unset, .unset, .unset, .unset, .unset, .unset, .unset, .unset] [])
      refine Goes.on (T' := s₁) (g' := (mkF m 24 #[.val (.int ya0), .val (.int ya1), .val (.int ya2), .val (.int ya3), .val (.int sa), .unset, .unset, .unset, .unset, .unset, .unset, .unset, .unset, .unset, .unset, .unset, .unset, .unset] [(.int (0 : Int32))])) ?_ (fun t_ k_ => XS.iconst X0.here hx rfl (hb hby at_23) k_)
      exact J24 _ (Or.inl rfl)
    · show Goes p e below W s₁ (mkF m 19 #[.val (.int ya0), .val (.int ya1), .val (.int ya2), .val (.int ya3), .val (.int sa), .unset, .unset, .unset, .unset, .unset, .unset, .unset, .unset, .unset, .unset, .unset, .unset, .unset] [])
      refine Goes.on (T' := s₁) (g' := (mkF m 20 #[.val (.int ya0), .val (.int ya1), .val (.int ya2), .val (.int ya3), .val (.int sa), .unset, .unset, .unset, .unset, .unset, .unset, .unset, .unset, .unset, .unset, .unset, .unset, .unset] [(.int (1 : Int32))])) ?_ (fun t_ k_ => XS.iconst X0.here hx rfl (hb hby at_19) k_)
      refine Goes.on (T' := s₁) (g' := (mkF m 24 #[.val (.int ya0), .val (.int ya1), .val (.int ya2), .val (.int ya3), .val (.int sa), .unset, .unset, .unset, .unset, .unset, .unset, .unset, .unset, .unset, .unset, .unset, .unset, .unset] [(.int (1 : Int32))])) ?_ (fun t_ k_ => XS.goto X0.here hx rfl (pc0 := 20) (pc' := 24) rfl (hb hby at_20) (by decide) (by decide) k_)
      exact J24 _ (Or.inr rfl)
  refine Goes.on (T' := s₁) (g' := (mkF m 1 #[.val (.int ya0), .val (.int ya1), .val (.int ya2), .val (.int ya3), .unset, .unset, .unset, .unset, .unset, .unset, .unset, .unset, .unset, .unset, .unset, .unset, .unset, .unset] [(.int ya0)])) ?_ (fun t_ k_ => XS.iloadN X0.here hx rfl (hb hby at_0) rfl k_)
  refine Goes.on (T' := s₁) (g' := (mkF m 2 #[.val (.int ya0), .val (.int ya1), .val (.int ya2), .val (.int ya3), .unset, .unset, .unset, .unset, .unset, .unset, .unset, .unset, .unset, .unset, .unset, .unset, .unset, .unset] [(.int (1 : Int32)), (.int ya0)])) ?_ (fun t_ k_ => XS.iconst X0.here hx rfl (hb hby at_1) k_)
  refine Goes.on (T' := s₁) (g' := (mkF m 3 #[.val (.int ya0), .val (.int ya1), .val (.int ya2), .val (.int ya3), .unset, .unset, .unset, .unset, .unset, .unset, .unset, .unset, .unset, .unset, .unset, .unset, .unset, .unset] [(.int (ya0 &&& (1 : Int32)))])) ?_ (fun t_ k_ => XS.iand X0.here hx rfl (hb hby at_2) rfl k_)
  refine Goes.ifP X0 hx rfl (pc0 := 3) (pc' := 10) rfl (hb hby at_3) rfl (by decide) (by decide) (P := (ya0 &&& (1 : Int32)) = (0 : Int32)) (ifc_eq _ _) (fun hc3 => ?_) (fun hc3 => ?_)
  · show Goes p e below W s₁ (mkF m 10 #[.val (.int ya0), .val (.int ya1), .val (.int ya2), .val (.int ya3), .unset, .unset, .unset, .unset, .unset, .unset, .unset, .unset, .unset, .unset, .unset, .unset, .unset, .unset] [])
    refine Goes.on (T' := s₁) (g' := (mkF m 11 #[.val (.int ya0), .val (.int ya1), .val (.int ya2), .val (.int ya3), .unset, .unset, .unset, .unset, .unset, .unset, .unset, .unset, .unset, .unset, .unset, .unset, .unset, .unset] [(.int (0 : Int32))])) ?_ (fun t_ k_ => XS.iconst X0.here hx rfl (hb hby at_10) k_)
    exact J11 _ (Or.inl rfl)
  · show Goes p e below W s₁ (mkF m 6 #[.val (.int ya0), .val (.int ya1), .val (.int ya2), .val (.int ya3), .unset, .unset, .unset, .unset, .unset, .unset, .unset, .unset, .unset, .unset, .unset, .unset, .unset, .unset] [])
    refine Goes.on (T' := s₁) (g' := (mkF m 7 #[.val (.int ya0), .val (.int ya1), .val (.int ya2), .val (.int ya3), .unset, .unset, .unset, .unset, .unset, .unset, .unset, .unset, .unset, .unset, .unset, .unset, .unset, .unset] [(.int (1 : Int32))])) ?_ (fun t_ k_ => XS.iconst X0.here hx rfl (hb hby at_6) k_)
    refine Goes.on (T' := s₁) (g' := (mkF m 11 #[.val (.int ya0), .val (.int ya1), .val (.int ya2), .val (.int ya3), .unset, .unset, .unset, .unset, .unset, .unset, .unset, .unset, .unset, .unset, .unset, .unset, .unset, .unset] [(.int (1 : Int32))])) ?_ (fun t_ k_ => XS.goto X0.here hx rfl (pc0 := 7) (pc' := 11) rfl (hb hby at_7) (by decide) (by decide) k_)
    exact J11 _ (Or.inr rfl)
set_option maxRecDepth 65536 in
set_option maxHeartbeats 40000000 in
theorem comes_1 {Post : Tables → Env → Array Value → State → Outcome → State → Prop} (hpost : ∀ tb e args s v u, (limb_1_1.after args s (.returned v) u = true ∧ limb_1_2.after args s (.returned v) u = true ∧ True) → FrameEnd s (.returned v) u (Jvm.fieldLocs frame_1_writes args s ++ Jvm.arrayLocs frame_1_arrays args s ++ Jvm.staticLocs frame_1_statics s) 56 320 → Post tb e args s (.returned v) u) :
    ArmFor flags0 classFile x code maxLocals ret World_1 tables_1 room_1 Calls_1 rest_1 Pre_1 Post := by
  intro l hfl _ _ p e ha hc hk s m args below hf hA hF happ hP
  obtain ⟨hcalls, hrest, hpre⟩ := hP
  obtain ⟨-, -, -, hnamed, -, -, -, hat⟩ := (Spec.applies_iff hf).mp happ
  obtain ⟨hg, hn⟩ := and_e (Cond.before_iff.mp (show (Jvm.Cond.and given_1 narrow_1).before args s = true from hpre))
  obtain ⟨hcount, hq0⟩ := and_e hg
  obtain ⟨ha0, hq1⟩ := and_e hq0
  obtain ⟨ha1, hq2⟩ := and_e hq1
  obtain ⟨ha2, hq3⟩ := and_e hq2
  have ha3 := hq3
  obtain ⟨w0, w1, w2, w3, rfl⟩ : ∃ w0 w1 w2 w3 : Value, args = #[w0, w1, w2, w3] := by
    have hs : args.size = 4 := by simpa [Cond.value, given_1] using hcount
    obtain ⟨L⟩ := args
    match L, hs with
    | [w0, w1, w2, w3], _ => exact ⟨w0, w1, w2, w3, rfl⟩
  have hw := fun d (hd : d ∈ tables_1) => atoms_spec (ws := Jvm.Cond.code x code maxLocals ret :: tables_1) hat d (List.mem_cons_of_mem _ hd)
  obtain ⟨hsets, hown0⟩ := atoms_of _ (rest_1_c_eq ▸ (show rest_1_c.before _ s = true from hrest))
  have hfit : Fit s := fun {y c} hc i hi => by
    obtain ⟨ha, rfl⟩ := Array.getElem?_eq_some_iff.mp hc
    have q := List.all_eq_true.mp ((Array.all_eq_true_iff_forall_mem.mp hF) _ (Array.getElem_mem ha)) i (List.mem_range.mpr hi)
    simpa [Array.getElem?_eq_getElem hi] using q
  obtain ⟨i0, ea0⟩ := is_v ha0
  obtain rfl : w0 = (.int i0) := Option.some.inj ea0
  obtain ⟨i1, ea1⟩ := is_v ha1
  obtain rfl : w1 = (.int i1) := Option.some.inj ea1
  obtain ⟨i2, ea2⟩ := is_v ha2
  obtain rfl : w2 = (.int i2) := Option.some.inj ea2
  obtain ⟨i3, ea3⟩ := is_v ha3
  obtain rfl : w3 = (.int i3) := Option.some.inj ea3
  obtain ⟨zc, ecz⟩ := is_v (Cond.before_iff.mp (hsets _ (List.mem_of_getElem? (i := 1) rfl)))
  have CS : Sta s s.heap "java/lang/String" "COMPACT_STRINGS" "Z" (.int zc) := Sta.start ecz (Or.inl (hsets _ (List.mem_of_getElem? (i := 0) rfl)))
  have hzc : ¬ zc = (0 : Int32) := gotF (Cond.eq_ints ecz (Term.int_eval (0))) (not_v (Cond.before_iff.mp (hsets _ (List.mem_of_getElem? (i := 2) rfl))))
  obtain ⟨x1_, x2_⟩ := and_e hn
  obtain ⟨kl, ekl⟩ := exa_v x1_
  obtain ⟨kt, ekt⟩ := exa_v x2_
  have KL := Sta.start ekl (Or.inr ⟨(hw _ (List.mem_of_getElem? (i := 51) rfl)), (hw _ (List.mem_of_getElem? (i := 52) rfl))⟩)
  have KT := Sta.start ekt (Or.inr ⟨(hw _ (List.mem_of_getElem? (i := 77) rfl)), (hw _ (List.mem_of_getElem? (i := 78) rfl))⟩)
  obtain ⟨el, eel⟩ := exa_v (Cond.before_iff.mp (hsets _ (List.mem_of_getElem? (i := 11) rfl)))
  have LS := Sta.start eel (Or.inl (hsets _ (List.mem_of_getElem? (i := 10) rfl)))
  have EE := Exa.start eel (Cond.before_iff.mp (hsets _ (List.mem_of_getElem? (i := 11) rfl)))
  have EA := Fld.start ((fld_at eel).symm.trans (eqv_i (Term.int_eval (0)) (Cond.before_iff.mp (hsets _ (List.mem_of_getElem? (i := 15) rfl)))))
  obtain ⟨n, o, h1, h2, h3, _, L, rfl, ⟨rfl, N⟩, hq⟩ := rm0 l s _ hw tables_1 i0 i1 i2 i3 zc kl kt el s.heap s.heap.size (Nat.le_refl _) CS hzc KL KT LS EE EA (Old.start s) p e ha hc hk s m _ below hf ((Spec.applies_iff_loose hf).mp happ).1 ⟨rfl, State.Warmed39.refl s, rfl⟩ trivial
  refine ⟨n, _, h1, h2, h3, hpost _ _ _ _ _ _ ⟨Cond.after_iff.mpr rfl, Cond.after_iff.mpr (eq_i res_at (Term.int_eval (1)) rfl), trivial⟩ ⟨hq.1, hq.2.1, (hq.2.2.sift fun y hy => Or.inr (N y hy)).mono (by decide) (by decide)⟩⟩
theorem main_1_1 : Claimed_1_1 := comes_1 fun _ _ _ _ _ _ h hF => ⟨h.1, hF⟩
theorem main_1_2 : Claimed_1_2 := comes_1 fun _ _ _ _ _ _ h hF => ⟨h.2.1, hF⟩
end Jvm.Pilot.@@N@@
namespace Jvm.Pilot.@@N@@
open Jvm Jvm.ClassFile Sem Op Lib Jvm.Free Jvm.Stand Jvm.Pilot.@@N@@.Jvm.D
/-! MADE BY PROGRAM (witnessworld.py) out of the Statement's table words and the real class files: 46 classes; the members and pool entries that the words name. The judged class is class 1, her method 1. -/
namespace start1
open Jvm.ClassFile
def u (s : String) : CpInfo := .utf8 (stringToUtf16 s)
/-- a pool by its gaps: so many unusable entries, then the entry; so many at the end -/
def gap : Nat → List CpInfo → List CpInfo
  | 0, r => r
  | n + 1, r => .unusable :: gap n r
def poolList (es : List (Nat × CpInfo)) (last : Nat) : List CpInfo := es.foldr (fun e r => gap e.1 (e.2 :: r)) (gap last [])
def pool (es : List (Nat × CpInfo)) (last : Nat) : Array CpInfo := ⟨poolList es last⟩
def fileOf (pool : Array CpInfo) (this : Nat) (attrs : Array Attribute := #[]) (ms : Array MethodInfo := #[]) (fl : Nat := 33) (sup : Nat := 0) (ifs : Array Nat := #[]) (fds : Array FieldInfo := #[]) : ClassFile where
  minorVersion := 0
  majorVersion := 65
  constantPool := pool
  accessFlags := fl
  thisClass := this
  superClass := sup
  interfaces := ifs
  fields := fds
  methods := ms
  attributes := attrs
def plain (name : String) (sup : Option ClassId) : Class where
  name := name
  kind := .ordinary
  loader := none
  accessFlags := 33
  super := sup
  interfaces := #[]
  cf := none
  fields := #[]
  methods := #[]
  instanceTypes := #[]
  staticTypes := #[]
  resolved := #[]
  callSites := []
  init := .initialized
  statics := none
  mirror := none

def pool0 : Array CpInfo := pool [(5, u "<init>"), (0, u "()V"), (1, .class_ 10), (1, u "java/lang/Object"), (16, u "hashCode"), (0, u "()I"), (63, u "equals"), (0, u "(Ljava/lang/Object;)Z")] 30

def k0c0 : Code := { maxStack := 0, maxLocals := 1, code := object_method_1_code, exceptionTable := #[], attributes := #[] }
def k0m0 : Method := { name := "<init>", desc := "()V", sig := { parameters := [], returnType := none }, accessFlags := 1, code := some k0c0 }
def k0m1 : Method := { name := "hashCode", desc := "()I", sig := { parameters := [], returnType := some .int }, accessFlags := 257, code := none }
def k0c2 : Code := { maxStack := 2, maxLocals := 2, code := ⟨#[0x2a, 0x2b, 0xa6, 0x00, 0x07, 0x04, 0xa7, 0x00, 0x04, 0x03, 0xac]⟩, exceptionTable := #[], attributes := #[] }
def k0m2 : Method := { name := "equals", desc := "(Ljava/lang/Object;)Z", sig := { parameters := [(.object "java/lang/Object")], returnType := some .boolean }, accessFlags := 1, code := some k0c2 }
/-- java/lang/Object -/
def k0 : Class := { plain "java/lang/Object" none with
  accessFlags := 33
  interfaces := #[]
  cf := some (fileOf pool0 8 #[] #[{ accessFlags := 1, nameIndex := 5, descriptorIndex := 6, attributes := #[] }, { accessFlags := 257, nameIndex := 27, descriptorIndex := 28, attributes := #[] }, { accessFlags := 1, nameIndex := 92, descriptorIndex := 93, attributes := #[] }] 33 0 #[] #[])
  fields := #[]
  methods := #[k0m0, k0m1, k0m2]
  instanceTypes := #[]
  staticTypes := #[]
  resolved := Array.replicate 124 none
  statics := none }

def pool1 : Array CpInfo := pool [(2, .class_ 4), (1, u "java/lang/Object"), (0, u "<init>"), (0, u "()V"), (0, .class_ 8), (0, u "java/lang/String"), (0, .methodref 7 10), (0, .nameAndType 5 11), (0, u "([C)V"), (0, .methodref 7 13), (0, .nameAndType 14 15), (0, u "valueOf"), (0, u "(C)Ljava/lang/String;"), (0, .methodref 17 18), (0, .class_ 19), (0, .nameAndType 20 21), (0, u "com/example/entitlement/entitlement/Term"), (0, u "local"), (0, u "(Ljava/lang/String;)Lcom/example/entitlement/entitlement/Term;"), (0, .methodref 23 24), (0, .class_ 25), (0, .nameAndType 26 27), (0, u "com/example/entitlement/entitlement/Expression"), (0, u "term"), (0, u "(Lcom/example/entitlement/entitlement/Term;)Lcom/example/entitlement/entitlement/Expression;"), (0, .class_ 29), (0, u "com/example/entitlement/entitlement/ObjectType"), (0, .methodref 28 31), (0, .nameAndType 5 32), (0, u "(Ljava/lang/String;)V"), (0, .methodref 28 34), (0, .nameAndType 35 36), (0, u "hasActionPermission"), (0, u "()Z"), (0, .methodref 28 38), (0, .nameAndType 39 40), (0, u "addPermission"), (0, u "(Ljava/lang/String;Lcom/example/entitlement/entitlement/Expression;)V"), (0, .methodref 28 42), (0, .nameAndType 43 44), (0, u "setActionPermission"), (0, u "(Lcom/example/entitlement/entitlement/Expression;)V"), (0, .methodref 7 46), (0, .nameAndType 47 48), (0, u "equals"), (0, u "(Ljava/lang/Object;)Z"), (0, .methodref 28 50), (0, .nameAndType 51 52), (0, u "ruleFor"), (0, u "(Ljava/lang/String;)Lcom/example/entitlement/entitlement/Expression;"), (0, .class_ 54), (0, u "com/example/entitlement/entitlement/ObjectTypeHasActionPermissionPinLaw"), (2, u "law"), (0, u "(IIII)Z")] 5

def k1m0 : Method := { name := "<init>", desc := "()V", sig := { parameters := [], returnType := none }, accessFlags := 1, code := none }
def k1c1 : Code := { maxStack := 4, maxLocals := 18, code := code, exceptionTable := #[], attributes := #[] }
def k1m1 : Method := { name := "law", desc := "(IIII)Z", sig := { parameters := [.int, .int, .int, .int], returnType := some .boolean }, accessFlags := 9, code := some k1c1 }
/-- com/example/entitlement/entitlement/ObjectTypeHasActionPermissionPinLaw -/
def k1 : Class := { plain "com/example/entitlement/entitlement/ObjectTypeHasActionPermissionPinLaw" (some 0) with
  accessFlags := 49
  interfaces := #[]
  cf := some (fileOf pool1 53 #[] #[{ accessFlags := 1, nameIndex := 5, descriptorIndex := 6, attributes := #[] }, { accessFlags := 9, nameIndex := 57, descriptorIndex := 58, attributes := #[] }] 49 2 #[] #[])
  fields := #[]
  methods := #[k1m0, k1m1]
  instanceTypes := #[]
  staticTypes := #[]
  resolved := Array.replicate 64 none
  statics := none }

def pool2 : Array CpInfo := pool [(1, .class_ 2), (0, u "java/io/Serializable"), (0, .class_ 4), (0, u "java/lang/Object")] 2

/-- java/io/Serializable -/
def k2 : Class := { plain "java/io/Serializable" (some 0) with
  accessFlags := 1537
  interfaces := #[]
  cf := some (fileOf pool2 1 #[] #[] 1537 3 #[] #[])
  fields := #[]
  methods := #[]
  instanceTypes := #[]
  staticTypes := #[]
  resolved := Array.replicate 7 none
  statics := none }

def pool3 : Array CpInfo := pool [(1, .class_ 2), (0, u "java/lang/Comparable"), (0, .class_ 4), (0, u "java/lang/Object")] 7

/-- java/lang/Comparable -/
def k3 : Class := { plain "java/lang/Comparable" (some 0) with
  accessFlags := 1537
  interfaces := #[]
  cf := some (fileOf pool3 1 #[] #[] 1537 3 #[] #[])
  fields := #[]
  methods := #[]
  instanceTypes := #[]
  staticTypes := #[]
  resolved := Array.replicate 12 none
  statics := none }

def pool4 : Array CpInfo := pool [(2, .class_ 4), (1, u "java/lang/CharSequence"), (42, .class_ 48), (0, u "java/lang/CharSequence$1CodePointIterator"), (10, .class_ 60), (0, u "java/lang/CharSequence$1CharIterator"), (5, .class_ 67), (0, u "java/lang/Object")] 63

/-- java/lang/CharSequence -/
def k4 : Class := { plain "java/lang/CharSequence" (some 0) with
  accessFlags := 1537
  interfaces := #[]
  cf := some (fileOf pool4 2 #[.nestMembers #[47, 59]] #[] 1537 66 #[] #[])
  fields := #[]
  methods := #[]
  instanceTypes := #[]
  staticTypes := #[]
  resolved := Array.replicate 131 none
  statics := none }

def pool5 : Array CpInfo := pool [(1, .class_ 2), (0, u "java/lang/constant/Constable"), (0, .class_ 4), (0, u "java/lang/Object")] 6

/-- java/lang/constant/Constable -/
def k5 : Class := { plain "java/lang/constant/Constable" (some 0) with
  accessFlags := 1537
  interfaces := #[]
  cf := some (fileOf pool5 1 #[] #[] 1537 3 #[] #[])
  fields := #[]
  methods := #[]
  instanceTypes := #[]
  staticTypes := #[]
  resolved := Array.replicate 11 none
  statics := none }

def pool6 : Array CpInfo := pool [(1, .class_ 2), (0, u "java/lang/constant/ConstantDesc"), (0, .class_ 4), (0, u "java/lang/Object")] 32

/-- java/lang/constant/ConstantDesc -/
def k6 : Class := { plain "java/lang/constant/ConstantDesc" (some 0) with
  accessFlags := 1537
  interfaces := #[]
  cf := some (fileOf pool6 1 #[] #[] 1537 3 #[] #[])
  fields := #[]
  methods := #[]
  instanceTypes := #[]
  staticTypes := #[]
  resolved := Array.replicate 37 none
  statics := none }

def pool7 : Array CpInfo := pool [(1, .methodref 2 3), (0, .class_ 4), (0, .nameAndType 5 6), (0, u "java/lang/Object"), (0, u "<init>"), (0, u "()V"), (2, .fieldref 10 11), (0, .class_ 12), (0, .nameAndType 13 14), (0, u "java/lang/String"), (0, u "value"), (0, u "[B"), (0, .fieldref 10 16), (0, .nameAndType 17 18), (0, u "coder"), (0, u "B"), (0, .fieldref 10 20), (0, .nameAndType 21 22), (0, u "hash"), (0, u "I"), (0, .fieldref 10 24), (0, .nameAndType 25 26), (0, u "hashIsZero"), (0, u "Z"), (0, .methodref 10 28), (0, .nameAndType 5 29), (0, u "([CIILjava/lang/Void;)V"), (8, .fieldref 10 39), (0, .nameAndType 40 26), (0, u "COMPACT_STRINGS"), (1, .class_ 44), (1, u "java/lang/StringUTF16"), (0, u "compress"), (1, .methodref 42 48), (0, .nameAndType 49 50), (0, u "coderFromArrayLen"), (0, u "([BI)B"), (2, u "toBytes"), (53, .class_ 109), (1, u "java/lang/StringLatin1"), (32, u "()Z"), (34, .methodref 42 178), (0, .nameAndType 45 179), (0, u "([CII)[B"), (29, .methodref 10 210), (0, .nameAndType 5 211), (0, u "([BB)V"), (122, u "()I"), (34, u "(C)Z"), (122, .methodref 10 493), (0, .nameAndType 494 142), (0, u "isLatin1"), (46, .methodref 107 542), (0, .nameAndType 543 544), (0, u "equals"), (0, u "([B[B)Z"), (28, u "(Ljava/lang/Object;)Z"), (1, .class_ 576), (0, u "java/lang/CharSequence"), (22, u "CASE_INSENSITIVE_ORDER"), (0, u "Ljava/util/Comparator;"), (27, .methodref 107 629), (0, .nameAndType 630 631), (0, u "hashCode"), (0, u "([B)I"), (150, u "valueOf"), (0, u "(C)Ljava/lang/String;"), (226, u "([C)V"), (4, .methodref 107 1016), (0, .nameAndType 1017 369), (0, u "canEncode"), (0, .methodref 107 1019), (0, .nameAndType 53 1020), (0, u "(C)[B"), (80, u "serialPersistentFields"), (0, u "[Ljava/io/ObjectStreamField;"), (0, .class_ 1104), (0, u "java/lang/String$CaseInsensitiveComparator"), (1, .class_ 1107), (0, u "java/io/Serializable"), (0, .class_ 1109), (0, u "java/lang/Comparable"), (0, .class_ 1111), (0, u "java/lang/constant/Constable"), (0, .class_ 1113), (0, u "java/lang/constant/ConstantDesc"), (2, u "serialVersionUID"), (0, u "J"), (3, u "REPL"), (0, u "C"), (2, u "LATIN1"), (1, u "UTF16")] 323

def k7m0 : Method := { name := "<init>", desc := "()V", sig := { parameters := [], returnType := none }, accessFlags := 1, code := none }
def k7c1 : Code := { maxStack := 5, maxLocals := 2, code := jdk_42_method_3_code, exceptionTable := #[], attributes := #[] }
def k7m1 : Method := { name := "<init>", desc := "([C)V", sig := { parameters := [(.array .char)], returnType := none }, accessFlags := 1, code := some k7c1 }
def k7c2 : Code := { maxStack := 2, maxLocals := 3, code := jdk_42_method_66_code, exceptionTable := #[], attributes := #[] }
def k7m2 : Method := { name := "equals", desc := "(Ljava/lang/Object;)Z", sig := { parameters := [(.object "java/lang/Object")], returnType := some .boolean }, accessFlags := 1, code := some k7c2 }
def k7c3 : Code := { maxStack := 2, maxLocals := 2, code := jdk_42_method_78_code, exceptionTable := #[], attributes := #[] }
def k7m3 : Method := { name := "hashCode", desc := "()I", sig := { parameters := [], returnType := some .int }, accessFlags := 1, code := some k7c3 }
def k7c4 : Code := { maxStack := 4, maxLocals := 1, code := jdk_42_method_139_code, exceptionTable := #[], attributes := #[] }
def k7m4 : Method := { name := "valueOf", desc := "(C)Ljava/lang/String;", sig := { parameters := [.char], returnType := some (.object "java/lang/String") }, accessFlags := 9, code := some k7c4 }
def k7c5 : Code := { maxStack := 4, maxLocals := 6, code := jdk_42_method_149_code, exceptionTable := #[], attributes := #[] }
def k7m5 : Method := { name := "<init>", desc := "([CIILjava/lang/Void;)V", sig := { parameters := [(.array .char), .int, .int, (.object "java/lang/Void")], returnType := none }, accessFlags := 2, code := some k7c5 }
def k7c6 : Code := { maxStack := 2, maxLocals := 3, code := jdk_42_method_151_code, exceptionTable := #[], attributes := #[] }
def k7m6 : Method := { name := "<init>", desc := "([BB)V", sig := { parameters := [(.array .byte), .byte], returnType := none }, accessFlags := 0, code := some k7c6 }
def k7c7 : Code := { maxStack := 1, maxLocals := 1, code := jdk_42_method_154_code, exceptionTable := #[], attributes := #[] }
def k7m7 : Method := { name := "isLatin1", desc := "()Z", sig := { parameters := [], returnType := some .boolean }, accessFlags := 0, code := some k7c7 }
/-- java/lang/String -/
def k7 : Class := { plain "java/lang/String" (some 0) with
  accessFlags := 49
  interfaces := #[2, 3, 4, 5, 6]
  cf := some (fileOf pool7 10 #[.nestMembers #[1103]] #[{ accessFlags := 1, nameIndex := 5, descriptorIndex := 6, attributes := #[] }, { accessFlags := 1, nameIndex := 5, descriptorIndex := 1010, attributes := #[] }, { accessFlags := 1, nameIndex := 543, descriptorIndex := 573, attributes := #[] }, { accessFlags := 1, nameIndex := 630, descriptorIndex := 334, attributes := #[] }, { accessFlags := 9, nameIndex := 782, descriptorIndex := 783, attributes := #[] }, { accessFlags := 2, nameIndex := 5, descriptorIndex := 29, attributes := #[] }, { accessFlags := 0, nameIndex := 5, descriptorIndex := 211, attributes := #[] }, { accessFlags := 0, nameIndex := 494, descriptorIndex := 142, attributes := #[] }] 49 2 #[1106, 1108, 575, 1110, 1112] #[{ accessFlags := 18, nameIndex := 13, descriptorIndex := 14, attributes := #[] }, { accessFlags := 18, nameIndex := 17, descriptorIndex := 18, attributes := #[] }, { accessFlags := 2, nameIndex := 21, descriptorIndex := 22, attributes := #[] }, { accessFlags := 2, nameIndex := 25, descriptorIndex := 26, attributes := #[] }, { accessFlags := 26, nameIndex := 1116, descriptorIndex := 1117, attributes := #[] }, { accessFlags := 24, nameIndex := 40, descriptorIndex := 26, attributes := #[] }, { accessFlags := 26, nameIndex := 1101, descriptorIndex := 1102, attributes := #[] }, { accessFlags := 26, nameIndex := 1121, descriptorIndex := 1122, attributes := #[] }, { accessFlags := 25, nameIndex := 599, descriptorIndex := 600, attributes := #[] }, { accessFlags := 24, nameIndex := 1125, descriptorIndex := 18, attributes := #[] }, { accessFlags := 24, nameIndex := 1127, descriptorIndex := 18, attributes := #[] }])
  fields := #[{ name := "value", type := (.array .byte), accessFlags := 18, slot := 0, constantValue := 0 }, { name := "coder", type := .byte, accessFlags := 18, slot := 1, constantValue := 0 }, { name := "hash", type := .int, accessFlags := 2, slot := 2, constantValue := 0 }, { name := "hashIsZero", type := .boolean, accessFlags := 2, slot := 3, constantValue := 0 }, { name := "serialVersionUID", type := .long, accessFlags := 26, slot := 0, constantValue := 0 }, { name := "COMPACT_STRINGS", type := .boolean, accessFlags := 24, slot := 1, constantValue := 0 }, { name := "serialPersistentFields", type := (.array (.object "java/io/ObjectStreamField")), accessFlags := 26, slot := 2, constantValue := 0 }, { name := "REPL", type := .char, accessFlags := 26, slot := 3, constantValue := 0 }, { name := "CASE_INSENSITIVE_ORDER", type := (.object "java/util/Comparator"), accessFlags := 25, slot := 4, constantValue := 0 }, { name := "LATIN1", type := .byte, accessFlags := 24, slot := 5, constantValue := 0 }, { name := "UTF16", type := .byte, accessFlags := 24, slot := 6, constantValue := 0 }]
  methods := #[k7m0, k7m1, k7m2, k7m3, k7m4, k7m5, k7m6, k7m7]
  instanceTypes := #[(.array .byte), .byte, .int, .boolean]
  staticTypes := #[.long, .boolean, (.array (.object "java/io/ObjectStreamField")), .char, (.object "java/util/Comparator"), .byte, .byte]
  resolved := Array.replicate 1451 none
  statics := some 0 }

def pool8 : Array CpInfo := pool [(6, .class_ 8), (1, u "java/lang/Object"), (0, u "<init>"), (0, u "()V"), (1, .class_ 14), (1, u "java/lang/StringUTF16"), (31, u "$assertionsDisabled"), (0, u "Z"), (13, u "HI_BYTE_SHIFT"), (0, u "I"), (2, u "LO_BYTE_SHIFT"), (49, .methodref 12 116), (0, .nameAndType 117 118), (0, u "compress"), (0, u "([CI[BII)I"), (3, u "([CII)[B"), (138, u "coderFromArrayLen"), (0, u "([BI)B"), (106, .class_ 371), (1, u "java/lang/StringUTF16$LinesSpliterator"), (58, u "MAX_LENGTH"), (196, .class_ 628), (0, u "java/lang/StringUTF16$CodePointsSpliterator"), (0, .class_ 630), (0, u "java/lang/StringUTF16$CharsSpliterator")] 4

def k8m0 : Method := { name := "<init>", desc := "()V", sig := { parameters := [], returnType := none }, accessFlags := 0, code := none }
def k8c1 : Code := { maxStack := 2, maxLocals := 2, code := jdk_52_method_15_code, exceptionTable := #[], attributes := #[] }
def k8m1 : Method := { name := "coderFromArrayLen", desc := "([BI)B", sig := { parameters := [(.array .byte), .int], returnType := some .byte }, accessFlags := 8, code := some k8c1 }
def k8c2 : Code := { maxStack := 5, maxLocals := 6, code := jdk_52_method_16_code, exceptionTable := #[], attributes := #[] }
def k8m2 : Method := { name := "compress", desc := "([CII)[B", sig := { parameters := [(.array .char), .int, .int], returnType := some (.array .byte) }, accessFlags := 9, code := some k8c2 }
def k8c3 : Code := { maxStack := 3, maxLocals := 7, code := jdk_52_method_21_code, exceptionTable := #[], attributes := #[] }
def k8m3 : Method := { name := "compress", desc := "([CI[BII)I", sig := { parameters := [(.array .char), .int, (.array .byte), .int, .int], returnType := some .int }, accessFlags := 9, code := some k8c3 }
/-- java/lang/StringUTF16 -/
def k8 : Class := { plain "java/lang/StringUTF16" (some 0) with
  accessFlags := 48
  interfaces := #[]
  cf := some (fileOf pool8 12 #[.nestMembers #[627, 629, 369]] #[{ accessFlags := 0, nameIndex := 9, descriptorIndex := 10, attributes := #[] }, { accessFlags := 8, nameIndex := 261, descriptorIndex := 262, attributes := #[] }, { accessFlags := 9, nameIndex := 117, descriptorIndex := 122, attributes := #[] }, { accessFlags := 9, nameIndex := 117, descriptorIndex := 118, attributes := #[] }] 48 6 #[] #[{ accessFlags := 26, nameIndex := 61, descriptorIndex := 62, attributes := #[] }, { accessFlags := 26, nameIndex := 65, descriptorIndex := 62, attributes := #[] }, { accessFlags := 24, nameIndex := 430, descriptorIndex := 62, attributes := #[] }, { accessFlags := 4120, nameIndex := 46, descriptorIndex := 47, attributes := #[] }])
  fields := #[{ name := "HI_BYTE_SHIFT", type := .int, accessFlags := 26, slot := 0, constantValue := 0 }, { name := "LO_BYTE_SHIFT", type := .int, accessFlags := 26, slot := 1, constantValue := 0 }, { name := "MAX_LENGTH", type := .int, accessFlags := 24, slot := 2, constantValue := 0 }, { name := "$assertionsDisabled", type := .boolean, accessFlags := 4120, slot := 3, constantValue := 0 }]
  methods := #[k8m0, k8m1, k8m2, k8m3]
  instanceTypes := #[]
  staticTypes := #[.int, .int, .int, .boolean]
  resolved := Array.replicate 635 none
  statics := none }

def pool9 : Array CpInfo := pool [(4, .class_ 6), (1, u "java/lang/Object"), (0, u "<init>"), (0, u "()V"), (5, .class_ 16), (1, u "java/lang/StringLatin1"), (40, u "([B)I"), (32, u "canEncode"), (14, u "(C)Z"), (15, u "$assertionsDisabled"), (0, u "Z"), (98, .class_ 223), (1, u "java/lang/StringLatin1$LinesSpliterator"), (57, u "equals"), (0, u "([B[B)Z"), (15, u "hashCode"), (81, u "toBytes"), (1, u "(C)[B"), (7, .class_ 391), (0, u "java/lang/StringLatin1$CharsSpliterator")] 3

def k9m0 : Method := { name := "<init>", desc := "()V", sig := { parameters := [], returnType := none }, accessFlags := 0, code := none }
def k9c1 : Code := { maxStack := 2, maxLocals := 1, code := jdk_43_method_3_code, exceptionTable := #[], attributes := #[] }
def k9m1 : Method := { name := "canEncode", desc := "(C)Z", sig := { parameters := [.char], returnType := some .boolean }, accessFlags := 9, code := some k9c1 }
def k9c2 : Code := { maxStack := 3, maxLocals := 3, code := jdk_43_method_13_code, exceptionTable := #[], attributes := #[] }
def k9m2 : Method := { name := "equals", desc := "([B[B)Z", sig := { parameters := [(.array .byte), (.array .byte)], returnType := some .boolean }, accessFlags := 9, code := some k9c2 }
def k9c3 : Code := { maxStack := 5, maxLocals := 1, code := jdk_43_method_21_code, exceptionTable := #[], attributes := #[] }
def k9m3 : Method := { name := "hashCode", desc := "([B)I", sig := { parameters := [(.array .byte)], returnType := some .int }, accessFlags := 9, code := some k9c3 }
def k9c4 : Code := { maxStack := 4, maxLocals := 1, code := jdk_43_method_46_code, exceptionTable := #[], attributes := #[] }
def k9m4 : Method := { name := "toBytes", desc := "(C)[B", sig := { parameters := [.char], returnType := some (.array .byte) }, accessFlags := 9, code := some k9c4 }
/-- java/lang/StringLatin1 -/
def k9 : Class := { plain "java/lang/StringLatin1" (some 0) with
  accessFlags := 48
  interfaces := #[]
  cf := some (fileOf pool9 14 #[.nestMembers #[390, 221]] #[{ accessFlags := 0, nameIndex := 7, descriptorIndex := 8, attributes := #[] }, { accessFlags := 9, nameIndex := 90, descriptorIndex := 105, attributes := #[] }, { accessFlags := 9, nameIndex := 281, descriptorIndex := 282, attributes := #[] }, { accessFlags := 9, nameIndex := 298, descriptorIndex := 57, attributes := #[] }, { accessFlags := 9, nameIndex := 380, descriptorIndex := 382, attributes := #[] }] 48 4 #[] #[{ accessFlags := 4120, nameIndex := 121, descriptorIndex := 122, attributes := #[] }])
  fields := #[{ name := "$assertionsDisabled", type := .boolean, accessFlags := 4120, slot := 0, constantValue := 0 }]
  methods := #[k9m0, k9m1, k9m2, k9m3, k9m4]
  instanceTypes := #[]
  staticTypes := #[.boolean]
  resolved := Array.replicate 395 none
  statics := none }

def pool10 : Array CpInfo := pool [(1, .methodref 2 3), (0, .class_ 4), (0, .nameAndType 5 6), (0, u "com/example/entitlement/entitlement/Term"), (0, u "<init>"), (0, u "(Lcom/example/entitlement/entitlement/Term$Kind;Ljava/lang/String;Ljava/lang/String;Ljava/lang/String;Lcom/example/entitlement/entitlement/Comparison;)V"), (0, .methodref 8 9), (0, .class_ 10), (0, .nameAndType 5 11), (0, u "java/lang/Object"), (0, u "()V"), (0, .fieldref 2 13), (0, .nameAndType 14 15), (0, u "kind"), (0, u "Lcom/example/entitlement/entitlement/Term$Kind;"), (0, .fieldref 2 17), (0, .nameAndType 18 19), (0, u "through"), (0, u "Ljava/lang/String;"), (0, .fieldref 2 21), (0, .nameAndType 22 19), (0, u "type"), (0, .fieldref 2 24), (0, .nameAndType 25 19), (0, u "name"), (0, .fieldref 2 27), (0, .nameAndType 28 29), (0, u "comparison"), (0, u "Lcom/example/entitlement/entitlement/Comparison;"), (0, .fieldref 31 32), (0, .class_ 33), (0, .nameAndType 34 15), (0, u "com/example/entitlement/entitlement/Term$Kind"), (0, u "LOCAL"), (0, .methodref 2 36), (0, .nameAndType 5 37), (0, u "(Lcom/example/entitlement/entitlement/Term$Kind;Ljava/lang/String;Ljava/lang/String;Ljava/lang/String;)V"), (32, u "ACTION"), (3, u "local"), (0, u "(Ljava/lang/String;)Lcom/example/entitlement/entitlement/Term;")] 24

def k10c0 : Code := { maxStack := 6, maxLocals := 5, code := prog_41_method_1_code, exceptionTable := #[], attributes := #[] }
def k10m0 : Method := { name := "<init>", desc := "(Lcom/example/entitlement/entitlement/Term$Kind;Ljava/lang/String;Ljava/lang/String;Ljava/lang/String;)V", sig := { parameters := [(.object "com/example/entitlement/entitlement/Term$Kind"), (.object "java/lang/String"), (.object "java/lang/String"), (.object "java/lang/String")], returnType := none }, accessFlags := 2, code := some k10c0 }
def k10c1 : Code := { maxStack := 2, maxLocals := 6, code := prog_41_method_2_code, exceptionTable := #[], attributes := #[] }
def k10m1 : Method := { name := "<init>", desc := "(Lcom/example/entitlement/entitlement/Term$Kind;Ljava/lang/String;Ljava/lang/String;Ljava/lang/String;Lcom/example/entitlement/entitlement/Comparison;)V", sig := { parameters := [(.object "com/example/entitlement/entitlement/Term$Kind"), (.object "java/lang/String"), (.object "java/lang/String"), (.object "java/lang/String"), (.object "com/example/entitlement/entitlement/Comparison")], returnType := none }, accessFlags := 2, code := some k10c1 }
def k10c2 : Code := { maxStack := 6, maxLocals := 1, code := prog_41_method_3_code, exceptionTable := #[], attributes := #[] }
def k10m2 : Method := { name := "local", desc := "(Ljava/lang/String;)Lcom/example/entitlement/entitlement/Term;", sig := { parameters := [(.object "java/lang/String")], returnType := some (.object "com/example/entitlement/entitlement/Term") }, accessFlags := 8, code := some k10c2 }
/-- com/example/entitlement/entitlement/Term -/
def k10 : Class := { plain "com/example/entitlement/entitlement/Term" (some 0) with
  accessFlags := 32
  interfaces := #[]
  cf := some (fileOf pool10 2 #[.nestMembers #[31]] #[{ accessFlags := 2, nameIndex := 5, descriptorIndex := 37, attributes := #[] }, { accessFlags := 2, nameIndex := 5, descriptorIndex := 6, attributes := #[] }, { accessFlags := 8, nameIndex := 74, descriptorIndex := 75, attributes := #[] }] 32 8 #[] #[{ accessFlags := 24, nameIndex := 70, descriptorIndex := 19, attributes := #[] }, { accessFlags := 18, nameIndex := 14, descriptorIndex := 15, attributes := #[] }, { accessFlags := 18, nameIndex := 18, descriptorIndex := 19, attributes := #[] }, { accessFlags := 18, nameIndex := 22, descriptorIndex := 19, attributes := #[] }, { accessFlags := 18, nameIndex := 25, descriptorIndex := 19, attributes := #[] }, { accessFlags := 18, nameIndex := 28, descriptorIndex := 29, attributes := #[] }])
  fields := #[{ name := "ACTION", type := (.object "java/lang/String"), accessFlags := 24, slot := 0, constantValue := 0 }, { name := "kind", type := (.object "com/example/entitlement/entitlement/Term$Kind"), accessFlags := 18, slot := 0, constantValue := 0 }, { name := "through", type := (.object "java/lang/String"), accessFlags := 18, slot := 1, constantValue := 0 }, { name := "type", type := (.object "java/lang/String"), accessFlags := 18, slot := 2, constantValue := 0 }, { name := "name", type := (.object "java/lang/String"), accessFlags := 18, slot := 3, constantValue := 0 }, { name := "comparison", type := (.object "com/example/entitlement/entitlement/Comparison"), accessFlags := 18, slot := 4, constantValue := 0 }]
  methods := #[k10m0, k10m1, k10m2]
  instanceTypes := #[(.object "com/example/entitlement/entitlement/Term$Kind"), (.object "java/lang/String"), (.object "java/lang/String"), (.object "java/lang/String"), (.object "com/example/entitlement/entitlement/Comparison")]
  staticTypes := #[(.object "java/lang/String")]
  resolved := Array.replicate 100 none
  statics := none }

def pool11 : Array CpInfo := pool [(2, .class_ 4), (1, u "java/lang/Enum"), (0, u "name"), (0, u "Ljava/lang/String;"), (2, u "ordinal"), (0, u "I"), (1, .class_ 14), (1, u "java/lang/Object"), (4, u "hash"), (86, .class_ 108), (1, u "java/lang/Enum$EnumDesc"), (2, .class_ 112), (0, u "java/lang/constant/Constable"), (0, .class_ 114), (0, u "java/lang/Comparable"), (0, .class_ 116), (0, u "java/io/Serializable")] 87

/-- java/lang/Enum -/
def k11 : Class := { plain "java/lang/Enum" (some 0) with
  accessFlags := 1057
  interfaces := #[5, 3, 2]
  cf := some (fileOf pool11 2 #[.nestMembers #[106]] #[] 1057 12 #[111, 113, 115] #[{ accessFlags := 18, nameIndex := 5, descriptorIndex := 6, attributes := #[] }, { accessFlags := 18, nameIndex := 9, descriptorIndex := 10, attributes := #[] }, { accessFlags := 2, nameIndex := 19, descriptorIndex := 10, attributes := #[] }])
  fields := #[{ name := "name", type := (.object "java/lang/String"), accessFlags := 18, slot := 0, constantValue := 0 }, { name := "ordinal", type := .int, accessFlags := 18, slot := 1, constantValue := 0 }, { name := "hash", type := .int, accessFlags := 2, slot := 2, constantValue := 0 }]
  methods := #[]
  instanceTypes := #[(.object "java/lang/String"), .int, .int]
  staticTypes := #[]
  resolved := Array.replicate 204 none
  statics := none }

def pool12 : Array CpInfo := pool [(1, .class_ 2), (0, u "com/example/entitlement/entitlement/Term$Kind"), (2, u "LOCAL"), (0, u "Lcom/example/entitlement/entitlement/Term$Kind;"), (2, u "THROUGH"), (2, u "ANY_OBJECT"), (2, u "FROM_SUBJECT"), (2, u "ABSENT"), (2, u "ACTION_IN"), (2, u "COMPARISON"), (2, u "$VALUES"), (0, u "[Lcom/example/entitlement/entitlement/Term$Kind;"), (6, .class_ 37), (1, u "java/lang/Enum"), (30, .class_ 69), (0, u "com/example/entitlement/entitlement/Term")] 2

/-- com/example/entitlement/entitlement/Term$Kind -/
def k12 : Class := { plain "com/example/entitlement/entitlement/Term$Kind" (some 11) with
  accessFlags := 16432
  interfaces := #[]
  cf := some (fileOf pool12 1 #[.nestHost 68] #[] 16432 35 #[] #[{ accessFlags := 16409, nameIndex := 5, descriptorIndex := 6, attributes := #[] }, { accessFlags := 16409, nameIndex := 9, descriptorIndex := 6, attributes := #[] }, { accessFlags := 16409, nameIndex := 12, descriptorIndex := 6, attributes := #[] }, { accessFlags := 16409, nameIndex := 15, descriptorIndex := 6, attributes := #[] }, { accessFlags := 16409, nameIndex := 18, descriptorIndex := 6, attributes := #[] }, { accessFlags := 16409, nameIndex := 21, descriptorIndex := 6, attributes := #[] }, { accessFlags := 16409, nameIndex := 24, descriptorIndex := 6, attributes := #[] }, { accessFlags := 4122, nameIndex := 27, descriptorIndex := 28, attributes := #[] }])
  fields := #[{ name := "LOCAL", type := (.object "com/example/entitlement/entitlement/Term$Kind"), accessFlags := 16409, slot := 0, constantValue := 0 }, { name := "THROUGH", type := (.object "com/example/entitlement/entitlement/Term$Kind"), accessFlags := 16409, slot := 1, constantValue := 0 }, { name := "ANY_OBJECT", type := (.object "com/example/entitlement/entitlement/Term$Kind"), accessFlags := 16409, slot := 2, constantValue := 0 }, { name := "FROM_SUBJECT", type := (.object "com/example/entitlement/entitlement/Term$Kind"), accessFlags := 16409, slot := 3, constantValue := 0 }, { name := "ABSENT", type := (.object "com/example/entitlement/entitlement/Term$Kind"), accessFlags := 16409, slot := 4, constantValue := 0 }, { name := "ACTION_IN", type := (.object "com/example/entitlement/entitlement/Term$Kind"), accessFlags := 16409, slot := 5, constantValue := 0 }, { name := "COMPARISON", type := (.object "com/example/entitlement/entitlement/Term$Kind"), accessFlags := 16409, slot := 6, constantValue := 0 }, { name := "$VALUES", type := (.array (.object "com/example/entitlement/entitlement/Term$Kind")), accessFlags := 4122, slot := 7, constantValue := 0 }]
  methods := #[]
  instanceTypes := #[(.object "java/lang/String"), .int, .int]
  staticTypes := #[(.object "com/example/entitlement/entitlement/Term$Kind"), (.object "com/example/entitlement/entitlement/Term$Kind"), (.object "com/example/entitlement/entitlement/Term$Kind"), (.object "com/example/entitlement/entitlement/Term$Kind"), (.object "com/example/entitlement/entitlement/Term$Kind"), (.object "com/example/entitlement/entitlement/Term$Kind"), (.object "com/example/entitlement/entitlement/Term$Kind"), (.array (.object "com/example/entitlement/entitlement/Term$Kind"))]
  resolved := Array.replicate 72 none
  statics := some 1 }

def pool13 : Array CpInfo := pool [(1, .methodref 2 3), (0, .class_ 4), (0, .nameAndType 5 6), (0, u "java/lang/Object"), (0, u "<init>"), (0, u "()V"), (0, .fieldref 8 9), (0, .class_ 10), (0, .nameAndType 11 12), (0, u "com/example/entitlement/entitlement/Expression"), (0, u "kind"), (0, u "Lcom/example/entitlement/entitlement/Expression$Kind;"), (0, .fieldref 8 14), (0, .nameAndType 15 16), (0, u "term"), (0, u "Lcom/example/entitlement/entitlement/Term;"), (0, .interfaceMethodref 18 19), (0, .class_ 20), (0, .nameAndType 21 22), (0, u "java/util/List"), (0, u "copyOf"), (0, u "(Ljava/util/Collection;)Ljava/util/List;"), (0, .fieldref 8 24), (0, .nameAndType 25 26), (0, u "operands"), (0, u "Ljava/util/List;"), (0, .fieldref 28 29), (0, .class_ 30), (0, .nameAndType 31 12), (0, u "com/example/entitlement/entitlement/Expression$Kind"), (0, u "TERM"), (0, .interfaceMethodref 18 33), (0, .nameAndType 34 35), (0, u "of"), (0, u "()Ljava/util/List;"), (0, .methodref 8 37), (0, .nameAndType 5 38), (0, u "(Lcom/example/entitlement/entitlement/Expression$Kind;Lcom/example/entitlement/entitlement/Term;Ljava/util/List;)V"), (50, u "(Lcom/example/entitlement/entitlement/Term;)Lcom/example/entitlement/entitlement/Expression;")] 17

def k13c0 : Code := { maxStack := 2, maxLocals := 4, code := prog_6_method_1_code, exceptionTable := #[], attributes := #[] }
def k13m0 : Method := { name := "<init>", desc := "(Lcom/example/entitlement/entitlement/Expression$Kind;Lcom/example/entitlement/entitlement/Term;Ljava/util/List;)V", sig := { parameters := [(.object "com/example/entitlement/entitlement/Expression$Kind"), (.object "com/example/entitlement/entitlement/Term"), (.object "java/util/List")], returnType := none }, accessFlags := 2, code := some k13c0 }
def k13c1 : Code := { maxStack := 5, maxLocals := 1, code := prog_6_method_2_code, exceptionTable := #[], attributes := #[] }
def k13m1 : Method := { name := "term", desc := "(Lcom/example/entitlement/entitlement/Term;)Lcom/example/entitlement/entitlement/Expression;", sig := { parameters := [(.object "com/example/entitlement/entitlement/Term")], returnType := some (.object "com/example/entitlement/entitlement/Expression") }, accessFlags := 8, code := some k13c1 }
/-- com/example/entitlement/entitlement/Expression -/
def k13 : Class := { plain "com/example/entitlement/entitlement/Expression" (some 0) with
  accessFlags := 32
  interfaces := #[]
  cf := some (fileOf pool13 8 #[.nestMembers #[28]] #[{ accessFlags := 2, nameIndex := 5, descriptorIndex := 38, attributes := #[] }, { accessFlags := 8, nameIndex := 15, descriptorIndex := 89, attributes := #[] }] 32 2 #[] #[{ accessFlags := 18, nameIndex := 11, descriptorIndex := 12, attributes := #[] }, { accessFlags := 18, nameIndex := 15, descriptorIndex := 16, attributes := #[] }, { accessFlags := 18, nameIndex := 25, descriptorIndex := 26, attributes := #[] }])
  fields := #[{ name := "kind", type := (.object "com/example/entitlement/entitlement/Expression$Kind"), accessFlags := 18, slot := 0, constantValue := 0 }, { name := "term", type := (.object "com/example/entitlement/entitlement/Term"), accessFlags := 18, slot := 1, constantValue := 0 }, { name := "operands", type := (.object "java/util/List"), accessFlags := 18, slot := 2, constantValue := 0 }]
  methods := #[k13m0, k13m1]
  instanceTypes := #[(.object "com/example/entitlement/entitlement/Expression$Kind"), (.object "com/example/entitlement/entitlement/Term"), (.object "java/util/List")]
  staticTypes := #[]
  resolved := Array.replicate 107 none
  statics := none }

def pool14 : Array CpInfo := pool [(1, .class_ 2), (0, u "com/example/entitlement/entitlement/Expression$Kind"), (2, u "TERM"), (0, u "Lcom/example/entitlement/entitlement/Expression$Kind;"), (2, u "UNION"), (2, u "INTERSECTION"), (2, u "$VALUES"), (0, u "[Lcom/example/entitlement/entitlement/Expression$Kind;"), (6, .class_ 25), (1, u "java/lang/Enum"), (26, .class_ 53), (0, u "com/example/entitlement/entitlement/Expression")] 2

/-- com/example/entitlement/entitlement/Expression$Kind -/
def k14 : Class := { plain "com/example/entitlement/entitlement/Expression$Kind" (some 11) with
  accessFlags := 16432
  interfaces := #[]
  cf := some (fileOf pool14 1 #[.nestHost 52] #[] 16432 23 #[] #[{ accessFlags := 16409, nameIndex := 5, descriptorIndex := 6, attributes := #[] }, { accessFlags := 16409, nameIndex := 9, descriptorIndex := 6, attributes := #[] }, { accessFlags := 16409, nameIndex := 12, descriptorIndex := 6, attributes := #[] }, { accessFlags := 4122, nameIndex := 15, descriptorIndex := 16, attributes := #[] }])
  fields := #[{ name := "TERM", type := (.object "com/example/entitlement/entitlement/Expression$Kind"), accessFlags := 16409, slot := 0, constantValue := 0 }, { name := "UNION", type := (.object "com/example/entitlement/entitlement/Expression$Kind"), accessFlags := 16409, slot := 1, constantValue := 0 }, { name := "INTERSECTION", type := (.object "com/example/entitlement/entitlement/Expression$Kind"), accessFlags := 16409, slot := 2, constantValue := 0 }, { name := "$VALUES", type := (.array (.object "com/example/entitlement/entitlement/Expression$Kind")), accessFlags := 4122, slot := 3, constantValue := 0 }]
  methods := #[]
  instanceTypes := #[(.object "java/lang/String"), .int, .int]
  staticTypes := #[(.object "com/example/entitlement/entitlement/Expression$Kind"), (.object "com/example/entitlement/entitlement/Expression$Kind"), (.object "com/example/entitlement/entitlement/Expression$Kind"), (.array (.object "com/example/entitlement/entitlement/Expression$Kind"))]
  resolved := Array.replicate 56 none
  statics := some 2 }

def pool15 : Array CpInfo := pool [(8, .class_ 10), (1, u "java/lang/Iterable"), (24, .class_ 36), (0, u "java/lang/Object")] 25

/-- java/lang/Iterable -/
def k15 : Class := { plain "java/lang/Iterable" (some 0) with
  accessFlags := 1537
  interfaces := #[]
  cf := some (fileOf pool15 8 #[] #[] 1537 35 #[] #[])
  fields := #[]
  methods := #[]
  instanceTypes := #[]
  staticTypes := #[]
  resolved := Array.replicate 62 none
  statics := none }

def pool16 : Array CpInfo := pool [(10, .class_ 12), (1, u "java/util/Collection"), (47, .class_ 61), (0, u "java/lang/Object"), (0, .class_ 63), (0, u "java/lang/Iterable")] 51

/-- java/util/Collection -/
def k16 : Class := { plain "java/util/Collection" (some 0) with
  accessFlags := 1537
  interfaces := #[15]
  cf := some (fileOf pool16 10 #[] #[] 1537 60 #[62] #[])
  fields := #[]
  methods := #[]
  instanceTypes := #[]
  staticTypes := #[]
  resolved := Array.replicate 115 none
  statics := none }

def pool17 : Array CpInfo := pool [(8, .class_ 10), (1, u "java/util/SequencedCollection"), (15, .class_ 27), (0, u "java/lang/Object"), (0, .class_ 29), (0, u "java/util/Collection")] 27

/-- java/util/SequencedCollection -/
def k17 : Class := { plain "java/util/SequencedCollection" (some 0) with
  accessFlags := 1537
  interfaces := #[16]
  cf := some (fileOf pool17 8 #[] #[] 1537 26 #[28] #[])
  fields := #[]
  methods := #[]
  instanceTypes := #[]
  staticTypes := #[]
  resolved := Array.replicate 57 none
  statics := none }

def pool18 : Array CpInfo := pool [(8, .class_ 10), (1, u "java/util/List"), (77, u "of"), (1, .fieldref 91 92), (0, .class_ 93), (0, .nameAndType 94 95), (0, u "java/util/ImmutableCollections"), (0, u "EMPTY_LIST"), (0, u "Ljava/util/ImmutableCollections$ListN;"), (7, .class_ 104), (0, u "java/lang/Object"), (7, .methodref 91 113), (0, .nameAndType 114 115), (0, u "listCopy"), (0, u "(Ljava/util/Collection;)Ljava/util/List;"), (3, u "()Ljava/util/List;"), (0, .class_ 121), (0, u "java/util/SequencedCollection"), (112, u "copyOf")] 16

def k18c0 : Code := { maxStack := 1, maxLocals := 0, code := jdk_40_method_36_code, exceptionTable := #[], attributes := #[] }
def k18m0 : Method := { name := "of", desc := "()Ljava/util/List;", sig := { parameters := [], returnType := some (.object "java/util/List") }, accessFlags := 9, code := some k18c0 }
def k18c1 : Code := { maxStack := 1, maxLocals := 1, code := jdk_40_method_48_code, exceptionTable := #[], attributes := #[] }
def k18m1 : Method := { name := "copyOf", desc := "(Ljava/util/Collection;)Ljava/util/List;", sig := { parameters := [(.object "java/util/Collection")], returnType := some (.object "java/util/List") }, accessFlags := 9, code := some k18c1 }
/-- java/util/List -/
def k18 : Class := { plain "java/util/List" (some 0) with
  accessFlags := 1537
  interfaces := #[17]
  cf := some (fileOf pool18 8 #[] #[{ accessFlags := 9, nameIndex := 88, descriptorIndex := 119, attributes := #[] }, { accessFlags := 9, nameIndex := 234, descriptorIndex := 115, attributes := #[] }] 1537 103 #[120] #[])
  fields := #[]
  methods := #[k18m0, k18m1]
  instanceTypes := #[]
  staticTypes := #[]
  resolved := Array.replicate 251 none
  statics := none }

def pool19 : Array CpInfo := pool [(2, .class_ 4), (1, u "java/lang/Object"), (0, u "<init>"), (0, u "()V"), (3, .class_ 11), (0, u "java/util/ImmutableCollections$List12"), (0, .class_ 13), (0, u "java/util/ImmutableCollections$ListN"), (0, .fieldref 12 15), (0, .nameAndType 16 17), (0, u "allowNulls"), (0, u "Z"), (0, .class_ 19), (0, u "java/util/List"), (27, .class_ 49), (1, u "java/util/ImmutableCollections"), (0, u "$assertionsDisabled"), (5, u "[Ljava/lang/Object;"), (5, u "EMPTY_LIST"), (0, u "Ljava/util/ImmutableCollections$ListN;"), (8, u "EMPTY_LIST_NULLS"), (22, u "SALT32L"), (0, u "J"), (2, u "REVERSE"), (6, u "archivedObjects"), (2, u "EMPTY"), (0, u "Ljava/lang/Object;"), (0, .class_ 112), (0, u "java/util/ImmutableCollections$SetN"), (5, u "EMPTY_SET"), (0, u "Ljava/util/ImmutableCollections$SetN;"), (0, .class_ 121), (0, u "java/util/ImmutableCollections$MapN"), (3, u "EMPTY_MAP"), (0, u "Ljava/util/ImmutableCollections$MapN;"), (4, u "EXPAND_FACTOR"), (0, u "I"), (9, u "listCopy"), (0, u "(Ljava/util/Collection;)Ljava/util/List;"), (25, .class_ 170), (0, u "java/util/ImmutableCollections$MapN$MapNIterator"), (0, .class_ 172), (0, u "java/util/ImmutableCollections$MapN$1"), (0, .class_ 174), (0, u "java/util/ImmutableCollections$Map1"), (0, .class_ 176), (0, u "java/util/ImmutableCollections$AbstractImmutableMap"), (0, .class_ 178), (0, u "java/util/ImmutableCollections$SetN$SetNIterator"), (0, .class_ 180), (0, u "java/util/ImmutableCollections$Set12"), (0, .class_ 182), (0, u "java/util/ImmutableCollections$Set12$1"), (0, .class_ 184), (0, u "java/util/ImmutableCollections$AbstractImmutableSet"), (0, .class_ 186), (0, u "java/util/ImmutableCollections$SubList"), (0, .class_ 188), (0, u "java/util/ImmutableCollections$ListItr"), (0, .class_ 190), (0, u "java/util/ImmutableCollections$AbstractImmutableList"), (0, .class_ 192), (0, u "java/util/ImmutableCollections$AbstractImmutableCollection"), (0, .class_ 194), (0, u "java/util/ImmutableCollections$Access"), (0, .class_ 196), (0, u "java/util/ImmutableCollections$Access$1")] 16

def k19m0 : Method := { name := "<init>", desc := "()V", sig := { parameters := [], returnType := none }, accessFlags := 2, code := none }
def k19c1 : Code := { maxStack := 1, maxLocals := 2, code := jdk_56_method_3_code, exceptionTable := #[], attributes := #[] }
def k19m1 : Method := { name := "listCopy", desc := "(Ljava/util/Collection;)Ljava/util/List;", sig := { parameters := [(.object "java/util/Collection")], returnType := some (.object "java/util/List") }, accessFlags := 8, code := some k19c1 }
/-- java/util/ImmutableCollections -/
def k19 : Class := { plain "java/util/ImmutableCollections" (some 0) with
  accessFlags := 32
  interfaces := #[]
  cf := some (fileOf pool19 47 #[.nestMembers #[120, 169, 171, 173, 175, 111, 177, 179, 181, 183, 12, 10, 185, 187, 189, 191, 193, 195]] #[{ accessFlags := 2, nameIndex := 5, descriptorIndex := 6, attributes := #[] }, { accessFlags := 8, nameIndex := 142, descriptorIndex := 143, attributes := #[] }] 32 2 #[] #[{ accessFlags := 26, nameIndex := 95, descriptorIndex := 96, attributes := #[] }, { accessFlags := 26, nameIndex := 99, descriptorIndex := 17, attributes := #[] }, { accessFlags := 10, nameIndex := 106, descriptorIndex := 56, attributes := #[] }, { accessFlags := 26, nameIndex := 109, descriptorIndex := 110, attributes := #[] }, { accessFlags := 24, nameIndex := 62, descriptorIndex := 63, attributes := #[] }, { accessFlags := 24, nameIndex := 72, descriptorIndex := 63, attributes := #[] }, { accessFlags := 24, nameIndex := 118, descriptorIndex := 119, attributes := #[] }, { accessFlags := 24, nameIndex := 125, descriptorIndex := 126, attributes := #[] }, { accessFlags := 24, nameIndex := 131, descriptorIndex := 132, attributes := #[] }, { accessFlags := 4120, nameIndex := 50, descriptorIndex := 17, attributes := #[] }])
  fields := #[{ name := "SALT32L", type := .long, accessFlags := 26, slot := 0, constantValue := 0 }, { name := "REVERSE", type := .boolean, accessFlags := 26, slot := 1, constantValue := 0 }, { name := "archivedObjects", type := (.array (.object "java/lang/Object")), accessFlags := 10, slot := 2, constantValue := 0 }, { name := "EMPTY", type := (.object "java/lang/Object"), accessFlags := 26, slot := 3, constantValue := 0 }, { name := "EMPTY_LIST", type := (.object "java/util/ImmutableCollections$ListN"), accessFlags := 24, slot := 4, constantValue := 0 }, { name := "EMPTY_LIST_NULLS", type := (.object "java/util/ImmutableCollections$ListN"), accessFlags := 24, slot := 5, constantValue := 0 }, { name := "EMPTY_SET", type := (.object "java/util/ImmutableCollections$SetN"), accessFlags := 24, slot := 6, constantValue := 0 }, { name := "EMPTY_MAP", type := (.object "java/util/ImmutableCollections$MapN"), accessFlags := 24, slot := 7, constantValue := 0 }, { name := "EXPAND_FACTOR", type := .int, accessFlags := 24, slot := 8, constantValue := 0 }, { name := "$assertionsDisabled", type := .boolean, accessFlags := 4120, slot := 9, constantValue := 0 }]
  methods := #[k19m0, k19m1]
  instanceTypes := #[]
  staticTypes := #[.long, .boolean, (.array (.object "java/lang/Object")), (.object "java/lang/Object"), (.object "java/util/ImmutableCollections$ListN"), (.object "java/util/ImmutableCollections$ListN"), (.object "java/util/ImmutableCollections$SetN"), (.object "java/util/ImmutableCollections$MapN"), .int, .boolean]
  resolved := Array.replicate 213 none
  statics := some 3 }

def pool20 : Array CpInfo := pool [(1, .methodref 2 3), (0, .class_ 4), (0, .nameAndType 5 6), (0, u "java/lang/Object"), (0, u "<init>"), (0, u "()V"), (1, .class_ 10), (1, u "java/util/AbstractCollection"), (66, .class_ 78), (0, u "java/util/Collection")] 81

def k20c0 : Code := { maxStack := 1, maxLocals := 1, code := jdk_22_method_1_code, exceptionTable := #[], attributes := #[] }
def k20m0 : Method := { name := "<init>", desc := "()V", sig := { parameters := [], returnType := none }, accessFlags := 4, code := some k20c0 }
/-- java/util/AbstractCollection -/
def k20 : Class := { plain "java/util/AbstractCollection" (some 0) with
  accessFlags := 1057
  interfaces := #[16]
  cf := some (fileOf pool20 8 #[] #[{ accessFlags := 4, nameIndex := 5, descriptorIndex := 6, attributes := #[] }] 1057 2 #[77] #[])
  fields := #[]
  methods := #[k20m0]
  instanceTypes := #[]
  staticTypes := #[]
  resolved := Array.replicate 160 none
  statics := none }

def pool21 : Array CpInfo := pool [(2, .class_ 4), (1, u "java/util/AbstractCollection"), (0, u "<init>"), (0, u "()V"), (1, .class_ 10), (1, u "java/util/ImmutableCollections"), (2, .class_ 14), (0, u "java/util/ImmutableCollections$AbstractImmutableCollection")] 41

def k21m0 : Method := { name := "<init>", desc := "()V", sig := { parameters := [], returnType := none }, accessFlags := 0, code := none }
/-- java/util/ImmutableCollections$AbstractImmutableCollection -/
def k21 : Class := { plain "java/util/ImmutableCollections$AbstractImmutableCollection" (some 20) with
  accessFlags := 1056
  interfaces := #[]
  cf := some (fileOf pool21 13 #[.nestHost 8] #[{ accessFlags := 0, nameIndex := 5, descriptorIndex := 6, attributes := #[] }] 1056 2 #[] #[])
  fields := #[]
  methods := #[k21m0]
  instanceTypes := #[]
  staticTypes := #[]
  resolved := Array.replicate 56 none
  statics := none }

def pool22 : Array CpInfo := pool [(1, .class_ 2), (0, u "java/util/RandomAccess"), (0, .class_ 4), (0, u "java/lang/Object")] 2

/-- java/util/RandomAccess -/
def k22 : Class := { plain "java/util/RandomAccess" (some 0) with
  accessFlags := 1537
  interfaces := #[]
  cf := some (fileOf pool22 1 #[] #[] 1537 3 #[] #[])
  fields := #[]
  methods := #[]
  instanceTypes := #[]
  staticTypes := #[]
  resolved := Array.replicate 7 none
  statics := none }

def pool23 : Array CpInfo := pool [(2, .class_ 4), (1, u "java/util/ImmutableCollections$AbstractImmutableCollection"), (0, u "<init>"), (0, u "()V"), (1, .class_ 10), (1, u "java/util/ImmutableCollections"), (3, .class_ 16), (1, u "java/util/ImmutableCollections$AbstractImmutableList"), (60, .class_ 78), (0, u "java/util/List"), (45, .class_ 125), (0, u "java/util/RandomAccess")] 70

def k23m0 : Method := { name := "<init>", desc := "()V", sig := { parameters := [], returnType := none }, accessFlags := 0, code := none }
/-- java/util/ImmutableCollections$AbstractImmutableList -/
def k23 : Class := { plain "java/util/ImmutableCollections$AbstractImmutableList" (some 21) with
  accessFlags := 1056
  interfaces := #[18, 22]
  cf := some (fileOf pool23 14 #[.nestHost 8] #[{ accessFlags := 0, nameIndex := 5, descriptorIndex := 6, attributes := #[] }] 1056 2 #[77, 124] #[])
  fields := #[]
  methods := #[k23m0]
  instanceTypes := #[]
  staticTypes := #[]
  resolved := Array.replicate 196 none
  statics := none }

def pool24 : Array CpInfo := pool [(2, .class_ 4), (1, u "java/util/ImmutableCollections$AbstractImmutableList"), (9, .class_ 16), (1, u "java/util/ImmutableCollections$List12"), (0, u "e0"), (0, u "Ljava/lang/Object;"), (1, .class_ 22), (1, u "java/util/ImmutableCollections"), (3, u "e1"), (43, .class_ 71), (0, u "java/io/Serializable")] 53

/-- java/util/ImmutableCollections$List12 -/
def k24 : Class := { plain "java/util/ImmutableCollections$List12" (some 23) with
  accessFlags := 48
  interfaces := #[2]
  cf := some (fileOf pool24 14 #[.nestHost 20] #[] 48 2 #[70] #[{ accessFlags := 18, nameIndex := 17, descriptorIndex := 18, attributes := #[] }, { accessFlags := 18, nameIndex := 26, descriptorIndex := 18, attributes := #[] }])
  fields := #[{ name := "e0", type := (.object "java/lang/Object"), accessFlags := 18, slot := 0, constantValue := 0 }, { name := "e1", type := (.object "java/lang/Object"), accessFlags := 18, slot := 1, constantValue := 0 }]
  methods := #[]
  instanceTypes := #[(.object "java/lang/Object"), (.object "java/lang/Object")]
  staticTypes := #[]
  resolved := Array.replicate 125 none
  statics := none }

def pool25 : Array CpInfo := pool [(2, .class_ 4), (1, u "java/util/ImmutableCollections$AbstractImmutableList"), (3, .class_ 10), (1, u "java/util/ImmutableCollections$ListN"), (0, u "elements"), (0, u "[Ljava/lang/Object;"), (2, u "allowNulls"), (0, u "Z"), (42, .class_ 60), (0, u "java/io/Serializable"), (53, .class_ 115), (0, u "java/util/ImmutableCollections")] 3

/-- java/util/ImmutableCollections$ListN -/
def k25 : Class := { plain "java/util/ImmutableCollections$ListN" (some 23) with
  accessFlags := 48
  interfaces := #[2]
  cf := some (fileOf pool25 8 #[.nestHost 114] #[] 48 2 #[59] #[{ accessFlags := 18, nameIndex := 11, descriptorIndex := 12, attributes := #[] }, { accessFlags := 18, nameIndex := 15, descriptorIndex := 16, attributes := #[] }])
  fields := #[{ name := "elements", type := (.array (.object "java/lang/Object")), accessFlags := 18, slot := 0, constantValue := 0 }, { name := "allowNulls", type := .boolean, accessFlags := 18, slot := 1, constantValue := 0 }]
  methods := #[]
  instanceTypes := #[(.array (.object "java/lang/Object")), .boolean]
  staticTypes := #[]
  resolved := Array.replicate 119 none
  statics := none }

def pool26 : Array CpInfo := pool [(1, .methodref 2 3), (0, .class_ 4), (0, .nameAndType 5 6), (0, u "java/lang/Object"), (0, u "<init>"), (0, u "()V"), (0, .class_ 8), (0, u "java/util/HashMap"), (0, .methodref 7 3), (0, .fieldref 11 12), (0, .class_ 13), (0, .nameAndType 14 15), (0, u "com/example/entitlement/entitlement/ObjectType"), (0, u "relations"), (0, u "Ljava/util/Map;"), (0, .fieldref 11 17), (0, .nameAndType 18 15), (0, u "permissions"), (0, .fieldref 11 20), (0, .nameAndType 21 15), (0, u "exclusiveSets"), (0, .class_ 23), (0, u "java/util/HashSet"), (0, .methodref 22 3), (0, .fieldref 11 26), (0, .nameAndType 27 28), (0, u "single"), (0, u "Ljava/util/Set;"), (0, .fieldref 11 30), (0, .nameAndType 31 15), (0, u "readBackwards"), (0, .fieldref 11 33), (0, .nameAndType 34 15), (0, u "anchors"), (0, .fieldref 11 36), (0, .nameAndType 37 38), (0, u "name"), (0, u "Ljava/lang/String;"), (0, .interfaceMethodref 40 41), (0, .class_ 42), (0, .nameAndType 43 44), (0, u "java/util/Map"), (0, u "containsKey"), (0, u "(Ljava/lang/Object;)Z"), (4, .fieldref 11 50), (0, .nameAndType 51 52), (0, u "actionPermission"), (0, u "Lcom/example/entitlement/entitlement/Expression;"), (18, .interfaceMethodref 40 72), (0, .nameAndType 73 74), (0, u "get"), (0, u "(Ljava/lang/Object;)Ljava/lang/Object;"), (21, u "()Z"), (7, .class_ 105), (0, u "com/example/entitlement/entitlement/Expression"), (4, u "actionAnchor"), (23, .interfaceMethodref 40 135), (0, .nameAndType 136 137), (0, u "put"), (0, u "(Ljava/lang/Object;Ljava/lang/Object;)Ljava/lang/Object;"), (99, u "(Ljava/lang/String;)V"), (9, u "ruleFor"), (0, u "(Ljava/lang/String;)Lcom/example/entitlement/entitlement/Expression;"), (0, u "hasActionPermission"), (7, u "addPermission"), (0, u "(Ljava/lang/String;Lcom/example/entitlement/entitlement/Expression;)V"), (0, u "setActionPermission"), (0, u "(Lcom/example/entitlement/entitlement/Expression;)V")] 59

def k26c0 : Code := { maxStack := 3, maxLocals := 2, code := prog_20_method_1_code, exceptionTable := #[], attributes := #[] }
def k26m0 : Method := { name := "<init>", desc := "(Ljava/lang/String;)V", sig := { parameters := [(.object "java/lang/String")], returnType := none }, accessFlags := 0, code := some k26c0 }
def k26c1 : Code := { maxStack := 2, maxLocals := 3, code := prog_20_method_9_code, exceptionTable := #[], attributes := #[] }
def k26m1 : Method := { name := "ruleFor", desc := "(Ljava/lang/String;)Lcom/example/entitlement/entitlement/Expression;", sig := { parameters := [(.object "java/lang/String")], returnType := some (.object "com/example/entitlement/entitlement/Expression") }, accessFlags := 0, code := some k26c1 }
def k26c2 : Code := { maxStack := 1, maxLocals := 1, code := prog_20_method_10_code, exceptionTable := #[], attributes := #[] }
def k26m2 : Method := { name := "hasActionPermission", desc := "()Z", sig := { parameters := [], returnType := some .boolean }, accessFlags := 0, code := some k26c2 }
def k26c3 : Code := { maxStack := 3, maxLocals := 3, code := prog_20_method_16_code, exceptionTable := #[], attributes := #[] }
def k26m3 : Method := { name := "addPermission", desc := "(Ljava/lang/String;Lcom/example/entitlement/entitlement/Expression;)V", sig := { parameters := [(.object "java/lang/String"), (.object "com/example/entitlement/entitlement/Expression")], returnType := none }, accessFlags := 0, code := some k26c3 }
def k26c4 : Code := { maxStack := 2, maxLocals := 2, code := prog_20_method_17_code, exceptionTable := #[], attributes := #[] }
def k26m4 : Method := { name := "setActionPermission", desc := "(Lcom/example/entitlement/entitlement/Expression;)V", sig := { parameters := [(.object "com/example/entitlement/entitlement/Expression")], returnType := none }, accessFlags := 0, code := some k26c4 }
/-- com/example/entitlement/entitlement/ObjectType -/
def k26 : Class := { plain "com/example/entitlement/entitlement/ObjectType" (some 0) with
  accessFlags := 32
  interfaces := #[]
  cf := some (fileOf pool26 11 #[] #[{ accessFlags := 0, nameIndex := 5, descriptorIndex := 237, attributes := #[] }, { accessFlags := 0, nameIndex := 247, descriptorIndex := 248, attributes := #[] }, { accessFlags := 0, nameIndex := 249, descriptorIndex := 96, attributes := #[] }, { accessFlags := 0, nameIndex := 257, descriptorIndex := 258, attributes := #[] }, { accessFlags := 0, nameIndex := 259, descriptorIndex := 260, attributes := #[] }] 32 2 #[] #[{ accessFlags := 18, nameIndex := 37, descriptorIndex := 38, attributes := #[] }, { accessFlags := 18, nameIndex := 14, descriptorIndex := 15, attributes := #[] }, { accessFlags := 18, nameIndex := 18, descriptorIndex := 15, attributes := #[] }, { accessFlags := 18, nameIndex := 21, descriptorIndex := 15, attributes := #[] }, { accessFlags := 18, nameIndex := 27, descriptorIndex := 28, attributes := #[] }, { accessFlags := 18, nameIndex := 31, descriptorIndex := 15, attributes := #[] }, { accessFlags := 2, nameIndex := 51, descriptorIndex := 52, attributes := #[] }, { accessFlags := 18, nameIndex := 34, descriptorIndex := 15, attributes := #[] }, { accessFlags := 2, nameIndex := 110, descriptorIndex := 38, attributes := #[] }])
  fields := #[{ name := "name", type := (.object "java/lang/String"), accessFlags := 18, slot := 0, constantValue := 0 }, { name := "relations", type := (.object "java/util/Map"), accessFlags := 18, slot := 1, constantValue := 0 }, { name := "permissions", type := (.object "java/util/Map"), accessFlags := 18, slot := 2, constantValue := 0 }, { name := "exclusiveSets", type := (.object "java/util/Map"), accessFlags := 18, slot := 3, constantValue := 0 }, { name := "single", type := (.object "java/util/Set"), accessFlags := 18, slot := 4, constantValue := 0 }, { name := "readBackwards", type := (.object "java/util/Map"), accessFlags := 18, slot := 5, constantValue := 0 }, { name := "actionPermission", type := (.object "com/example/entitlement/entitlement/Expression"), accessFlags := 2, slot := 6, constantValue := 0 }, { name := "anchors", type := (.object "java/util/Map"), accessFlags := 18, slot := 7, constantValue := 0 }, { name := "actionAnchor", type := (.object "java/lang/String"), accessFlags := 2, slot := 8, constantValue := 0 }]
  methods := #[k26m0, k26m1, k26m2, k26m3, k26m4]
  instanceTypes := #[(.object "java/lang/String"), (.object "java/util/Map"), (.object "java/util/Map"), (.object "java/util/Map"), (.object "java/util/Set"), (.object "java/util/Map"), (.object "com/example/entitlement/entitlement/Expression"), (.object "java/util/Map"), (.object "java/lang/String")]
  staticTypes := #[]
  resolved := Array.replicate 320 none
  statics := none }

def pool27 : Array CpInfo := pool [(2, .class_ 4), (1, u "java/util/Map"), (0, u "get"), (0, u "(Ljava/lang/Object;)Ljava/lang/Object;"), (2, u "containsKey"), (0, u "(Ljava/lang/Object;)Z"), (25, .class_ 37), (0, u "java/util/Map$Entry"), (25, u "(Ljava/lang/Object;Ljava/lang/Object;)Ljava/lang/Object;"), (5, u "put"), (23, .class_ 94), (0, u "java/lang/Object")] 168

def k27m0 : Method := { name := "containsKey", desc := "(Ljava/lang/Object;)Z", sig := { parameters := [(.object "java/lang/Object")], returnType := some .boolean }, accessFlags := 1025, code := none }
def k27m1 : Method := { name := "get", desc := "(Ljava/lang/Object;)Ljava/lang/Object;", sig := { parameters := [(.object "java/lang/Object")], returnType := some (.object "java/lang/Object") }, accessFlags := 1025, code := none }
def k27m2 : Method := { name := "put", desc := "(Ljava/lang/Object;Ljava/lang/Object;)Ljava/lang/Object;", sig := { parameters := [(.object "java/lang/Object"), (.object "java/lang/Object")], returnType := some (.object "java/lang/Object") }, accessFlags := 1025, code := none }
/-- java/util/Map -/
def k27 : Class := { plain "java/util/Map" (some 0) with
  accessFlags := 1537
  interfaces := #[]
  cf := some (fileOf pool27 2 #[.nestMembers #[36]] #[{ accessFlags := 1025, nameIndex := 9, descriptorIndex := 10, attributes := #[] }, { accessFlags := 1025, nameIndex := 5, descriptorIndex := 6, attributes := #[] }, { accessFlags := 1025, nameIndex := 69, descriptorIndex := 63, attributes := #[] }] 1537 93 #[] #[])
  fields := #[]
  methods := #[k27m0, k27m1, k27m2]
  instanceTypes := #[]
  staticTypes := #[]
  resolved := Array.replicate 263 none
  statics := none }

def pool28 : Array CpInfo := pool [(1, .methodref 2 3), (0, .class_ 4), (0, .nameAndType 5 6), (0, u "java/lang/Object"), (0, u "<init>"), (0, u "()V"), (1, .class_ 10), (1, u "java/util/AbstractMap"), (42, .class_ 54), (0, u "java/util/Map"), (9, u "keySet"), (0, u "Ljava/util/Set;"), (0, .class_ 67), (0, u "java/util/AbstractMap$1"), (5, u "values"), (0, u "Ljava/util/Collection;"), (0, .class_ 76), (0, u "java/util/AbstractMap$2"), (104, .class_ 182), (0, u "java/util/AbstractMap$ViewCollection"), (0, .class_ 184), (0, u "java/util/AbstractMap$SimpleImmutableEntry"), (0, .class_ 186), (0, u "java/util/AbstractMap$SimpleEntry"), (0, .class_ 188), (0, u "java/util/AbstractMap$2$1"), (0, .class_ 190), (0, u "java/util/AbstractMap$1$1")] 5

def k28c0 : Code := { maxStack := 1, maxLocals := 1, code := jdk_71_method_1_code, exceptionTable := #[], attributes := #[] }
def k28m0 : Method := { name := "<init>", desc := "()V", sig := { parameters := [], returnType := none }, accessFlags := 4, code := some k28c0 }
/-- java/util/AbstractMap -/
def k28 : Class := { plain "java/util/AbstractMap" (some 0) with
  accessFlags := 1057
  interfaces := #[27]
  cf := some (fileOf pool28 8 #[.nestMembers #[181, 183, 185, 75, 187, 66, 189]] #[{ accessFlags := 4, nameIndex := 5, descriptorIndex := 6, attributes := #[] }] 1057 2 #[53] #[{ accessFlags := 128, nameIndex := 64, descriptorIndex := 65, attributes := #[] }, { accessFlags := 128, nameIndex := 73, descriptorIndex := 74, attributes := #[] }])
  fields := #[{ name := "keySet", type := (.object "java/util/Set"), accessFlags := 128, slot := 0, constantValue := 0 }, { name := "values", type := (.object "java/util/Collection"), accessFlags := 128, slot := 1, constantValue := 0 }]
  methods := #[k28m0]
  instanceTypes := #[(.object "java/util/Set"), (.object "java/util/Collection")]
  staticTypes := #[]
  resolved := Array.replicate 196 none
  statics := none }

def pool29 : Array CpInfo := pool [(1, .class_ 2), (0, u "java/lang/Cloneable"), (0, .class_ 4), (0, u "java/lang/Object")] 2

/-- java/lang/Cloneable -/
def k29 : Class := { plain "java/lang/Cloneable" (some 0) with
  accessFlags := 1537
  interfaces := #[]
  cf := some (fileOf pool29 1 #[] #[] 1537 3 #[] #[])
  fields := #[]
  methods := #[]
  instanceTypes := #[]
  staticTypes := #[]
  resolved := Array.replicate 7 none
  statics := none }

def pool30 : Array CpInfo := pool [(1, .methodref 2 3), (0, .class_ 4), (0, .nameAndType 5 6), (0, u "java/lang/Object"), (0, u "hashCode"), (0, u "()I"), (26, u "(Ljava/lang/Object;)I"), (6, .class_ 41), (0, u "java/util/HashMap"), (1, .methodref 44 45), (0, .class_ 46), (0, .nameAndType 47 48), (0, u "java/util/AbstractMap"), (0, u "<init>"), (0, u "()V"), (32, .fieldref 40 82), (0, .nameAndType 83 84), (0, u "loadFactor"), (0, u "F"), (3, .fieldref 40 89), (0, .nameAndType 90 91), (0, u "threshold"), (0, u "I"), (0, .float 1061158912), (8, .class_ 103), (1, u "java/util/Map"), (0, u "size"), (0, .fieldref 40 106), (0, .nameAndType 107 108), (0, u "table"), (0, u "[Ljava/util/HashMap$Node;"), (8, .methodref 40 118), (0, .nameAndType 119 120), (0, u "resize"), (0, u "()[Ljava/util/HashMap$Node;"), (2, u "entrySet"), (15, u "next"), (9, .methodref 40 150), (0, .nameAndType 151 33), (0, u "hash"), (0, .methodref 40 153), (0, .nameAndType 154 155), (0, u "putVal"), (0, u "(ILjava/lang/Object;Ljava/lang/Object;ZZ)Ljava/lang/Object;"), (0, .fieldref 40 157), (0, .nameAndType 104 91), (0, .methodref 40 159), (0, .nameAndType 160 161), (0, u "getNode"), (0, u "(Ljava/lang/Object;)Ljava/util/HashMap$Node;"), (0, .fieldref 163 164), (0, .class_ 165), (0, .nameAndType 166 167), (0, u "java/util/HashMap$Node"), (0, u "value"), (0, u "Ljava/lang/Object;"), (0, .fieldref 163 169), (0, .nameAndType 151 91), (0, .fieldref 163 171), (0, .nameAndType 172 167), (0, u "key"), (0, .methodref 2 174), (0, .nameAndType 175 176), (0, u "equals"), (0, u "(Ljava/lang/Object;)Z"), (0, .fieldref 163 178), (0, .nameAndType 139 179), (0, u "Ljava/util/HashMap$Node;"), (0, .class_ 181), (0, u "java/util/HashMap$TreeNode"), (4, .methodref 40 187), (0, .nameAndType 188 189), (0, u "newNode"), (0, u "(ILjava/lang/Object;Ljava/lang/Object;Ljava/util/HashMap$Node;)Ljava/util/HashMap$Node;"), (12, .fieldref 40 203), (0, .nameAndType 204 91), (0, u "modCount"), (0, .methodref 40 206), (0, .nameAndType 207 208), (0, u "afterNodeInsertion"), (0, u "(Z)V"), (33, u "Ljava/util/Set;"), (0, .class_ 244), (0, u "java/util/HashMap$KeySet"), (18, .class_ 264), (0, u "java/util/HashMap$Values"), (3, .class_ 269), (0, u "java/util/HashMap$EntrySet"), (9, u "(Ljava/lang/Object;)Ljava/lang/Object;"), (7, u "(Ljava/lang/Object;Ljava/lang/Object;)Ljava/lang/Object;"), (46, u "get"), (11, .class_ 348), (1, u "java/util/HashMap$UnsafeHolder"), (26, .methodref 163 376), (0, .nameAndType 47 377), (0, u "(ILjava/lang/Object;Ljava/lang/Object;Ljava/util/HashMap$Node;)V"), (14, .class_ 393), (0, u "java/lang/Cloneable"), (0, .class_ 395), (0, u "java/io/Serializable"), (0, u "serialVersionUID"), (0, u "J"), (3, u "DEFAULT_INITIAL_CAPACITY"), (1, u "MAXIMUM_CAPACITY"), (0, u "DEFAULT_LOAD_FACTOR"), (0, u "TREEIFY_THRESHOLD"), (1, u "UNTREEIFY_THRESHOLD"), (1, u "MIN_TREEIFY_CAPACITY"), (59, u "containsKey"), (0, u "put"), (125, .class_ 597), (0, u "java/util/HashMap$EntrySpliterator"), (0, .class_ 599), (0, u "java/util/HashMap$ValueSpliterator"), (0, .class_ 601), (0, u "java/util/HashMap$KeySpliterator"), (0, .class_ 603), (0, u "java/util/HashMap$HashMapSpliterator"), (0, .class_ 605), (0, u "java/util/HashMap$EntryIterator"), (0, .class_ 607), (0, u "java/util/HashMap$ValueIterator"), (0, .class_ 609), (0, u "java/util/HashMap$KeyIterator"), (0, .class_ 611), (0, u "java/util/HashMap$HashIterator")] 17

def k30c0 : Code := { maxStack := 3, maxLocals := 2, code := jdk_69_method_1_code, exceptionTable := #[], attributes := #[] }
def k30m0 : Method := { name := "hash", desc := "(Ljava/lang/Object;)I", sig := { parameters := [(.object "java/lang/Object")], returnType := some .int }, accessFlags := 24, code := some k30c0 }
def k30c1 : Code := { maxStack := 2, maxLocals := 1, code := jdk_69_method_7_code, exceptionTable := #[], attributes := #[] }
def k30m1 : Method := { name := "<init>", desc := "()V", sig := { parameters := [], returnType := none }, accessFlags := 1, code := some k30c1 }
def k30c2 : Code := { maxStack := 2, maxLocals := 3, code := jdk_69_method_12_code, exceptionTable := #[], attributes := #[] }
def k30m2 : Method := { name := "get", desc := "(Ljava/lang/Object;)Ljava/lang/Object;", sig := { parameters := [(.object "java/lang/Object")], returnType := some (.object "java/lang/Object") }, accessFlags := 1, code := some k30c2 }
def k30c3 : Code := { maxStack := 4, maxLocals := 8, code := jdk_69_method_13_code, exceptionTable := #[], attributes := #[] }
def k30m3 : Method := { name := "getNode", desc := "(Ljava/lang/Object;)Ljava/util/HashMap$Node;", sig := { parameters := [(.object "java/lang/Object")], returnType := some (.object "java/util/HashMap$Node") }, accessFlags := 16, code := some k30c3 }
def k30c4 : Code := { maxStack := 2, maxLocals := 2, code := jdk_69_method_14_code, exceptionTable := #[], attributes := #[] }
def k30m4 : Method := { name := "containsKey", desc := "(Ljava/lang/Object;)Z", sig := { parameters := [(.object "java/lang/Object")], returnType := some .boolean }, accessFlags := 1, code := some k30c4 }
def k30c5 : Code := { maxStack := 6, maxLocals := 3, code := jdk_69_method_15_code, exceptionTable := #[], attributes := #[] }
def k30m5 : Method := { name := "put", desc := "(Ljava/lang/Object;Ljava/lang/Object;)Ljava/lang/Object;", sig := { parameters := [(.object "java/lang/Object"), (.object "java/lang/Object")], returnType := some (.object "java/lang/Object") }, accessFlags := 1, code := some k30c5 }
def k30c6 : Code := { maxStack := 7, maxLocals := 13, code := jdk_69_method_16_code, exceptionTable := #[], attributes := #[] }
def k30m6 : Method := { name := "putVal", desc := "(ILjava/lang/Object;Ljava/lang/Object;ZZ)Ljava/lang/Object;", sig := { parameters := [.int, (.object "java/lang/Object"), (.object "java/lang/Object"), .boolean, .boolean], returnType := some (.object "java/lang/Object") }, accessFlags := 16, code := some k30c6 }
def k30c7 : Code := { maxStack := 5, maxLocals := 14, code := jdk_69_method_17_code, exceptionTable := #[], attributes := #[] }
def k30m7 : Method := { name := "resize", desc := "()[Ljava/util/HashMap$Node;", sig := { parameters := [], returnType := some (.array (.object "java/util/HashMap$Node")) }, accessFlags := 16, code := some k30c7 }
def k30c8 : Code := { maxStack := 6, maxLocals := 5, code := jdk_69_method_46_code, exceptionTable := #[], attributes := #[] }
def k30m8 : Method := { name := "newNode", desc := "(ILjava/lang/Object;Ljava/lang/Object;Ljava/util/HashMap$Node;)Ljava/util/HashMap$Node;", sig := { parameters := [.int, (.object "java/lang/Object"), (.object "java/lang/Object"), (.object "java/util/HashMap$Node")], returnType := some (.object "java/util/HashMap$Node") }, accessFlags := 0, code := some k30c8 }
def k30c9 : Code := { maxStack := 0, maxLocals := 2, code := jdk_69_method_52_code, exceptionTable := #[], attributes := #[] }
def k30m9 : Method := { name := "afterNodeInsertion", desc := "(Z)V", sig := { parameters := [.boolean], returnType := none }, accessFlags := 0, code := some k30c9 }
/-- java/util/HashMap -/
def k30 : Class := { plain "java/util/HashMap" (some 28) with
  accessFlags := 33
  interfaces := #[27, 29, 2]
  cf := some (fileOf pool30 40 #[.nestMembers #[180, 596, 598, 600, 602, 604, 606, 608, 610, 346, 268, 263, 243, 163]] #[{ accessFlags := 24, nameIndex := 151, descriptorIndex := 33, attributes := #[] }, { accessFlags := 1, nameIndex := 47, descriptorIndex := 48, attributes := #[] }, { accessFlags := 1, nameIndex := 334, descriptorIndex := 279, attributes := #[] }, { accessFlags := 16, nameIndex := 160, descriptorIndex := 161, attributes := #[] }, { accessFlags := 1, nameIndex := 469, descriptorIndex := 176, attributes := #[] }, { accessFlags := 1, nameIndex := 470, descriptorIndex := 287, attributes := #[] }, { accessFlags := 16, nameIndex := 154, descriptorIndex := 155, attributes := #[] }, { accessFlags := 16, nameIndex := 119, descriptorIndex := 120, attributes := #[] }, { accessFlags := 0, nameIndex := 188, descriptorIndex := 189, attributes := #[] }, { accessFlags := 0, nameIndex := 207, descriptorIndex := 208, attributes := #[] }] 33 44 #[101, 392, 394] #[{ accessFlags := 26, nameIndex := 396, descriptorIndex := 397, attributes := #[] }, { accessFlags := 24, nameIndex := 401, descriptorIndex := 91, attributes := #[] }, { accessFlags := 24, nameIndex := 403, descriptorIndex := 91, attributes := #[] }, { accessFlags := 24, nameIndex := 404, descriptorIndex := 84, attributes := #[] }, { accessFlags := 24, nameIndex := 405, descriptorIndex := 91, attributes := #[] }, { accessFlags := 24, nameIndex := 407, descriptorIndex := 91, attributes := #[] }, { accessFlags := 24, nameIndex := 409, descriptorIndex := 91, attributes := #[] }, { accessFlags := 128, nameIndex := 107, descriptorIndex := 108, attributes := #[] }, { accessFlags := 128, nameIndex := 123, descriptorIndex := 242, attributes := #[] }, { accessFlags := 128, nameIndex := 104, descriptorIndex := 91, attributes := #[] }, { accessFlags := 128, nameIndex := 204, descriptorIndex := 91, attributes := #[] }, { accessFlags := 0, nameIndex := 90, descriptorIndex := 91, attributes := #[] }, { accessFlags := 16, nameIndex := 83, descriptorIndex := 84, attributes := #[] }])
  fields := #[{ name := "serialVersionUID", type := .long, accessFlags := 26, slot := 0, constantValue := 0 }, { name := "DEFAULT_INITIAL_CAPACITY", type := .int, accessFlags := 24, slot := 1, constantValue := 0 }, { name := "MAXIMUM_CAPACITY", type := .int, accessFlags := 24, slot := 2, constantValue := 0 }, { name := "DEFAULT_LOAD_FACTOR", type := .float, accessFlags := 24, slot := 3, constantValue := 0 }, { name := "TREEIFY_THRESHOLD", type := .int, accessFlags := 24, slot := 4, constantValue := 0 }, { name := "UNTREEIFY_THRESHOLD", type := .int, accessFlags := 24, slot := 5, constantValue := 0 }, { name := "MIN_TREEIFY_CAPACITY", type := .int, accessFlags := 24, slot := 6, constantValue := 0 }, { name := "table", type := (.array (.object "java/util/HashMap$Node")), accessFlags := 128, slot := 2, constantValue := 0 }, { name := "entrySet", type := (.object "java/util/Set"), accessFlags := 128, slot := 3, constantValue := 0 }, { name := "size", type := .int, accessFlags := 128, slot := 4, constantValue := 0 }, { name := "modCount", type := .int, accessFlags := 128, slot := 5, constantValue := 0 }, { name := "threshold", type := .int, accessFlags := 0, slot := 6, constantValue := 0 }, { name := "loadFactor", type := .float, accessFlags := 16, slot := 7, constantValue := 0 }]
  methods := #[k30m0, k30m1, k30m2, k30m3, k30m4, k30m5, k30m6, k30m7, k30m8, k30m9]
  instanceTypes := #[(.object "java/util/Set"), (.object "java/util/Collection"), (.array (.object "java/util/HashMap$Node")), (.object "java/util/Set"), .int, .int, .int, .float]
  staticTypes := #[.long, .int, .int, .float, .int, .int, .int]
  resolved := Array.replicate 629 none
  statics := none }

def pool31 : Array CpInfo := pool [(26, .class_ 27), (0, u "java/lang/Object"), (5, .class_ 34), (0, u "java/util/Set"), (1, .class_ 38), (1, u "java/util/Collection")] 105

/-- java/util/Set -/
def k31 : Class := { plain "java/util/Set" (some 0) with
  accessFlags := 1537
  interfaces := #[16]
  cf := some (fileOf pool31 33 #[] #[] 1537 26 #[36] #[])
  fields := #[]
  methods := #[]
  instanceTypes := #[]
  staticTypes := #[]
  resolved := Array.replicate 144 none
  statics := none }

def pool32 : Array CpInfo := pool [(1, .methodref 2 3), (0, .class_ 4), (0, .nameAndType 5 6), (0, u "java/util/AbstractCollection"), (0, u "<init>"), (0, u "()V"), (0, .class_ 8), (0, u "java/util/Set"), (7, .class_ 17), (0, u "java/util/AbstractSet")] 78

def k32c0 : Code := { maxStack := 1, maxLocals := 1, code := jdk_91_method_1_code, exceptionTable := #[], attributes := #[] }
def k32m0 : Method := { name := "<init>", desc := "()V", sig := { parameters := [], returnType := none }, accessFlags := 4, code := some k32c0 }
/-- java/util/AbstractSet -/
def k32 : Class := { plain "java/util/AbstractSet" (some 20) with
  accessFlags := 1057
  interfaces := #[31]
  cf := some (fileOf pool32 16 #[] #[{ accessFlags := 4, nameIndex := 5, descriptorIndex := 6, attributes := #[] }] 1057 2 #[7] #[])
  fields := #[]
  methods := #[k32m0]
  instanceTypes := #[]
  staticTypes := #[]
  resolved := Array.replicate 96 none
  statics := none }

def pool33 : Array CpInfo := pool [(1, .methodref 2 3), (0, .class_ 4), (0, .nameAndType 5 6), (0, u "java/util/AbstractSet"), (0, u "<init>"), (0, u "()V"), (0, .class_ 8), (0, u "java/util/HashMap"), (0, .methodref 7 3), (0, .fieldref 11 12), (0, .class_ 13), (0, .nameAndType 14 15), (0, u "java/util/HashSet"), (0, u "map"), (0, u "Ljava/util/HashMap;"), (34, .class_ 52), (1, u "java/util/Set"), (13, u "PRESENT"), (0, u "Ljava/lang/Object;"), (158, .class_ 227), (0, u "java/lang/Cloneable"), (0, .class_ 229), (0, u "java/io/Serializable"), (0, u "serialVersionUID"), (0, u "J")] 71

def k33c0 : Code := { maxStack := 3, maxLocals := 1, code := jdk_93_method_1_code, exceptionTable := #[], attributes := #[] }
def k33m0 : Method := { name := "<init>", desc := "()V", sig := { parameters := [], returnType := none }, accessFlags := 1, code := some k33c0 }
/-- java/util/HashSet -/
def k33 : Class := { plain "java/util/HashSet" (some 32) with
  accessFlags := 33
  interfaces := #[31, 29, 2]
  cf := some (fileOf pool33 11 #[] #[{ accessFlags := 1, nameIndex := 5, descriptorIndex := 6, attributes := #[] }] 33 2 #[50, 226, 228] #[{ accessFlags := 24, nameIndex := 230, descriptorIndex := 231, attributes := #[] }, { accessFlags := 128, nameIndex := 14, descriptorIndex := 15, attributes := #[] }, { accessFlags := 24, nameIndex := 66, descriptorIndex := 67, attributes := #[] }])
  fields := #[{ name := "serialVersionUID", type := .long, accessFlags := 24, slot := 0, constantValue := 0 }, { name := "map", type := (.object "java/util/HashMap"), accessFlags := 128, slot := 0, constantValue := 0 }, { name := "PRESENT", type := (.object "java/lang/Object"), accessFlags := 24, slot := 1, constantValue := 0 }]
  methods := #[k33m0]
  instanceTypes := #[(.object "java/util/HashMap")]
  staticTypes := #[.long, (.object "java/lang/Object")]
  resolved := Array.replicate 303 none
  statics := none }

def pool34 : Array CpInfo := pool [(23, .class_ 25), (1, u "java/util/Map$Entry"), (6, .class_ 34), (1, u "java/util/Map"), (34, .class_ 70), (0, u "java/lang/Object")] 107

/-- java/util/Map$Entry -/
def k34 : Class := { plain "java/util/Map$Entry" (some 0) with
  accessFlags := 1537
  interfaces := #[]
  cf := some (fileOf pool34 23 #[.nestHost 32] #[] 1537 69 #[] #[])
  fields := #[]
  methods := #[]
  instanceTypes := #[]
  staticTypes := #[]
  resolved := Array.replicate 178 none
  statics := none }

def pool35 : Array CpInfo := pool [(1, .methodref 2 3), (0, .class_ 4), (0, .nameAndType 5 6), (0, u "java/lang/Object"), (0, u "<init>"), (0, u "()V"), (0, .fieldref 8 9), (0, .class_ 10), (0, .nameAndType 11 12), (0, u "java/util/HashMap$Node"), (0, u "hash"), (0, u "I"), (0, .fieldref 8 14), (0, .nameAndType 15 16), (0, u "key"), (0, u "Ljava/lang/Object;"), (0, .fieldref 8 18), (0, .nameAndType 19 16), (0, u "value"), (0, .fieldref 8 21), (0, .nameAndType 22 23), (0, u "next"), (0, u "Ljava/util/HashMap$Node;"), (22, .class_ 47), (0, u "java/util/Map$Entry"), (15, u "(ILjava/lang/Object;Ljava/lang/Object;Ljava/util/HashMap$Node;)V"), (24, .class_ 89), (0, u "java/util/HashMap")] 5

def k35c0 : Code := { maxStack := 2, maxLocals := 5, code := jdk_70_method_1_code, exceptionTable := #[], attributes := #[] }
def k35m0 : Method := { name := "<init>", desc := "(ILjava/lang/Object;Ljava/lang/Object;Ljava/util/HashMap$Node;)V", sig := { parameters := [.int, (.object "java/lang/Object"), (.object "java/lang/Object"), (.object "java/util/HashMap$Node")], returnType := none }, accessFlags := 0, code := some k35c0 }
/-- java/util/HashMap$Node -/
def k35 : Class := { plain "java/util/HashMap$Node" (some 0) with
  accessFlags := 32
  interfaces := #[34]
  cf := some (fileOf pool35 8 #[.nestHost 88] #[{ accessFlags := 0, nameIndex := 5, descriptorIndex := 63, attributes := #[] }] 32 2 #[46] #[{ accessFlags := 16, nameIndex := 11, descriptorIndex := 12, attributes := #[] }, { accessFlags := 16, nameIndex := 15, descriptorIndex := 16, attributes := #[] }, { accessFlags := 0, nameIndex := 19, descriptorIndex := 16, attributes := #[] }, { accessFlags := 0, nameIndex := 22, descriptorIndex := 23, attributes := #[] }])
  fields := #[{ name := "hash", type := .int, accessFlags := 16, slot := 0, constantValue := 0 }, { name := "key", type := (.object "java/lang/Object"), accessFlags := 16, slot := 1, constantValue := 0 }, { name := "value", type := (.object "java/lang/Object"), accessFlags := 0, slot := 2, constantValue := 0 }, { name := "next", type := (.object "java/util/HashMap$Node"), accessFlags := 0, slot := 3, constantValue := 0 }]
  methods := #[k35m0]
  instanceTypes := #[.int, (.object "java/lang/Object"), (.object "java/lang/Object"), (.object "java/util/HashMap$Node")]
  staticTypes := #[]
  resolved := Array.replicate 95 none
  statics := none }

def pool36 : Array CpInfo := pool [(2, .class_ 4), (1, u "java/lang/Object"), (0, u "<init>"), (0, u "()V"), (17, .class_ 26), (1, u "jdk/internal/util/Preconditions"), (28, .class_ 56), (0, u "jdk/internal/util/Preconditions$4"), (57, .class_ 115), (0, u "jdk/internal/util/Preconditions$1"), (7, u "SIOOBE_FORMATTER"), (0, u "Ljava/util/function/BiFunction;"), (0, .class_ 126), (0, u "jdk/internal/util/Preconditions$2"), (3, u "AIOOBE_FORMATTER"), (0, .class_ 132), (0, u "jdk/internal/util/Preconditions$3"), (3, u "IOOBE_FORMATTER")] 57

def k36m0 : Method := { name := "<init>", desc := "()V", sig := { parameters := [], returnType := none }, accessFlags := 1, code := none }
/-- jdk/internal/util/Preconditions -/
def k36 : Class := { plain "jdk/internal/util/Preconditions" (some 0) with
  accessFlags := 33
  interfaces := #[]
  cf := some (fileOf pool36 24 #[.nestMembers #[55, 131, 125, 114]] #[{ accessFlags := 1, nameIndex := 5, descriptorIndex := 6, attributes := #[] }] 33 2 #[] #[{ accessFlags := 25, nameIndex := 123, descriptorIndex := 124, attributes := #[] }, { accessFlags := 25, nameIndex := 130, descriptorIndex := 124, attributes := #[] }, { accessFlags := 25, nameIndex := 136, descriptorIndex := 124, attributes := #[] }])
  fields := #[{ name := "SIOOBE_FORMATTER", type := (.object "java/util/function/BiFunction"), accessFlags := 25, slot := 0, constantValue := 0 }, { name := "AIOOBE_FORMATTER", type := (.object "java/util/function/BiFunction"), accessFlags := 25, slot := 1, constantValue := 0 }, { name := "IOOBE_FORMATTER", type := (.object "java/util/function/BiFunction"), accessFlags := 25, slot := 2, constantValue := 0 }]
  methods := #[k36m0]
  instanceTypes := #[]
  staticTypes := #[(.object "java/util/function/BiFunction"), (.object "java/util/function/BiFunction"), (.object "java/util/function/BiFunction")]
  resolved := Array.replicate 194 none
  statics := some 4 }

def pool37 : Array CpInfo := pool [(9, u "<init>"), (6, .class_ 18), (1, u "java/lang/Object"), (0, u "()V"), (1, .class_ 23), (1, u "jdk/internal/util/ArraysSupport"), (0, u "LOG2_ARRAY_LONG_INDEX_SCALE"), (0, u "I"), (2, u "U"), (0, u "Ljdk/internal/misc/Unsafe;"), (8, u "BIG_ENDIAN"), (0, u "Z"), (8, u "LOG2_BYTE_BIT_SIZE"), (4, u "LOG2_ARRAY_INT_INDEX_SCALE"), (54, u "JLA"), (0, u "Ljdk/internal/access/JavaLangAccess;"), (11, u "LOG2_ARRAY_BOOLEAN_INDEX_SCALE"), (9, u "LOG2_ARRAY_BYTE_INDEX_SCALE"), (5, u "LOG2_ARRAY_CHAR_INDEX_SCALE"), (5, u "LOG2_ARRAY_SHORT_INDEX_SCALE"), (18, u "LOG2_ARRAY_FLOAT_INDEX_SCALE"), (24, u "LOG2_ARRAY_DOUBLE_INDEX_SCALE"), (89, u "T_BOOLEAN"), (2, u "T_CHAR"), (1, u "T_FLOAT"), (1, u "T_DOUBLE"), (1, u "T_BYTE"), (1, u "T_SHORT"), (1, u "T_INT"), (1, u "T_LONG"), (1, u "SOFT_MAX_ARRAY_LENGTH")] 83

def k37m0 : Method := { name := "<init>", desc := "()V", sig := { parameters := [], returnType := none }, accessFlags := 2, code := none }
/-- jdk/internal/util/ArraysSupport -/
def k37 : Class := { plain "jdk/internal/util/ArraysSupport" (some 0) with
  accessFlags := 33
  interfaces := #[]
  cf := some (fileOf pool37 21 #[] #[{ accessFlags := 2, nameIndex := 9, descriptorIndex := 19, attributes := #[] }] 33 16 #[] #[{ accessFlags := 24, nameIndex := 28, descriptorIndex := 29, attributes := #[] }, { accessFlags := 26, nameIndex := 38, descriptorIndex := 39, attributes := #[] }, { accessFlags := 25, nameIndex := 121, descriptorIndex := 25, attributes := #[] }, { accessFlags := 25, nameIndex := 131, descriptorIndex := 25, attributes := #[] }, { accessFlags := 25, nameIndex := 137, descriptorIndex := 25, attributes := #[] }, { accessFlags := 25, nameIndex := 143, descriptorIndex := 25, attributes := #[] }, { accessFlags := 25, nameIndex := 53, descriptorIndex := 25, attributes := #[] }, { accessFlags := 25, nameIndex := 24, descriptorIndex := 25, attributes := #[] }, { accessFlags := 25, nameIndex := 162, descriptorIndex := 25, attributes := #[] }, { accessFlags := 25, nameIndex := 187, descriptorIndex := 25, attributes := #[] }, { accessFlags := 26, nameIndex := 48, descriptorIndex := 25, attributes := #[] }, { accessFlags := 25, nameIndex := 277, descriptorIndex := 25, attributes := #[] }, { accessFlags := 25, nameIndex := 280, descriptorIndex := 25, attributes := #[] }, { accessFlags := 25, nameIndex := 282, descriptorIndex := 25, attributes := #[] }, { accessFlags := 25, nameIndex := 284, descriptorIndex := 25, attributes := #[] }, { accessFlags := 25, nameIndex := 286, descriptorIndex := 25, attributes := #[] }, { accessFlags := 25, nameIndex := 288, descriptorIndex := 25, attributes := #[] }, { accessFlags := 25, nameIndex := 290, descriptorIndex := 25, attributes := #[] }, { accessFlags := 25, nameIndex := 292, descriptorIndex := 25, attributes := #[] }, { accessFlags := 26, nameIndex := 108, descriptorIndex := 109, attributes := #[] }, { accessFlags := 25, nameIndex := 294, descriptorIndex := 25, attributes := #[] }])
  fields := #[{ name := "U", type := (.object "jdk/internal/misc/Unsafe"), accessFlags := 24, slot := 0, constantValue := 0 }, { name := "BIG_ENDIAN", type := .boolean, accessFlags := 26, slot := 1, constantValue := 0 }, { name := "LOG2_ARRAY_BOOLEAN_INDEX_SCALE", type := .int, accessFlags := 25, slot := 2, constantValue := 0 }, { name := "LOG2_ARRAY_BYTE_INDEX_SCALE", type := .int, accessFlags := 25, slot := 3, constantValue := 0 }, { name := "LOG2_ARRAY_CHAR_INDEX_SCALE", type := .int, accessFlags := 25, slot := 4, constantValue := 0 }, { name := "LOG2_ARRAY_SHORT_INDEX_SCALE", type := .int, accessFlags := 25, slot := 5, constantValue := 0 }, { name := "LOG2_ARRAY_INT_INDEX_SCALE", type := .int, accessFlags := 25, slot := 6, constantValue := 0 }, { name := "LOG2_ARRAY_LONG_INDEX_SCALE", type := .int, accessFlags := 25, slot := 7, constantValue := 0 }, { name := "LOG2_ARRAY_FLOAT_INDEX_SCALE", type := .int, accessFlags := 25, slot := 8, constantValue := 0 }, { name := "LOG2_ARRAY_DOUBLE_INDEX_SCALE", type := .int, accessFlags := 25, slot := 9, constantValue := 0 }, { name := "LOG2_BYTE_BIT_SIZE", type := .int, accessFlags := 26, slot := 10, constantValue := 0 }, { name := "T_BOOLEAN", type := .int, accessFlags := 25, slot := 11, constantValue := 0 }, { name := "T_CHAR", type := .int, accessFlags := 25, slot := 12, constantValue := 0 }, { name := "T_FLOAT", type := .int, accessFlags := 25, slot := 13, constantValue := 0 }, { name := "T_DOUBLE", type := .int, accessFlags := 25, slot := 14, constantValue := 0 }, { name := "T_BYTE", type := .int, accessFlags := 25, slot := 15, constantValue := 0 }, { name := "T_SHORT", type := .int, accessFlags := 25, slot := 16, constantValue := 0 }, { name := "T_INT", type := .int, accessFlags := 25, slot := 17, constantValue := 0 }, { name := "T_LONG", type := .int, accessFlags := 25, slot := 18, constantValue := 0 }, { name := "JLA", type := (.object "jdk/internal/access/JavaLangAccess"), accessFlags := 26, slot := 19, constantValue := 0 }, { name := "SOFT_MAX_ARRAY_LENGTH", type := .int, accessFlags := 25, slot := 20, constantValue := 0 }]
  methods := #[k37m0]
  instanceTypes := #[]
  staticTypes := #[(.object "jdk/internal/misc/Unsafe"), .boolean, .int, .int, .int, .int, .int, .int, .int, .int, .int, .int, .int, .int, .int, .int, .int, .int, .int, (.object "jdk/internal/access/JavaLangAccess"), .int]
  resolved := Array.replicate 378 none
  statics := none }

/-- the primitive byte -/
def k38 : Class := { plain "byte" none with kind := .primitive 'B', accessFlags := 0x411 }
/-- [B -/
def k39 : Class := { plain "[B" (some 0) with kind := .array 38 .byte, interfaces := #[29, 2], accessFlags := 1041 }

/-- the primitive char -/
def k40 : Class := { plain "char" none with kind := .primitive 'C', accessFlags := 0x411 }
/-- [C -/
def k41 : Class := { plain "[C" (some 0) with kind := .array 40 .char, interfaces := #[29, 2], accessFlags := 1041 }

/-- the primitive int -/
def k42 : Class := { plain "int" none with kind := .primitive 'I', accessFlags := 0x411 }
/-- [I -/
def k43 : Class := { plain "[I" (some 0) with kind := .array 42 .int, interfaces := #[29, 2], accessFlags := 1041 }

/-- [Ljava/lang/Object; -/
def k44 : Class := { plain "[Ljava/lang/Object;" (some 0) with kind := .array 0 (.object "java/lang/Object"), interfaces := #[29, 2], accessFlags := 1041 }

/-- [Ljava/util/HashMap$Node; -/
def k45 : Class := { plain "[Ljava/util/HashMap$Node;" (some 0) with kind := .array 35 (.object "java/util/HashMap$Node"), interfaces := #[29, 2], accessFlags := 1041 }

def heap : Heap := #[{ cls := 7, slots := #[.long 0, .int 1, .null, .int 0, .null, .int 0, .int 0], vm := .statics 7 },
  { cls := 12, slots := #[.ref 5, .null, .null, .null, .null, .null, .null, .null], vm := .statics 12 },
  { cls := 14, slots := #[.ref 6, .null, .null, .null], vm := .statics 14 },
  { cls := 19, slots := #[.long 0, .int 0, .null, .null, .ref 8, .null, .null, .null, .int 0, .int 0], vm := .statics 19 },
  { cls := 36, slots := #[.null, .null, .null], vm := .statics 36 },
  { cls := 12, slots := #[.null, .int 0, .int 0], vm := .none },
  { cls := 14, slots := #[.null, .int 0, .int 0], vm := .none },
  { cls := 44, slots := #[], vm := .none },
  { cls := 25, slots := #[.ref 7, .int 0], vm := .none }]
def classes : Array Class := #[k0, k1, k2, k3, k4, k5, k6, k7, k8, k9, k10, k11, k12, k13, k14, k15, k16, k17, k18, k19, k20, k21, k22, k23, k24, k25, k26, k27, k28, k29, k30, k31, k32, k33, k34, k35, k36, k37, k38, k39, k40, k41, k42, k43, k44, k45]
def interned : List (Array UInt16 × Addr) := []
def slotsUsed : Nat := 40
def theMethod : MethodId := ⟨1, 1⟩
def args0 : Array Value := #[.int 3, .int 97, .int 98, .int 99]
def aboutOver (below : List Frame) : State where
  vm := { classes := classes, interned := interned.toArray }
  heap := heap
  slotsUsed := slotsUsed
  threads := #[{ frames := .invoking theMethod args0 :: below }]
def below0 : List Frame := [.native { method := ⟨0, 0⟩, args := #[] }]
def about1 : State := aboutOver below0
def p0 : Program := .bare "" "" ""
def e0 : Env := launch0.env 0 0 0
theorem w_frames : about1.frames = Frame.invoking theMethod args0 :: below0 := rfl
set_option maxRecDepth 65536 in
theorem w_args : argsFit about1.vm theMethod args0 = true := by decide +kernel
set_option maxRecDepth 65536 in
theorem w_heap : heapFits about1 = true := by decide +kernel
set_option maxRecDepth 65536 in
theorem w_runnable : about1.curStatus? = some .runnable := by decide +kernel
set_option maxRecDepth 65536 in
theorem w_alone : about1.alone = true := by decide +kernel
set_option maxRecDepth 65536 in
theorem w_named : about1.methodNamed? x = some theMethod := by decide +kernel
set_option maxRecDepth 65536 in
theorem w_hears : about1.hears theMethod below0 = true := by decide +kernel
set_option maxRecDepth 65536 in
theorem w_ripe : about1.ripe theMethod args0 below0 = true := by decide +kernel
theorem w_running : about1.status = .running := rfl
set_option maxRecDepth 65536 in
theorem w_room : about1.hasRoom e0.platform room_1 = true :=
  launch0.hasRoom_least _ room_1 (by decide +kernel) (by decide +kernel) (by decide +kernel) (by decide +kernel) (by decide +kernel) (by decide +kernel)
theorem allAtoms_all (ts : List Jvm.Cond) (a : Array Jvm.Value) (st : Jvm.State) : (allAtoms ts).before a st = ts.all (fun c => c.before a st) := by
  induction ts with
  | nil => rfl
  | cons c t ih =>
    show (Jvm.Cond.and c (allAtoms t)).before a st = _
    rw [Jvm.Cond.before_and, ih, List.all_cons]
def words1 : List Jvm.Cond := Jvm.Cond.code x code maxLocals ret :: tables_1
/-- a 'code' word, met by the world's own term for the bytes: nothing is compared byte by byte -/
theorem code_word {y : MethodName} {bytes : ByteArray} {mx : Nat} {rt : Option FieldType} {a : Array Value} {s : State} {m : MethodId} {meth : Method} {c : Code} (h1 : s.methodNamed? y = some m) (h2 : s.vm.method? m = some meth) (h3 : meth.code = some c) (h4 : c.code = bytes)
    (h5 : (c.maxLocals == mx && c.exceptionTable.isEmpty && decide (c.maxStack ≤ mostOperands) && decide (meth.sig.returnType = rt) && !meth.locks && decide (parseMethodDescriptor y.desc = some meth.sig)) = true) : (Jvm.Cond.code y bytes mx rt).before a s = true := by
  simp only [Bool.and_eq_true, beq_iff_eq, Bool.not_eq_true', decide_eq_true_eq] at h5
  obtain ⟨⟨⟨⟨⟨g1, g2⟩, g3⟩, g4⟩, g5⟩, g6⟩ := h5
  simp [Cond.before, Cond.holds, Cond.value, h1, h2, h3, h4, g1, g2, g3, g4, g5, g6]
def isCode : Jvm.Cond → Bool
  | .code _ _ _ _ => true
  | _ => false
theorem all_split {L : List Jvm.Cond} {P : Jvm.Cond → Bool} (h1 : L.all (fun c => isCode c || P c) = true) (h2 : ∀ c ∈ L.filter isCode, P c = true) : L.all P = true := by
  refine List.all_eq_true.mpr fun c hc => ?_
  have h := List.all_eq_true.mp h1 c hc
  rcases Bool.eq_false_or_eq_true (isCode c) with hi | hi
  · exact h2 c (List.mem_filter.mpr ⟨hc, hi⟩)
  · simpa [hi] using h
set_option maxRecDepth 65536 in
theorem w_c0 : (Jvm.Cond.code x code maxLocals ret).before args0 about1 = true := code_word (m := ⟨1, 1⟩) (meth := k1m1) (c := k1c1) (by decide +kernel) rfl rfl rfl (by decide +kernel)
set_option maxRecDepth 65536 in
theorem w_c1 : (Jvm.Cond.code ({ cls := "java/lang/String", name := "<init>", desc := "([C)V" } : Jvm.MethodName) jdk_42_method_3_code (2 : Nat) (Option.none : Option Jvm.ClassFile.FieldType)).before args0 about1 = true := code_word (m := ⟨7, 1⟩) (meth := k7m1) (c := k7c1) (by decide +kernel) rfl rfl rfl (by decide +kernel)
set_option maxRecDepth 65536 in
theorem w_c2 : (Jvm.Cond.code ({ cls := "java/lang/String", name := "<init>", desc := "([CIILjava/lang/Void;)V" } : Jvm.MethodName) jdk_42_method_149_code (6 : Nat) (Option.none : Option Jvm.ClassFile.FieldType)).before args0 about1 = true := code_word (m := ⟨7, 5⟩) (meth := k7m5) (c := k7c5) (by decide +kernel) rfl rfl rfl (by decide +kernel)
set_option maxRecDepth 65536 in
theorem w_c3 : (Jvm.Cond.code ({ cls := "java/lang/Object", name := "<init>", desc := "()V" } : Jvm.MethodName) object_method_1_code (1 : Nat) (Option.none : Option Jvm.ClassFile.FieldType)).before args0 about1 = true := code_word (m := ⟨0, 0⟩) (meth := k0m0) (c := k0c0) (by decide +kernel) rfl rfl rfl (by decide +kernel)
set_option maxRecDepth 65536 in
theorem w_c4 : (Jvm.Cond.code ({ cls := "java/lang/StringUTF16", name := "compress", desc := "([CII)[B" } : Jvm.MethodName) jdk_52_method_16_code (6 : Nat) (Option.some (Jvm.ClassFile.FieldType.array Jvm.ClassFile.FieldType.byte))).before args0 about1 = true := code_word (m := ⟨8, 2⟩) (meth := k8m2) (c := k8c2) (by decide +kernel) rfl rfl rfl (by decide +kernel)
set_option maxRecDepth 65536 in
theorem w_c5 : (Jvm.Cond.code ({ cls := "java/lang/StringUTF16", name := "compress", desc := "([CI[BII)I" } : Jvm.MethodName) jdk_52_method_21_code (7 : Nat) (Option.some Jvm.ClassFile.FieldType.int)).before args0 about1 = true := code_word (m := ⟨8, 3⟩) (meth := k8m3) (c := k8c3) (by decide +kernel) rfl rfl rfl (by decide +kernel)
set_option maxRecDepth 65536 in
theorem w_c6 : (Jvm.Cond.code ({ cls := "java/lang/StringUTF16", name := "coderFromArrayLen", desc := "([BI)B" } : Jvm.MethodName) jdk_52_method_15_code (2 : Nat) (Option.some Jvm.ClassFile.FieldType.byte)).before args0 about1 = true := code_word (m := ⟨8, 1⟩) (meth := k8m1) (c := k8c1) (by decide +kernel) rfl rfl rfl (by decide +kernel)
set_option maxRecDepth 65536 in
theorem w_c7 : (Jvm.Cond.code ({ cls := "java/lang/String", name := "valueOf", desc := "(C)Ljava/lang/String;" } : Jvm.MethodName) jdk_42_method_139_code (1 : Nat) (Option.some (Jvm.ClassFile.FieldType.object "java/lang/String"))).before args0 about1 = true := code_word (m := ⟨7, 4⟩) (meth := k7m4) (c := k7c4) (by decide +kernel) rfl rfl rfl (by decide +kernel)
set_option maxRecDepth 65536 in
theorem w_c8 : (Jvm.Cond.code ({ cls := "java/lang/StringLatin1", name := "canEncode", desc := "(C)Z" } : Jvm.MethodName) jdk_43_method_3_code (1 : Nat) (Option.some Jvm.ClassFile.FieldType.boolean)).before args0 about1 = true := code_word (m := ⟨9, 1⟩) (meth := k9m1) (c := k9c1) (by decide +kernel) rfl rfl rfl (by decide +kernel)
set_option maxRecDepth 65536 in
theorem w_c9 : (Jvm.Cond.code ({ cls := "java/lang/StringLatin1", name := "toBytes", desc := "(C)[B" } : Jvm.MethodName) jdk_43_method_46_code (1 : Nat) (Option.some (Jvm.ClassFile.FieldType.array Jvm.ClassFile.FieldType.byte))).before args0 about1 = true := code_word (m := ⟨9, 4⟩) (meth := k9m4) (c := k9c4) (by decide +kernel) rfl rfl rfl (by decide +kernel)
set_option maxRecDepth 65536 in
theorem w_c10 : (Jvm.Cond.code ({ cls := "java/lang/String", name := "<init>", desc := "([BB)V" } : Jvm.MethodName) jdk_42_method_151_code (3 : Nat) (Option.none : Option Jvm.ClassFile.FieldType)).before args0 about1 = true := code_word (m := ⟨7, 6⟩) (meth := k7m6) (c := k7c6) (by decide +kernel) rfl rfl rfl (by decide +kernel)
set_option maxRecDepth 65536 in
theorem w_c11 : (Jvm.Cond.code ({ cls := "com/example/entitlement/entitlement/Term", name := "local", desc := "(Ljava/lang/String;)Lcom/example/entitlement/entitlement/Term;" } : Jvm.MethodName) prog_41_method_3_code (1 : Nat) (Option.some (Jvm.ClassFile.FieldType.object "com/example/entitlement/entitlement/Term"))).before args0 about1 = true := code_word (m := ⟨10, 2⟩) (meth := k10m2) (c := k10c2) (by decide +kernel) rfl rfl rfl (by decide +kernel)
set_option maxRecDepth 65536 in
theorem w_c12 : (Jvm.Cond.code ({ cls := "com/example/entitlement/entitlement/Term", name := "<init>", desc := "(Lcom/example/entitlement/entitlement/Term$Kind;Ljava/lang/String;Ljava/lang/String;Ljava/lang/String;)V" } : Jvm.MethodName) prog_41_method_1_code (5 : Nat) (Option.none : Option Jvm.ClassFile.FieldType)).before args0 about1 = true := code_word (m := ⟨10, 0⟩) (meth := k10m0) (c := k10c0) (by decide +kernel) rfl rfl rfl (by decide +kernel)
set_option maxRecDepth 65536 in
theorem w_c13 : (Jvm.Cond.code ({ cls := "com/example/entitlement/entitlement/Term", name := "<init>", desc := "(Lcom/example/entitlement/entitlement/Term$Kind;Ljava/lang/String;Ljava/lang/String;Ljava/lang/String;Lcom/example/entitlement/entitlement/Comparison;)V" } : Jvm.MethodName) prog_41_method_2_code (6 : Nat) (Option.none : Option Jvm.ClassFile.FieldType)).before args0 about1 = true := code_word (m := ⟨10, 1⟩) (meth := k10m1) (c := k10c1) (by decide +kernel) rfl rfl rfl (by decide +kernel)
set_option maxRecDepth 65536 in
theorem w_c14 : (Jvm.Cond.code ({ cls := "com/example/entitlement/entitlement/Expression", name := "term", desc := "(Lcom/example/entitlement/entitlement/Term;)Lcom/example/entitlement/entitlement/Expression;" } : Jvm.MethodName) prog_6_method_2_code (1 : Nat) (Option.some (Jvm.ClassFile.FieldType.object "com/example/entitlement/entitlement/Expression"))).before args0 about1 = true := code_word (m := ⟨13, 1⟩) (meth := k13m1) (c := k13c1) (by decide +kernel) rfl rfl rfl (by decide +kernel)
set_option maxRecDepth 65536 in
theorem w_c15 : (Jvm.Cond.code ({ cls := "java/util/List", name := "of", desc := "()Ljava/util/List;" } : Jvm.MethodName) jdk_40_method_36_code (0 : Nat) (Option.some (Jvm.ClassFile.FieldType.object "java/util/List"))).before args0 about1 = true := code_word (m := ⟨18, 0⟩) (meth := k18m0) (c := k18c0) (by decide +kernel) rfl rfl rfl (by decide +kernel)
set_option maxRecDepth 65536 in
theorem w_c16 : (Jvm.Cond.code ({ cls := "com/example/entitlement/entitlement/Expression", name := "<init>", desc := "(Lcom/example/entitlement/entitlement/Expression$Kind;Lcom/example/entitlement/entitlement/Term;Ljava/util/List;)V" } : Jvm.MethodName) prog_6_method_1_code (4 : Nat) (Option.none : Option Jvm.ClassFile.FieldType)).before args0 about1 = true := code_word (m := ⟨13, 0⟩) (meth := k13m0) (c := k13c0) (by decide +kernel) rfl rfl rfl (by decide +kernel)
set_option maxRecDepth 65536 in
theorem w_c17 : (Jvm.Cond.code ({ cls := "java/util/List", name := "copyOf", desc := "(Ljava/util/Collection;)Ljava/util/List;" } : Jvm.MethodName) jdk_40_method_48_code (1 : Nat) (Option.some (Jvm.ClassFile.FieldType.object "java/util/List"))).before args0 about1 = true := code_word (m := ⟨18, 1⟩) (meth := k18m1) (c := k18c1) (by decide +kernel) rfl rfl rfl (by decide +kernel)
set_option maxRecDepth 65536 in
theorem w_c18 : (Jvm.Cond.code ({ cls := "java/util/ImmutableCollections", name := "listCopy", desc := "(Ljava/util/Collection;)Ljava/util/List;" } : Jvm.MethodName) jdk_56_method_3_code (2 : Nat) (Option.some (Jvm.ClassFile.FieldType.object "java/util/List"))).before args0 about1 = true := code_word (m := ⟨19, 1⟩) (meth := k19m1) (c := k19c1) (by decide +kernel) rfl rfl rfl (by decide +kernel)
set_option maxRecDepth 65536 in
theorem w_c19 : (Jvm.Cond.code ({ cls := "com/example/entitlement/entitlement/ObjectType", name := "<init>", desc := "(Ljava/lang/String;)V" } : Jvm.MethodName) prog_20_method_1_code (2 : Nat) (Option.none : Option Jvm.ClassFile.FieldType)).before args0 about1 = true := code_word (m := ⟨26, 0⟩) (meth := k26m0) (c := k26c0) (by decide +kernel) rfl rfl rfl (by decide +kernel)
set_option maxRecDepth 65536 in
theorem w_c20 : (Jvm.Cond.code ({ cls := "java/util/HashMap", name := "<init>", desc := "()V" } : Jvm.MethodName) jdk_69_method_7_code (1 : Nat) (Option.none : Option Jvm.ClassFile.FieldType)).before args0 about1 = true := code_word (m := ⟨30, 1⟩) (meth := k30m1) (c := k30c1) (by decide +kernel) rfl rfl rfl (by decide +kernel)
set_option maxRecDepth 65536 in
theorem w_c21 : (Jvm.Cond.code ({ cls := "java/util/AbstractMap", name := "<init>", desc := "()V" } : Jvm.MethodName) jdk_71_method_1_code (1 : Nat) (Option.none : Option Jvm.ClassFile.FieldType)).before args0 about1 = true := code_word (m := ⟨28, 0⟩) (meth := k28m0) (c := k28c0) (by decide +kernel) rfl rfl rfl (by decide +kernel)
set_option maxRecDepth 65536 in
theorem w_c22 : (Jvm.Cond.code ({ cls := "java/util/HashSet", name := "<init>", desc := "()V" } : Jvm.MethodName) jdk_93_method_1_code (1 : Nat) (Option.none : Option Jvm.ClassFile.FieldType)).before args0 about1 = true := code_word (m := ⟨33, 0⟩) (meth := k33m0) (c := k33c0) (by decide +kernel) rfl rfl rfl (by decide +kernel)
set_option maxRecDepth 65536 in
theorem w_c23 : (Jvm.Cond.code ({ cls := "java/util/AbstractSet", name := "<init>", desc := "()V" } : Jvm.MethodName) jdk_91_method_1_code (1 : Nat) (Option.none : Option Jvm.ClassFile.FieldType)).before args0 about1 = true := code_word (m := ⟨32, 0⟩) (meth := k32m0) (c := k32c0) (by decide +kernel) rfl rfl rfl (by decide +kernel)
set_option maxRecDepth 65536 in
theorem w_c24 : (Jvm.Cond.code ({ cls := "java/util/AbstractCollection", name := "<init>", desc := "()V" } : Jvm.MethodName) jdk_22_method_1_code (1 : Nat) (Option.none : Option Jvm.ClassFile.FieldType)).before args0 about1 = true := code_word (m := ⟨20, 0⟩) (meth := k20m0) (c := k20c0) (by decide +kernel) rfl rfl rfl (by decide +kernel)
set_option maxRecDepth 65536 in
theorem w_c25 : (Jvm.Cond.code ({ cls := "com/example/entitlement/entitlement/ObjectType", name := "hasActionPermission", desc := "()Z" } : Jvm.MethodName) prog_20_method_10_code (1 : Nat) (Option.some Jvm.ClassFile.FieldType.boolean)).before args0 about1 = true := code_word (m := ⟨26, 2⟩) (meth := k26m2) (c := k26c2) (by decide +kernel) rfl rfl rfl (by decide +kernel)
set_option maxRecDepth 65536 in
theorem w_c26 : (Jvm.Cond.code ({ cls := "com/example/entitlement/entitlement/ObjectType", name := "ruleFor", desc := "(Ljava/lang/String;)Lcom/example/entitlement/entitlement/Expression;" } : Jvm.MethodName) prog_20_method_9_code (3 : Nat) (Option.some (Jvm.ClassFile.FieldType.object "com/example/entitlement/entitlement/Expression"))).before args0 about1 = true := code_word (m := ⟨26, 1⟩) (meth := k26m1) (c := k26c1) (by decide +kernel) rfl rfl rfl (by decide +kernel)
set_option maxRecDepth 65536 in
theorem w_c27 : (Jvm.Cond.code ({ cls := "java/util/HashMap", name := "get", desc := "(Ljava/lang/Object;)Ljava/lang/Object;" } : Jvm.MethodName) jdk_69_method_12_code (3 : Nat) (Option.some (Jvm.ClassFile.FieldType.object "java/lang/Object"))).before args0 about1 = true := code_word (m := ⟨30, 2⟩) (meth := k30m2) (c := k30c2) (by decide +kernel) rfl rfl rfl (by decide +kernel)
set_option maxRecDepth 65536 in
theorem w_c28 : (Jvm.Cond.code ({ cls := "java/util/HashMap", name := "getNode", desc := "(Ljava/lang/Object;)Ljava/util/HashMap$Node;" } : Jvm.MethodName) jdk_69_method_13_code (8 : Nat) (Option.some (Jvm.ClassFile.FieldType.object "java/util/HashMap$Node"))).before args0 about1 = true := code_word (m := ⟨30, 3⟩) (meth := k30m3) (c := k30c3) (by decide +kernel) rfl rfl rfl (by decide +kernel)
set_option maxRecDepth 65536 in
theorem w_c29 : (Jvm.Cond.code ({ cls := "java/util/HashMap", name := "containsKey", desc := "(Ljava/lang/Object;)Z" } : Jvm.MethodName) jdk_69_method_14_code (2 : Nat) (Option.some Jvm.ClassFile.FieldType.boolean)).before args0 about1 = true := code_word (m := ⟨30, 4⟩) (meth := k30m4) (c := k30c4) (by decide +kernel) rfl rfl rfl (by decide +kernel)
set_option maxRecDepth 65536 in
theorem w_c30 : (Jvm.Cond.code ({ cls := "com/example/entitlement/entitlement/ObjectType", name := "addPermission", desc := "(Ljava/lang/String;Lcom/example/entitlement/entitlement/Expression;)V" } : Jvm.MethodName) prog_20_method_16_code (3 : Nat) (Option.none : Option Jvm.ClassFile.FieldType)).before args0 about1 = true := code_word (m := ⟨26, 3⟩) (meth := k26m3) (c := k26c3) (by decide +kernel) rfl rfl rfl (by decide +kernel)
set_option maxRecDepth 65536 in
theorem w_c31 : (Jvm.Cond.code ({ cls := "java/util/HashMap", name := "put", desc := "(Ljava/lang/Object;Ljava/lang/Object;)Ljava/lang/Object;" } : Jvm.MethodName) jdk_69_method_15_code (3 : Nat) (Option.some (Jvm.ClassFile.FieldType.object "java/lang/Object"))).before args0 about1 = true := code_word (m := ⟨30, 5⟩) (meth := k30m5) (c := k30c5) (by decide +kernel) rfl rfl rfl (by decide +kernel)
set_option maxRecDepth 65536 in
theorem w_c32 : (Jvm.Cond.code ({ cls := "java/util/HashMap", name := "hash", desc := "(Ljava/lang/Object;)I" } : Jvm.MethodName) jdk_69_method_1_code (2 : Nat) (Option.some Jvm.ClassFile.FieldType.int)).before args0 about1 = true := code_word (m := ⟨30, 0⟩) (meth := k30m0) (c := k30c0) (by decide +kernel) rfl rfl rfl (by decide +kernel)
set_option maxRecDepth 65536 in
theorem w_c33 : (Jvm.Cond.code ({ cls := "java/lang/String", name := "hashCode", desc := "()I" } : Jvm.MethodName) jdk_42_method_78_code (2 : Nat) (Option.some Jvm.ClassFile.FieldType.int)).before args0 about1 = true := code_word (m := ⟨7, 3⟩) (meth := k7m3) (c := k7c3) (by decide +kernel) rfl rfl rfl (by decide +kernel)
set_option maxRecDepth 65536 in
theorem w_c34 : (Jvm.Cond.code ({ cls := "java/lang/String", name := "isLatin1", desc := "()Z" } : Jvm.MethodName) jdk_42_method_154_code (1 : Nat) (Option.some Jvm.ClassFile.FieldType.boolean)).before args0 about1 = true := code_word (m := ⟨7, 7⟩) (meth := k7m7) (c := k7c7) (by decide +kernel) rfl rfl rfl (by decide +kernel)
set_option maxRecDepth 65536 in
theorem w_c35 : (Jvm.Cond.code ({ cls := "java/lang/StringLatin1", name := "hashCode", desc := "([B)I" } : Jvm.MethodName) jdk_43_method_21_code (1 : Nat) (Option.some Jvm.ClassFile.FieldType.int)).before args0 about1 = true := code_word (m := ⟨9, 3⟩) (meth := k9m3) (c := k9c3) (by decide +kernel) rfl rfl rfl (by decide +kernel)
set_option maxRecDepth 65536 in
theorem w_c36 : (Jvm.Cond.code ({ cls := "java/util/HashMap", name := "putVal", desc := "(ILjava/lang/Object;Ljava/lang/Object;ZZ)Ljava/lang/Object;" } : Jvm.MethodName) jdk_69_method_16_code (13 : Nat) (Option.some (Jvm.ClassFile.FieldType.object "java/lang/Object"))).before args0 about1 = true := code_word (m := ⟨30, 6⟩) (meth := k30m6) (c := k30c6) (by decide +kernel) rfl rfl rfl (by decide +kernel)
set_option maxRecDepth 65536 in
theorem w_c37 : (Jvm.Cond.code ({ cls := "java/util/HashMap", name := "resize", desc := "()[Ljava/util/HashMap$Node;" } : Jvm.MethodName) jdk_69_method_17_code (14 : Nat) (Option.some (Jvm.ClassFile.FieldType.array (Jvm.ClassFile.FieldType.object "java/util/HashMap$Node")))).before args0 about1 = true := code_word (m := ⟨30, 7⟩) (meth := k30m7) (c := k30c7) (by decide +kernel) rfl rfl rfl (by decide +kernel)
set_option maxRecDepth 65536 in
theorem w_c38 : (Jvm.Cond.code ({ cls := "java/util/HashMap", name := "newNode", desc := "(ILjava/lang/Object;Ljava/lang/Object;Ljava/util/HashMap$Node;)Ljava/util/HashMap$Node;" } : Jvm.MethodName) jdk_69_method_46_code (5 : Nat) (Option.some (Jvm.ClassFile.FieldType.object "java/util/HashMap$Node"))).before args0 about1 = true := code_word (m := ⟨30, 8⟩) (meth := k30m8) (c := k30c8) (by decide +kernel) rfl rfl rfl (by decide +kernel)
set_option maxRecDepth 65536 in
theorem w_c39 : (Jvm.Cond.code ({ cls := "java/util/HashMap$Node", name := "<init>", desc := "(ILjava/lang/Object;Ljava/lang/Object;Ljava/util/HashMap$Node;)V" } : Jvm.MethodName) jdk_70_method_1_code (5 : Nat) (Option.none : Option Jvm.ClassFile.FieldType)).before args0 about1 = true := code_word (m := ⟨35, 0⟩) (meth := k35m0) (c := k35c0) (by decide +kernel) rfl rfl rfl (by decide +kernel)
set_option maxRecDepth 65536 in
theorem w_c40 : (Jvm.Cond.code ({ cls := "java/util/HashMap", name := "afterNodeInsertion", desc := "(Z)V" } : Jvm.MethodName) jdk_69_method_52_code (2 : Nat) (Option.none : Option Jvm.ClassFile.FieldType)).before args0 about1 = true := code_word (m := ⟨30, 9⟩) (meth := k30m9) (c := k30c9) (by decide +kernel) rfl rfl rfl (by decide +kernel)
set_option maxRecDepth 65536 in
theorem w_c41 : (Jvm.Cond.code ({ cls := "com/example/entitlement/entitlement/ObjectType", name := "setActionPermission", desc := "(Lcom/example/entitlement/entitlement/Expression;)V" } : Jvm.MethodName) prog_20_method_17_code (2 : Nat) (Option.none : Option Jvm.ClassFile.FieldType)).before args0 about1 = true := code_word (m := ⟨26, 4⟩) (meth := k26m4) (c := k26c4) (by decide +kernel) rfl rfl rfl (by decide +kernel)
set_option maxRecDepth 65536 in
theorem w_c42 : (Jvm.Cond.code ({ cls := "java/lang/String", name := "equals", desc := "(Ljava/lang/Object;)Z" } : Jvm.MethodName) jdk_42_method_66_code (3 : Nat) (Option.some Jvm.ClassFile.FieldType.boolean)).before args0 about1 = true := code_word (m := ⟨7, 2⟩) (meth := k7m2) (c := k7c2) (by decide +kernel) rfl rfl rfl (by decide +kernel)
set_option maxRecDepth 65536 in
theorem w_c43 : (Jvm.Cond.code ({ cls := "java/lang/StringLatin1", name := "equals", desc := "([B[B)Z" } : Jvm.MethodName) jdk_43_method_13_code (3 : Nat) (Option.some Jvm.ClassFile.FieldType.boolean)).before args0 about1 = true := code_word (m := ⟨9, 2⟩) (meth := k9m2) (c := k9c2) (by decide +kernel) rfl rfl rfl (by decide +kernel)
def codes1 : List Jvm.Cond := [Jvm.Cond.code x code maxLocals ret, Jvm.Cond.code ({ cls := "java/lang/String", name := "<init>", desc := "([C)V" } : Jvm.MethodName) jdk_42_method_3_code (2 : Nat) (Option.none : Option Jvm.ClassFile.FieldType), Jvm.Cond.code ({ cls := "java/lang/String", name := "<init>", desc := "([CIILjava/lang/Void;)V" } : Jvm.MethodName) jdk_42_method_149_code (6 : Nat) (Option.none : Option Jvm.ClassFile.FieldType), Jvm.Cond.code ({ cls := "java/lang/Object", name := "<init>", desc := "()V" } : Jvm.MethodName) object_method_1_code (1 : Nat) (Option.none : Option Jvm.ClassFile.FieldType), Jvm.Cond.code ({ cls := "java/lang/StringUTF16", name := "compress", desc := "([CII)[B" } : Jvm.MethodName) jdk_52_method_16_code (6 : Nat) (Option.some (Jvm.ClassFile.FieldType.array Jvm.ClassFile.FieldType.byte)), Jvm.Cond.code ({ cls := "java/lang/StringUTF16", name := "compress", desc := "([CI[BII)I" } : Jvm.MethodName) jdk_52_method_21_code (7 : Nat) (Option.some Jvm.ClassFile.FieldType.int), Jvm.Cond.code ({ cls := "java/lang/StringUTF16", name := "coderFromArrayLen", desc := "([BI)B" } : Jvm.MethodName) jdk_52_method_15_code (2 : Nat) (Option.some Jvm.ClassFile.FieldType.byte), Jvm.Cond.code ({ cls := "java/lang/String", name := "valueOf", desc := "(C)Ljava/lang/String;" } : Jvm.MethodName) jdk_42_method_139_code (1 : Nat) (Option.some (Jvm.ClassFile.FieldType.object "java/lang/String")), Jvm.Cond.code ({ cls := "java/lang/StringLatin1", name := "canEncode", desc := "(C)Z" } : Jvm.MethodName) jdk_43_method_3_code (1 : Nat) (Option.some Jvm.ClassFile.FieldType.boolean), Jvm.Cond.code ({ cls := "java/lang/StringLatin1", name := "toBytes", desc := "(C)[B" } : Jvm.MethodName) jdk_43_method_46_code (1 : Nat) (Option.some (Jvm.ClassFile.FieldType.array Jvm.ClassFile.FieldType.byte)), Jvm.Cond.code ({ cls := "java/lang/String", name := "<init>", desc := "([BB)V" } : Jvm.MethodName) jdk_42_method_151_code (3 : Nat) (Option.none : Option Jvm.ClassFile.FieldType), Jvm.Cond.code ({ cls := "com/example/entitlement/entitlement/Term", name := "local", desc := "(Ljava/lang/String;)Lcom/example/entitlement/entitlement/Term;" } : Jvm.MethodName) prog_41_method_3_code (1 : Nat) (Option.some (Jvm.ClassFile.FieldType.object "com/example/entitlement/entitlement/Term")), Jvm.Cond.code ({ cls := "com/example/entitlement/entitlement/Term", name := "<init>", desc := "(Lcom/example/entitlement/entitlement/Term$Kind;Ljava/lang/String;Ljava/lang/String;Ljava/lang/String;)V" } : Jvm.MethodName) prog_41_method_1_code (5 : Nat) (Option.none : Option Jvm.ClassFile.FieldType), Jvm.Cond.code ({ cls := "com/example/entitlement/entitlement/Term", name := "<init>", desc := "(Lcom/example/entitlement/entitlement/Term$Kind;Ljava/lang/String;Ljava/lang/String;Ljava/lang/String;Lcom/example/entitlement/entitlement/Comparison;)V" } : Jvm.MethodName) prog_41_method_2_code (6 : Nat) (Option.none : Option Jvm.ClassFile.FieldType), Jvm.Cond.code ({ cls := "com/example/entitlement/entitlement/Expression", name := "term", desc := "(Lcom/example/entitlement/entitlement/Term;)Lcom/example/entitlement/entitlement/Expression;" } : Jvm.MethodName) prog_6_method_2_code (1 : Nat) (Option.some (Jvm.ClassFile.FieldType.object "com/example/entitlement/entitlement/Expression")), Jvm.Cond.code ({ cls := "java/util/List", name := "of", desc := "()Ljava/util/List;" } : Jvm.MethodName) jdk_40_method_36_code (0 : Nat) (Option.some (Jvm.ClassFile.FieldType.object "java/util/List")), Jvm.Cond.code ({ cls := "com/example/entitlement/entitlement/Expression", name := "<init>", desc := "(Lcom/example/entitlement/entitlement/Expression$Kind;Lcom/example/entitlement/entitlement/Term;Ljava/util/List;)V" } : Jvm.MethodName) prog_6_method_1_code (4 : Nat) (Option.none : Option Jvm.ClassFile.FieldType), Jvm.Cond.code ({ cls := "java/util/List", name := "copyOf", desc := "(Ljava/util/Collection;)Ljava/util/List;" } : Jvm.MethodName) jdk_40_method_48_code (1 : Nat) (Option.some (Jvm.ClassFile.FieldType.object "java/util/List")), Jvm.Cond.code ({ cls := "java/util/ImmutableCollections", name := "listCopy", desc := "(Ljava/util/Collection;)Ljava/util/List;" } : Jvm.MethodName) jdk_56_method_3_code (2 : Nat) (Option.some (Jvm.ClassFile.FieldType.object "java/util/List")), Jvm.Cond.code ({ cls := "com/example/entitlement/entitlement/ObjectType", name := "<init>", desc := "(Ljava/lang/String;)V" } : Jvm.MethodName) prog_20_method_1_code (2 : Nat) (Option.none : Option Jvm.ClassFile.FieldType), Jvm.Cond.code ({ cls := "java/util/HashMap", name := "<init>", desc := "()V" } : Jvm.MethodName) jdk_69_method_7_code (1 : Nat) (Option.none : Option Jvm.ClassFile.FieldType), Jvm.Cond.code ({ cls := "java/util/AbstractMap", name := "<init>", desc := "()V" } : Jvm.MethodName) jdk_71_method_1_code (1 : Nat) (Option.none : Option Jvm.ClassFile.FieldType), Jvm.Cond.code ({ cls := "java/util/HashSet", name := "<init>", desc := "()V" } : Jvm.MethodName) jdk_93_method_1_code (1 : Nat) (Option.none : Option Jvm.ClassFile.FieldType), Jvm.Cond.code ({ cls := "java/util/AbstractSet", name := "<init>", desc := "()V" } : Jvm.MethodName) jdk_91_method_1_code (1 : Nat) (Option.none : Option Jvm.ClassFile.FieldType), Jvm.Cond.code ({ cls := "java/util/AbstractCollection", name := "<init>", desc := "()V" } : Jvm.MethodName) jdk_22_method_1_code (1 : Nat) (Option.none : Option Jvm.ClassFile.FieldType), Jvm.Cond.code ({ cls := "com/example/entitlement/entitlement/ObjectType", name := "hasActionPermission", desc := "()Z" } : Jvm.MethodName) prog_20_method_10_code (1 : Nat) (Option.some Jvm.ClassFile.FieldType.boolean), Jvm.Cond.code ({ cls := "com/example/entitlement/entitlement/ObjectType", name := "ruleFor", desc := "(Ljava/lang/String;)Lcom/example/entitlement/entitlement/Expression;" } : Jvm.MethodName) prog_20_method_9_code (3 : Nat) (Option.some (Jvm.ClassFile.FieldType.object "com/example/entitlement/entitlement/Expression")), Jvm.Cond.code ({ cls := "java/util/HashMap", name := "get", desc := "(Ljava/lang/Object;)Ljava/lang/Object;" } : Jvm.MethodName) jdk_69_method_12_code (3 : Nat) (Option.some (Jvm.ClassFile.FieldType.object "java/lang/Object")), Jvm.Cond.code ({ cls := "java/util/HashMap", name := "getNode", desc := "(Ljava/lang/Object;)Ljava/util/HashMap$Node;" } : Jvm.MethodName) jdk_69_method_13_code (8 : Nat) (Option.some (Jvm.ClassFile.FieldType.object "java/util/HashMap$Node")), Jvm.Cond.code ({ cls := "java/util/HashMap", name := "containsKey", desc := "(Ljava/lang/Object;)Z" } : Jvm.MethodName) jdk_69_method_14_code (2 : Nat) (Option.some Jvm.ClassFile.FieldType.boolean), Jvm.Cond.code ({ cls := "com/example/entitlement/entitlement/ObjectType", name := "addPermission", desc := "(Ljava/lang/String;Lcom/example/entitlement/entitlement/Expression;)V" } : Jvm.MethodName) prog_20_method_16_code (3 : Nat) (Option.none : Option Jvm.ClassFile.FieldType), Jvm.Cond.code ({ cls := "java/util/HashMap", name := "put", desc := "(Ljava/lang/Object;Ljava/lang/Object;)Ljava/lang/Object;" } : Jvm.MethodName) jdk_69_method_15_code (3 : Nat) (Option.some (Jvm.ClassFile.FieldType.object "java/lang/Object")), Jvm.Cond.code ({ cls := "java/util/HashMap", name := "hash", desc := "(Ljava/lang/Object;)I" } : Jvm.MethodName) jdk_69_method_1_code (2 : Nat) (Option.some Jvm.ClassFile.FieldType.int), Jvm.Cond.code ({ cls := "java/lang/String", name := "hashCode", desc := "()I" } : Jvm.MethodName) jdk_42_method_78_code (2 : Nat) (Option.some Jvm.ClassFile.FieldType.int), Jvm.Cond.code ({ cls := "java/lang/String", name := "isLatin1", desc := "()Z" } : Jvm.MethodName) jdk_42_method_154_code (1 : Nat) (Option.some Jvm.ClassFile.FieldType.boolean), Jvm.Cond.code ({ cls := "java/lang/StringLatin1", name := "hashCode", desc := "([B)I" } : Jvm.MethodName) jdk_43_method_21_code (1 : Nat) (Option.some Jvm.ClassFile.FieldType.int), Jvm.Cond.code ({ cls := "java/util/HashMap", name := "putVal", desc := "(ILjava/lang/Object;Ljava/lang/Object;ZZ)Ljava/lang/Object;" } : Jvm.MethodName) jdk_69_method_16_code (13 : Nat) (Option.some (Jvm.ClassFile.FieldType.object "java/lang/Object")), Jvm.Cond.code ({ cls := "java/util/HashMap", name := "resize", desc := "()[Ljava/util/HashMap$Node;" } : Jvm.MethodName) jdk_69_method_17_code (14 : Nat) (Option.some (Jvm.ClassFile.FieldType.array (Jvm.ClassFile.FieldType.object "java/util/HashMap$Node"))), Jvm.Cond.code ({ cls := "java/util/HashMap", name := "newNode", desc := "(ILjava/lang/Object;Ljava/lang/Object;Ljava/util/HashMap$Node;)Ljava/util/HashMap$Node;" } : Jvm.MethodName) jdk_69_method_46_code (5 : Nat) (Option.some (Jvm.ClassFile.FieldType.object "java/util/HashMap$Node")), Jvm.Cond.code ({ cls := "java/util/HashMap$Node", name := "<init>", desc := "(ILjava/lang/Object;Ljava/lang/Object;Ljava/util/HashMap$Node;)V" } : Jvm.MethodName) jdk_70_method_1_code (5 : Nat) (Option.none : Option Jvm.ClassFile.FieldType), Jvm.Cond.code ({ cls := "java/util/HashMap", name := "afterNodeInsertion", desc := "(Z)V" } : Jvm.MethodName) jdk_69_method_52_code (2 : Nat) (Option.none : Option Jvm.ClassFile.FieldType), Jvm.Cond.code ({ cls := "com/example/entitlement/entitlement/ObjectType", name := "setActionPermission", desc := "(Lcom/example/entitlement/entitlement/Expression;)V" } : Jvm.MethodName) prog_20_method_17_code (2 : Nat) (Option.none : Option Jvm.ClassFile.FieldType), Jvm.Cond.code ({ cls := "java/lang/String", name := "equals", desc := "(Ljava/lang/Object;)Z" } : Jvm.MethodName) jdk_42_method_66_code (3 : Nat) (Option.some Jvm.ClassFile.FieldType.boolean), Jvm.Cond.code ({ cls := "java/lang/StringLatin1", name := "equals", desc := "([B[B)Z" } : Jvm.MethodName) jdk_43_method_13_code (3 : Nat) (Option.some Jvm.ClassFile.FieldType.boolean)]
set_option maxRecDepth 65536 in
theorem codes_eq : words1.filter isCode = codes1 := rfl
theorem w_codes : ∀ c ∈ words1.filter isCode, c.before args0 about1 = true := by
  rw [codes_eq]
  intro c hc
  simp only [codes1, List.mem_cons, List.not_mem_nil, or_false] at hc
  rcases hc with rfl | rfl | rfl | rfl | rfl | rfl | rfl | rfl | rfl | rfl | rfl | rfl | rfl | rfl | rfl | rfl | rfl | rfl | rfl | rfl | rfl | rfl | rfl | rfl | rfl | rfl | rfl | rfl | rfl | rfl | rfl | rfl | rfl | rfl | rfl | rfl | rfl | rfl | rfl | rfl | rfl | rfl | rfl | rfl
  · exact w_c0
  · exact w_c1
  · exact w_c2
  · exact w_c3
  · exact w_c4
  · exact w_c5
  · exact w_c6
  · exact w_c7
  · exact w_c8
  · exact w_c9
  · exact w_c10
  · exact w_c11
  · exact w_c12
  · exact w_c13
  · exact w_c14
  · exact w_c15
  · exact w_c16
  · exact w_c17
  · exact w_c18
  · exact w_c19
  · exact w_c20
  · exact w_c21
  · exact w_c22
  · exact w_c23
  · exact w_c24
  · exact w_c25
  · exact w_c26
  · exact w_c27
  · exact w_c28
  · exact w_c29
  · exact w_c30
  · exact w_c31
  · exact w_c32
  · exact w_c33
  · exact w_c34
  · exact w_c35
  · exact w_c36
  · exact w_c37
  · exact w_c38
  · exact w_c39
  · exact w_c40
  · exact w_c41
  · exact w_c42
  · exact w_c43
set_option maxRecDepth 65536 in
theorem w_t1 : (words1.take 24).all (fun c => isCode c || c.before args0 about1) = true := by decide +kernel
set_option maxRecDepth 65536 in
theorem w_t2 : ((words1.drop 24).take 24).all (fun c => isCode c || c.before args0 about1) = true := by decide +kernel
set_option maxRecDepth 65536 in
theorem w_t3 : (((words1.drop 24).drop 24).take 24).all (fun c => isCode c || c.before args0 about1) = true := by decide +kernel
set_option maxRecDepth 65536 in
theorem w_t4 : ((((words1.drop 24).drop 24).drop 24).take 24).all (fun c => isCode c || c.before args0 about1) = true := by decide +kernel
set_option maxRecDepth 65536 in
theorem w_t5 : (((((words1.drop 24).drop 24).drop 24).drop 24).take 24).all (fun c => isCode c || c.before args0 about1) = true := by decide +kernel
set_option maxRecDepth 65536 in
theorem w_t6 : ((((((words1.drop 24).drop 24).drop 24).drop 24).drop 24).take 24).all (fun c => isCode c || c.before args0 about1) = true := by decide +kernel
set_option maxRecDepth 65536 in
theorem w_t7 : (((((((words1.drop 24).drop 24).drop 24).drop 24).drop 24).drop 24).take 24).all (fun c => isCode c || c.before args0 about1) = true := by decide +kernel
set_option maxRecDepth 65536 in
theorem w_t8 : ((((((((words1.drop 24).drop 24).drop 24).drop 24).drop 24).drop 24).drop 24).take 24).all (fun c => isCode c || c.before args0 about1) = true := by decide +kernel
set_option maxRecDepth 65536 in
theorem w_t9 : (((((((((words1.drop 24).drop 24).drop 24).drop 24).drop 24).drop 24).drop 24).drop 24).take 24).all (fun c => isCode c || c.before args0 about1) = true := by decide +kernel
set_option maxRecDepth 65536 in
theorem w_t10 : ((((((((((words1.drop 24).drop 24).drop 24).drop 24).drop 24).drop 24).drop 24).drop 24).drop 24).take 24).all (fun c => isCode c || c.before args0 about1) = true := by decide +kernel
set_option maxRecDepth 65536 in
theorem w_t11 : (((((((((((words1.drop 24).drop 24).drop 24).drop 24).drop 24).drop 24).drop 24).drop 24).drop 24).drop 24).take 24).all (fun c => isCode c || c.before args0 about1) = true := by decide +kernel
set_option maxRecDepth 65536 in
theorem w_t12 : ((((((((((((words1.drop 24).drop 24).drop 24).drop 24).drop 24).drop 24).drop 24).drop 24).drop 24).drop 24).drop 24).take 24).all (fun c => isCode c || c.before args0 about1) = true := by decide +kernel
set_option maxRecDepth 65536 in
theorem w_t13 : ((((((((((((words1.drop 24).drop 24).drop 24).drop 24).drop 24).drop 24).drop 24).drop 24).drop 24).drop 24).drop 24).drop 24).all (fun c => isCode c || c.before args0 about1) = true := by decide +kernel
theorem w_tables : (allAtoms (Jvm.Cond.code x code maxLocals ret :: tables_1)).before args0 about1 = true := by
  rw [allAtoms_all]
  show words1.all (fun c => c.before args0 about1) = true
  refine all_split ?_ w_codes
  rw [← List.take_append_drop 24 words1, List.all_append, w_t1, ← List.take_append_drop 24 (words1.drop 24), List.all_append, w_t2, ← List.take_append_drop 24 ((words1.drop 24).drop 24), List.all_append, w_t3, ← List.take_append_drop 24 (((words1.drop 24).drop 24).drop 24), List.all_append, w_t4, ← List.take_append_drop 24 ((((words1.drop 24).drop 24).drop 24).drop 24), List.all_append, w_t5, ← List.take_append_drop 24 (((((words1.drop 24).drop 24).drop 24).drop 24).drop 24), List.all_append, w_t6, ← List.take_append_drop 24 ((((((words1.drop 24).drop 24).drop 24).drop 24).drop 24).drop 24), List.all_append, w_t7, ← List.take_append_drop 24 (((((((words1.drop 24).drop 24).drop 24).drop 24).drop 24).drop 24).drop 24), List.all_append, w_t8, ← List.take_append_drop 24 ((((((((words1.drop 24).drop 24).drop 24).drop 24).drop 24).drop 24).drop 24).drop 24), List.all_append, w_t9, ← List.take_append_drop 24 (((((((((words1.drop 24).drop 24).drop 24).drop 24).drop 24).drop 24).drop 24).drop 24).drop 24), List.all_append, w_t10, ← List.take_append_drop 24 ((((((((((words1.drop 24).drop 24).drop 24).drop 24).drop 24).drop 24).drop 24).drop 24).drop 24).drop 24), List.all_append, w_t11, ← List.take_append_drop 24 (((((((((((words1.drop 24).drop 24).drop 24).drop 24).drop 24).drop 24).drop 24).drop 24).drop 24).drop 24).drop 24), List.all_append, w_t12, w_t13]
  rfl
set_option maxRecDepth 65536 in
theorem w_rest : rest_1_c.before args0 about1 = true := by decide +kernel
set_option maxRecDepth 65536 in
theorem w_case : (Jvm.Cond.and given_1 narrow_1).before args0 about1 = true := by decide +kernel
theorem w_applies : (headSpec (Jvm.Cond.code x code maxLocals ret :: tables_1) room_1).applies x e0.platform about1 = true :=
  (Spec.applies_iff w_frames).mpr ⟨w_running, w_runnable, w_alone, w_named, w_hears, w_ripe, w_room, w_tables⟩
theorem atStart : AtStart classFile x code maxLocals ret World_1 tables_1 room_1 Calls_1 rest_1 Pre_1 launch0 p0 e0 about1 theMethod args0 below0 :=
  ⟨lists_1, trivial, launch0.admits_env _ _ _, launch0.least_env, fairChoices_fair.cas, fairChoices_fair.clock, w_frames, w_args, w_heap, w_applies, trivial, w_rest, w_case⟩
end start1
theorem witness_1 : WitnessClaimed_1 := ⟨start1.p0, start1.e0, start1.about1, start1.theMethod, start1.args0, start1.below0, start1.atStart⟩
end Jvm.Pilot.@@N@@
