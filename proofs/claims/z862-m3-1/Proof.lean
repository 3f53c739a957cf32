import JvmDerived
import JvmDerived.Pilot.@@N@@Statement
import JvmDerived.Pilot.@@N@@Code
set_option linter.unusedVariables false
set_option linter.unusedSimpArgs false
@@BLOCK:NumsL.lean.txt@@
namespace Jvm.RoadKit
open Sem ClassFile Op Lib Jvm.Stand Jvm.Free Jvm.LawKit
section New
variable {p : Program} {l : Launch} {e : Env} {R : Room} {s : State} {m : MethodId} {args : Array Value} {below : List Frame} {meth : Method} {c : Code} {T T' : State} {locs : List Loc} {cells slots : Nat}
theorem retI (X : Stand p l e R s m args below meth c T locs cells slots) (hx : p.tables.exec = Jvm.exec) {pc : Nat} {Ls : Array Slot} {z : Int32} {rest : List Value} (hret : meth.sig.returnType = some .int) (hd : decode c.code pc = .ok (.ireturn, 1)) {fs : List Frame}
    (hl : ∀ (f : JFrame) (acts : List Action), f.method = m → f.locked = none → f.entered = [] → (doReturn e (T.setTop f) acts (some (.int z))).1 = T.setFrames fs) : Steps p.tables e below (T.setTop (mkF m pc Ls (.int z :: rest))) (T.setFrames fs) :=
  retOut X hx hret rfl (Or.inl ⟨rfl, Or.inl rfl, _, rfl⟩) hd hl
theorem retL (X : Stand p l e R s m args below meth c T locs cells slots) (hx : p.tables.exec = Jvm.exec) {pc : Nat} {Ls : Array Slot} {z : Int64} {rest : List Value} (hret : meth.sig.returnType = some .long) (hd : decode c.code pc = .ok (.lreturn, 1)) {fs : List Frame}
    (hl : ∀ (f : JFrame) (acts : List Action), f.method = m → f.locked = none → f.entered = [] → (doReturn e (T.setTop f) acts (some (.long z))).1 = T.setFrames fs) : Steps p.tables e below (T.setTop (mkF m pc Ls (.long z :: rest))) (T.setFrames fs) :=
  retOut X hx hret rfl (Or.inr (Or.inl ⟨rfl, rfl, _, rfl⟩)) hd hl
theorem retA (X : Stand p l e R s m args below meth c T locs cells slots) (hx : p.tables.exec = Jvm.exec) {pc : Nat} {Ls : Array Slot} {w : Value} {t : FieldType} {rest : List Value} (hret : meth.sig.returnType = some t) (ht : t.isReference = true) (hw : w.isRef = true) (hd : decode c.code pc = .ok (.areturn, 1)) {fs : List Frame}
    (hl : ∀ (f : JFrame) (acts : List Action), f.method = m → f.locked = none → f.entered = [] → (doReturn e (T.setTop f) acts (some w)).1 = T.setFrames fs) : Steps p.tables e below (T.setTop (mkF m pc Ls (w :: rest))) (T.setFrames fs) :=
  retOut X hx hret (by rcases ref_cases hw with rfl | ⟨a, rfl⟩ <;> cases t <;> first | rfl | cases ht) (Or.inr (Or.inr (Or.inr (Or.inr ⟨rfl, ht, hw⟩)))) hd hl
theorem mvMN {Z : State} {a0 args : Array Value} {own host : String} {y : MethodName} {index : Nat} (hZ : Z.Warmed39 s.vm) (w : (Cond.methodLinkNest own index y host).before a0 Z = true) : (Cond.methodLinkNest own index y host).before args s = true := (Cond.methodLinkNest_wide hZ w :)
/-! the walk by continuations -/
variable {W : State → Prop} {g g' : JFrame}
def Goes (p : Program) (e : Env) (below : List Frame) (W : State → Prop) (T : State) (g : JFrame) : Prop := ∃ t, Steps p.tables e below (T.setTop g) t ∧ W t
def EndW (s : State) (below : List Frame) (Q : Option Value → Heap → List Loc → Prop) (k n : Nat) (t : State) : Prop := t.status = .running ∧ ∃ o, Ended t below o ∧ ∃ v L, o = .returned v ∧ Q v t.heap L ∧ FrameEnd s o t L k n
theorem Goes.on (k : Goes p e below W T' g') (h : ∀ t, Steps p.tables e below (T'.setTop g') t → Steps p.tables e below (T.setTop g) t) : Goes p e below W T g := by
  obtain ⟨t, h1, h2⟩ := k; exact ⟨t, h t h1, h2⟩
theorem Goes.done {Q : Option Value → Heap → List Loc → Prop} {k n : Nat} (h : Goes p e below (EndW s below Q k n) T g) :
    ∃ s₂ o, Steps p.tables e below (T.setTop g) s₂ ∧ s₂.status = .running ∧ Ended s₂ below o ∧ ∃ v L, o = .returned v ∧ Q v s₂.heap L ∧ FrameEnd s o s₂ L k n := by
  obtain ⟨t, h1, h2, o, h3, h4⟩ := h; exact ⟨t, o, h1, h2, h3, h4⟩
theorem Goes.retn {Q : Option Value → Heap → List Loc → Prop} {k n : Nat} (X : Stand p l e R s m args below meth c T locs cells slots) {v : Option Value}
    (st : ∀ fs, (∀ (f : JFrame) (acts : List Action), f.method = m → f.locked = none → f.entered = [] → (doReturn e (T.setTop f) acts v).1 = T.setFrames fs) → Steps p.tables e below (T.setTop g) (T.setFrames fs))
    (hv : meth.sig.returnType = none → v = none) (hlocks : meth.locks = false) (hk : cells ≤ k) (hn : slots ≤ n) (hQ : Q v T.heap locs) : Goes p e below (EndW s below Q k n) T g := by
  obtain ⟨fs, hr, hrun, hended, hW, hsame⟩ := X.leave hv hlocks
  exact ⟨_, st fs hr, hrun, _, hended, _, _, rfl, hQ, ⟨_, rfl⟩, hW, hsame.mono hk hn⟩
theorem cmp_eq (x y : Int32) : if_icmp.holds .eq x y = decide (x = y) := by by_cases h : x = y <;> simp [h, (teq · |>.1), (feq · |>.1)]
theorem cmp_ne (x y : Int32) : if_icmp.holds .ne x y = !decide (x = y) := by by_cases h : x = y <;> simp [h, (teq · |>.2), (feq · |>.2)]
theorem cmp_lt (x y : Int32) : if_icmp.holds .lt x y = decide (x < y) := by simp [if_icmp.holds]
theorem cmp_ge (x y : Int32) : if_icmp.holds .ge x y = !decide (x < y) := by by_cases h : x < y <;> simp [h, (tlt · |>.2.1), (flt · |>.2.1)]
theorem cmp_gt (x y : Int32) : if_icmp.holds .gt x y = decide (y < x) := by by_cases h : y < x <;> simp [h, (tlt · |>.2.2.1), (flt · |>.2.2.1)]
theorem cmp_le (x y : Int32) : if_icmp.holds .le x y = !decide (y < x) := by by_cases h : y < x <;> simp [h, (tlt · |>.2.2.2), (flt · |>.2.2.2)]
theorem ifc_eq (x y : Int32) (h : y = 0 := by rfl) : ifCond.holds .eq x = decide (x = y) := by subst h; rw [if0, cmp_eq]
theorem ifc_ne (x y : Int32) (h : y = 0 := by rfl) : ifCond.holds .ne x = !decide (x = y) := by subst h; rw [if0, cmp_ne]
theorem ifc_lt (x y : Int32) (h : y = 0 := by rfl) : ifCond.holds .lt x = decide (x < y) := by subst h; rw [if0, cmp_lt]
theorem ifc_ge (x y : Int32) (h : y = 0 := by rfl) : ifCond.holds .ge x = !decide (x < y) := by subst h; rw [if0, cmp_ge]
theorem ifc_gt (x y : Int32) (h : y = 0 := by rfl) : ifCond.holds .gt x = decide (y < x) := by subst h; rw [if0, cmp_gt]
theorem ifc_le (x y : Int32) (h : y = 0 := by rfl) : ifCond.holds .le x = !decide (y < x) := by subst h; rw [if0, cmp_le]
theorem Goes.icmpP (X : Stand p l e R s m args below meth c T locs cells slots) (hx : p.tables.exec = Jvm.exec) (hg : g.method = m) {cd : ClassFile.Cond} {o : Int} {x y : Int32} {rest : List Value} {pc0 pc' : Nat} (hpc : g.pc = pc0) (hd : decode c.code g.pc = .ok (.if_icmp cd o, 3)) (hs : g.stack = .int y :: .int x :: rest) (ho : 0 ≤ (pc0 : Int) + o) (hp : ((pc0 : Int) + o).toNat = pc') {P : Prop} [Decidable P] (hP : if_icmp.holds cd x y = decide P)
    (yes : P → Goes p e below W T { g with pc := pc', stack := rest }) (no : ¬ P → Goes p e below W T { g with pc := g.pc + 3, stack := rest }) : Goes p e below W T g := by
  by_cases h : P
  · exact (yes h).on fun t k => XS.icmpYes X.here hx hg hpc hd hs (by rw [hP]; exact decide_eq_true h) ho hp k
  · exact (no h).on fun t k => XS.icmpNo X.here hx hg hd hs (by rw [hP]; exact decide_eq_false h) k
theorem Goes.icmpN (X : Stand p l e R s m args below meth c T locs cells slots) (hx : p.tables.exec = Jvm.exec) (hg : g.method = m) {cd : ClassFile.Cond} {o : Int} {x y : Int32} {rest : List Value} {pc0 pc' : Nat} (hpc : g.pc = pc0) (hd : decode c.code g.pc = .ok (.if_icmp cd o, 3)) (hs : g.stack = .int y :: .int x :: rest) (ho : 0 ≤ (pc0 : Int) + o) (hp : ((pc0 : Int) + o).toNat = pc') {P : Prop} [Decidable P] (hP : if_icmp.holds cd x y = !decide P)
    (yes : ¬ P → Goes p e below W T { g with pc := pc', stack := rest }) (no : P → Goes p e below W T { g with pc := g.pc + 3, stack := rest }) : Goes p e below W T g := by
  by_cases h : P
  · exact (no h).on fun t k => XS.icmpNo X.here hx hg hd hs (by rw [hP, decide_eq_true h]; rfl) k
  · exact (yes h).on fun t k => XS.icmpYes X.here hx hg hpc hd hs (by rw [hP, decide_eq_false h]; rfl) ho hp k
theorem Goes.ifP (X : Stand p l e R s m args below meth c T locs cells slots) (hx : p.tables.exec = Jvm.exec) (hg : g.method = m) {cd : ClassFile.Cond} {o : Int} {x : Int32} {rest : List Value} {pc0 pc' : Nat} (hpc : g.pc = pc0) (hd : decode c.code g.pc = .ok (.ifCond cd o, 3)) (hs : g.stack = .int x :: rest) (ho : 0 ≤ (pc0 : Int) + o) (hp : ((pc0 : Int) + o).toNat = pc') {P : Prop} [Decidable P] (hP : ifCond.holds cd x = decide P)
    (yes : P → Goes p e below W T { g with pc := pc', stack := rest }) (no : ¬ P → Goes p e below W T { g with pc := g.pc + 3, stack := rest }) : Goes p e below W T g := by
  by_cases h : P
  · exact (yes h).on fun t k => XS.ifYes X.here hx hg hpc hd hs (by rw [hP]; exact decide_eq_true h) ho hp k
  · exact (no h).on fun t k => XS.ifNo X.here hx hg hd hs (by rw [hP]; exact decide_eq_false h) k
theorem Goes.ifN (X : Stand p l e R s m args below meth c T locs cells slots) (hx : p.tables.exec = Jvm.exec) (hg : g.method = m) {cd : ClassFile.Cond} {o : Int} {x : Int32} {rest : List Value} {pc0 pc' : Nat} (hpc : g.pc = pc0) (hd : decode c.code g.pc = .ok (.ifCond cd o, 3)) (hs : g.stack = .int x :: rest) (ho : 0 ≤ (pc0 : Int) + o) (hp : ((pc0 : Int) + o).toNat = pc') {P : Prop} [Decidable P] (hP : ifCond.holds cd x = !decide P)
    (yes : ¬ P → Goes p e below W T { g with pc := pc', stack := rest }) (no : P → Goes p e below W T { g with pc := g.pc + 3, stack := rest }) : Goes p e below W T g := by
  by_cases h : P
  · exact (no h).on fun t k => XS.ifNo X.here hx hg hd hs (by rw [hP, decide_eq_true h]; rfl) k
  · exact (yes h).on fun t k => XS.ifYes X.here hx hg hpc hd hs (by rw [hP, decide_eq_false h]; rfl) ho hp k
theorem Goes.acmpR (X : Stand p l e R s m args below meth c T locs cells slots) (hx : p.tables.exec = Jvm.exec) (hg : g.method = m) {cd : ACond} {o : Int} {a b : Addr} {rest : List Value} {pc0 pcE pcN : Nat} (hpc : g.pc = pc0) (hd : decode c.code g.pc = .ok (.if_acmp cd o, 3)) (hs : g.stack = .ref b :: .ref a :: rest) (ho : 0 ≤ (pc0 : Int) + o)
    (hE : pcE = if acV cd true = true then ((pc0 : Int) + o).toNat else pc0 + 3) (hN : pcN = if acV cd false = true then ((pc0 : Int) + o).toNat else pc0 + 3)
    (eq : a = b → Goes p e below W T { g with pc := pcE, stack := rest }) (ne : ¬ a = b → Goes p e below W T { g with pc := pcN, stack := rest }) : Goes p e below W T g := by
  by_cases h : a = b
  · exact (eq h).on fun t k => Jvm.RoadKit.acmp X hx hg rfl rfl hpc hd hs (decide_eq_true (congrArg Value.ref h)) ho hE k
  · exact (ne h).on fun t k => Jvm.RoadKit.acmp X hx hg rfl rfl hpc hd hs (decide_eq_false fun q => h (Value.ref.inj q)) ho hN k
/-! the same where String constants may be loaded cold -/
def EndWW (s : State) (below : List Frame) (Q : Option Value → Heap → List Loc → Prop) (k n : Nat) (t : State) : Prop := t.status = .running ∧ ∃ o, Ended t below o ∧ ∃ v L, o = .returned v ∧ Q v t.heap L ∧ ReturnedEndW s o t L k n
theorem Goes.doneW {Q : Option Value → Heap → List Loc → Prop} {k n : Nat} (h : Goes p e below (EndWW s below Q k n) T g) :
    ∃ s₂ o, Steps p.tables e below (T.setTop g) s₂ ∧ s₂.status = .running ∧ Ended s₂ below o ∧ ∃ v L, o = .returned v ∧ Q v s₂.heap L ∧ ReturnedEndW s o s₂ L k n := by
  obtain ⟨t, h1, h2, o, h3, h4⟩ := h; exact ⟨t, o, h1, h2, h3, h4⟩
theorem Goes.retnW {Q : Option Value → Heap → List Loc → Prop} {k n n1 : Nat} {vm₁ : Vm} (X : Stand p l e R (s.setVm vm₁) m args below meth c T locs cells slots) (hS : s.Since vm₁ n1) (hle : n1 ≤ T.heap.size) {v : Option Value}
    (st : ∀ fs, (∀ (f : JFrame) (acts : List Action), f.method = m → f.locked = none → f.entered = [] → (doReturn e (T.setTop f) acts v).1 = T.setFrames fs) → Steps p.tables e below (T.setTop g) (T.setFrames fs))
    (hv : meth.sig.returnType = none → v = none) (hlocks : meth.locks = false) (hk : cells ≤ k) (hn : slots ≤ n) (hQ : Q v T.heap locs) : Goes p e below (EndWW s below Q k n) T g := by
  obtain ⟨fs, hr, hrun, hended, hW⟩ := X.leaveW hS hle hv hlocks
  exact ⟨_, st fs hr, hrun, _, hended, _, _, rfl, hQ, hW.1, hW.2.1, hW.2.2.1, hW.2.2.2.mono hk hn⟩
/-! the same in a callee whose start may have interned: the invariant of the constants held goes with it -/
def EndWH (Z : State) (EL : List (String × Nat)) (s : State) (below : List Frame) (Q : Option Value → Heap → List Loc → Prop) (k n : Nat) (t : State) : Prop := t.status = .running ∧ ∃ o, Ended t below o ∧ ∃ v L, o = .returned v ∧ Q v t.heap L ∧ CHr Z EL s.vm s.heap t.vm t.heap ∧ ReturnedEndW s o t L k n
theorem Goes.doneH {Z : State} {EL : List (String × Nat)} {Q : Option Value → Heap → List Loc → Prop} {k n : Nat} (h : Goes p e below (EndWH Z EL s below Q k n) T g) :
    ∃ s₂ o, Steps p.tables e below (T.setTop g) s₂ ∧ s₂.status = .running ∧ Ended s₂ below o ∧ ∃ v L, o = .returned v ∧ Q v s₂.heap L ∧ CHr Z EL s.vm s.heap s₂.vm s₂.heap ∧ ReturnedEndW s o s₂ L k n := by
  obtain ⟨t, h1, h2, o, h3, h4⟩ := h; exact ⟨t, o, h1, h2, h3, h4⟩
theorem Goes.retnH {Z : State} {a0 : Array Value} {EL : List (String × Nat)} {h0 h : Heap} {Q : Option Value → Heap → List Loc → Prop} {k n n1 : Nat} {vm₁ : Vm} (X : Stand p l e R (s.setVm vm₁) m args below meth c T locs cells slots) (hS : s.Since vm₁ n1) (eT : T.heap = h) (hle : n1 ≤ h.size) (hZ : Z.Warmed39 vm₁) (hEL : EW Z a0 EL) (hh : s.heap = h0) (C : CHr Z EL s.vm h0 vm₁ h) {v : Option Value}
    (st : ∀ fs, (∀ (f : JFrame) (acts : List Action), f.method = m → f.locked = none → f.entered = [] → (doReturn e (T.setTop f) acts v).1 = T.setFrames fs) → Steps p.tables e below (T.setTop g) (T.setFrames fs))
    (hv : meth.sig.returnType = none → v = none) (hlocks : meth.locks = false) (hk : cells ≤ k) (hn : slots ≤ n) (hQ : Q v T.heap locs) : Goes p e below (EndWH Z EL s below Q k n) T g := by
  subst eT
  obtain ⟨fs, hr, hrun, hended, hW⟩ := X.leaveW hS hle hv hlocks
  exact ⟨_, st fs hr, hrun, _, hended, _, _, rfl, hQ, by rw [hh]; have q := C.trans (CHv.at X hZ hEL C.1); exact q, hW.1, hW.2.1, hW.2.2.1, hW.2.2.2.mono hk hn⟩
/-- a contract that keeps the invariant, as a way back; xs: what must be no constant's -/
theorem backSH {Z : State} {a0 : Array Value} {EL : List (String × Nat)} {h : Heap} {vm0 : Vm} {y : MethodName} {bytes : ByteArray} {maxL : Nat} {ret : Option FieldType} {rm : Room} {len W : Nat} {as' : Array Value} {xs : List Addr} {Q : Option Value → Heap → List Loc → Prop}
    (hM : MetFree l y (head1 [Cond.code y bytes maxL ret] rm) (fun a U => a = as' ∧ Z.Warmed39 U.vm ∧ U.heap = h ∧ CHv Z EL U.vm h ∧ ∀ y ∈ xs, Safe Z EL U.vm h y) (fun _ _ _ _ _ => True) (fun _ U o U' => ∃ v L, o = .returned v ∧ Q v U'.heap L ∧ CHr Z EL U.vm U.heap U'.vm U'.heap ∧ ReturnedEndW U o U' L rm.cells rm.slots))
    (hZ : Z.Warmed39 vm0) (wc : (Cond.code y bytes maxL ret).before a0 Z = true) (wz : (Cond.initialized y.cls).before a0 Z = true) (hf : rm.frames + 1 ≤ R.frames) (hl : W + (maxL + 11) + rm.locals ≤ R.locals) (hEL : EW Z a0 EL) (H : CHv Z EL vm0 h) (hs : ∀ y ∈ xs, y < h.size ∧ Safe Z EL vm0 h y) :
    BackS l R p e below (s.setVm vm0) args y len W (fun A a => a = as' ∧ A.U.heap = h ∧ A.cells + rm.cells ≤ R.cells ∧ A.slots + rm.slots ≤ R.slots)
      (fun A _ v B => ∃ L, Q v B.U.heap L ∧ B.locs = A.locs ++ L ∧ B.cells = A.cells + rm.cells ∧ B.slots = A.slots + rm.slots ∧ CHr Z EL vm0 h B.U.vm B.U.heap) :=
  BackS.of_freeW (bytes := bytes) (maxL := maxL) (ret := ret) (E := fun _ first o t L k n => k = rm.cells ∧ n = rm.slots ∧ (∃ v, o = .returned v ∧ Q v t.heap L) ∧ CHr Z EL first.vm first.heap t.vm t.heap) hM hf hl
    (fun m meth c A a Y hp => have hU : Z.Warmed39 A.U.vm := wtrans (s := s.setVm vm0) hZ Y.warmed
      ⟨by show (Cond.and _ .tt).before a A.U = true; rw [Cond.before_and, mv hU wc]; rfl, mv hU wc, mv hU wz, hp.2.2.1, hp.2.2.2⟩)
    (fun m meth c A a g mk Y hp => ⟨hp.1, wtrans (s := s.setVm vm0) hZ Y.warmed, hp.2.1, (CHv.at Y hZ hEL H).1, fun y hy => (CHv.at Y hZ hEL H).safe (hs y hy).1 (hs y hy).2⟩) (fun _ _ _ _ _ _ _ _ _ => trivial)
    (fun _ _ _ _ ⟨v, L, h1, h2, h3, h4⟩ => ⟨L, _, _, h4, rfl, rfl, ⟨v, h1, h2⟩, h3⟩)
    (fun m meth c A a g mk v t L k n Y hp _ _ ⟨e1, e2, ⟨v', e3, e4⟩, e5⟩ => by
      cases e3; subst e1 e2
      refine ⟨L, e4, rfl, rfl, rfl, (CHv.at Y hZ hEL H).trans ?_⟩
      rw [← hp.2.1]; exact e5)
theorem own_sfC {P : Addr → Prop} {x : Addr} {xs : List Addr} (h : P x) (k : ∀ y ∈ xs, P y) : ∀ y ∈ x :: xs, P y := fun y hy => by
  rcases List.mem_cons.mp hy with rfl | hy
  · exact h
  · exact k y hy
end New
end Jvm.RoadKit
namespace Jvm.Pilot.@@N@@
open Jvm Jvm.ClassFile Sem Op Lib Jvm.Free Jvm.Stand Jvm.LawKit Jvm.RoadKit Bundle Jvm.Pilot.@@N@@.Jvm.D
theorem d1_0 : decode method_2_code 0 = .ok (.iload_n 0, 1) := by decide +kernel
theorem d1_1 : decode method_2_code 1 = .ok (.iconst 3, 1) := by decide +kernel
theorem d1_2 : decode method_2_code 2 = .ok (.iand, 1) := by decide +kernel
theorem d1_3 : decode method_2_code 3 = .ok (.istore_n 1, 1) := by decide +kernel
theorem d1_4 : decode method_2_code 4 = .ok (.iload_n 0, 1) := by decide +kernel
theorem d1_5 : decode method_2_code 5 = .ok (.iconst 2, 1) := by decide +kernel
theorem d1_6 : decode method_2_code 6 = .ok (.iushr, 1) := by decide +kernel
theorem d1_7 : decode method_2_code 7 = .ok (.istore_n 2, 1) := by decide +kernel
theorem d1_8 : decode method_2_code 8 = .ok (.iload_n 1, 1) := by decide +kernel
theorem d1_9 : decode method_2_code 9 = .ok (.ifCond .ne 12, 3) := by decide +kernel
theorem d1_12 : decode method_2_code 12 = .ok (.bipush 48, 2) := by decide +kernel
theorem d1_14 : decode method_2_code 14 = .ok (.iload_n 2, 1) := by decide +kernel
theorem d1_15 : decode method_2_code 15 = .ok (.bipush 10, 2) := by decide +kernel
theorem d1_17 : decode method_2_code 17 = .ok (.irem, 1) := by decide +kernel
theorem d1_18 : decode method_2_code 18 = .ok (.iadd, 1) := by decide +kernel
theorem d1_19 : decode method_2_code 19 = .ok (.i2c, 1) := by decide +kernel
theorem d1_20 : decode method_2_code 20 = .ok (.ireturn, 1) := by decide +kernel
theorem d1_21 : decode method_2_code 21 = .ok (.iload_n 1, 1) := by decide +kernel
theorem d1_22 : decode method_2_code 22 = .ok (.iconst 1, 1) := by decide +kernel
theorem d1_23 : decode method_2_code 23 = .ok (.if_icmp .ne 6, 3) := by decide +kernel
theorem d1_26 : decode method_2_code 26 = .ok (.bipush 46, 2) := by decide +kernel
theorem d1_28 : decode method_2_code 28 = .ok (.ireturn, 1) := by decide +kernel
theorem d1_29 : decode method_2_code 29 = .ok (.iload_n 1, 1) := by decide +kernel
theorem d1_30 : decode method_2_code 30 = .ok (.iconst 3, 1) := by decide +kernel
theorem d1_31 : decode method_2_code 31 = .ok (.if_icmp .ne 17, 3) := by decide +kernel
theorem d1_34 : decode method_2_code 34 = .ok (.iload_n 2, 1) := by decide +kernel
theorem d1_35 : decode method_2_code 35 = .ok (.iconst 1, 1) := by decide +kernel
theorem d1_36 : decode method_2_code 36 = .ok (.iand, 1) := by decide +kernel
theorem d1_37 : decode method_2_code 37 = .ok (.ifCond .ne 8, 3) := by decide +kernel
theorem d1_40 : decode method_2_code 40 = .ok (.bipush 47, 2) := by decide +kernel
theorem d1_42 : decode method_2_code 42 = .ok (.goto 5, 3) := by decide +kernel
theorem d1_45 : decode method_2_code 45 = .ok (.bipush 58, 2) := by decide +kernel
theorem d1_47 : decode method_2_code 47 = .ok (.ireturn, 1) := by decide +kernel
theorem d1_48 : decode method_2_code 48 = .ok (.iload_n 2, 1) := by decide +kernel
theorem d1_49 : decode method_2_code 49 = .ok (.ldc 7, 2) := by decide +kernel
theorem d1_51 : decode method_2_code 51 = .ok (.iand, 1) := by decide +kernel
theorem d1_52 : decode method_2_code 52 = .ok (.i2c, 1) := by decide +kernel
theorem d1_53 : decode method_2_code 53 = .ok (.ireturn, 1) := by decide +kernel
theorem d2_0 : decode jdk_42_method_3_code 0 = .ok (.aload_n 0, 1) := by decide +kernel
theorem d2_1 : decode jdk_42_method_3_code 1 = .ok (.aload_n 1, 1) := by decide +kernel
theorem d2_2 : decode jdk_42_method_3_code 2 = .ok (.iconst 0, 1) := by decide +kernel
theorem d2_3 : decode jdk_42_method_3_code 3 = .ok (.aload_n 1, 1) := by decide +kernel
theorem d2_4 : decode jdk_42_method_3_code 4 = .ok (.arraylength, 1) := by decide +kernel
theorem d2_5 : decode jdk_42_method_3_code 5 = .ok (.aconst_null, 1) := by decide +kernel
theorem d2_6 : decode jdk_42_method_3_code 6 = .ok (.invokespecial 27, 3) := by decide +kernel
theorem d2_9 : decode jdk_42_method_3_code 9 = .ok (.return_, 1) := by decide +kernel
theorem d3_0 : decode jdk_42_method_149_code 0 = .ok (.aload_n 0, 1) := by decide +kernel
theorem d3_1 : decode jdk_42_method_149_code 1 = .ok (.invokespecial 1, 3) := by decide +kernel
theorem d3_4 : decode jdk_42_method_149_code 4 = .ok (.iload_n 3, 1) := by decide +kernel
theorem d3_5 : decode jdk_42_method_149_code 5 = .ok (.ifCond .ne 22, 3) := by decide +kernel
theorem d3_27 : decode jdk_42_method_149_code 27 = .ok (.getstatic 38, 3) := by decide +kernel
theorem d3_30 : decode jdk_42_method_149_code 30 = .ok (.ifCond .eq 28, 3) := by decide +kernel
theorem d3_33 : decode jdk_42_method_149_code 33 = .ok (.aload_n 1, 1) := by decide +kernel
theorem d3_34 : decode jdk_42_method_149_code 34 = .ok (.iload_n 2, 1) := by decide +kernel
theorem d3_35 : decode jdk_42_method_149_code 35 = .ok (.iload_n 3, 1) := by decide +kernel
theorem d3_36 : decode jdk_42_method_149_code 36 = .ok (.invokestatic 177, 3) := by decide +kernel
theorem d3_39 : decode jdk_42_method_149_code 39 = .ok (.astore 5, 2) := by decide +kernel
theorem d3_41 : decode jdk_42_method_149_code 41 = .ok (.aload_n 0, 1) := by decide +kernel
theorem d3_42 : decode jdk_42_method_149_code 42 = .ok (.aload 5, 2) := by decide +kernel
theorem d3_44 : decode jdk_42_method_149_code 44 = .ok (.iload_n 3, 1) := by decide +kernel
theorem d3_45 : decode jdk_42_method_149_code 45 = .ok (.invokestatic 47, 3) := by decide +kernel
theorem d3_48 : decode jdk_42_method_149_code 48 = .ok (.putfield 15, 3) := by decide +kernel
theorem d3_51 : decode jdk_42_method_149_code 51 = .ok (.aload_n 0, 1) := by decide +kernel
theorem d3_52 : decode jdk_42_method_149_code 52 = .ok (.aload 5, 2) := by decide +kernel
theorem d3_54 : decode jdk_42_method_149_code 54 = .ok (.putfield 9, 3) := by decide +kernel
theorem d3_57 : decode jdk_42_method_149_code 57 = .ok (.return_, 1) := by decide +kernel
theorem d5_0 : decode jdk_52_method_16_code 0 = .ok (.iload_n 2, 1) := by decide +kernel
theorem d5_1 : decode jdk_52_method_16_code 1 = .ok (.newarray .byte, 2) := by decide +kernel
theorem d5_3 : decode jdk_52_method_16_code 3 = .ok (.astore_n 3, 1) := by decide +kernel
theorem d5_4 : decode jdk_52_method_16_code 4 = .ok (.aload_n 0, 1) := by decide +kernel
theorem d5_5 : decode jdk_52_method_16_code 5 = .ok (.iload_n 1, 1) := by decide +kernel
theorem d5_6 : decode jdk_52_method_16_code 6 = .ok (.aload_n 3, 1) := by decide +kernel
theorem d5_7 : decode jdk_52_method_16_code 7 = .ok (.iconst 0, 1) := by decide +kernel
theorem d5_8 : decode jdk_52_method_16_code 8 = .ok (.iload_n 2, 1) := by decide +kernel
theorem d5_9 : decode jdk_52_method_16_code 9 = .ok (.invokestatic 115, 3) := by decide +kernel
theorem d5_12 : decode jdk_52_method_16_code 12 = .ok (.istore 4, 2) := by decide +kernel
theorem d5_14 : decode jdk_52_method_16_code 14 = .ok (.iload 4, 2) := by decide +kernel
theorem d5_16 : decode jdk_52_method_16_code 16 = .ok (.iload_n 2, 1) := by decide +kernel
theorem d5_17 : decode jdk_52_method_16_code 17 = .ok (.if_icmp .eq 40, 3) := by decide +kernel
theorem d5_20 : decode jdk_52_method_16_code 20 = .ok (.aload_n 0, 1) := by decide +kernel
theorem d5_21 : decode jdk_52_method_16_code 21 = .ok (.iload_n 1, 1) := by decide +kernel
theorem d5_22 : decode jdk_52_method_16_code 22 = .ok (.iload_n 2, 1) := by decide +kernel
theorem d5_23 : decode jdk_52_method_16_code 23 = .ok (.invokestatic 119, 3) := by decide +kernel
theorem d5_26 : decode jdk_52_method_16_code 26 = .ok (.astore 5, 2) := by decide +kernel
theorem d5_28 : decode jdk_52_method_16_code 28 = .ok (.aload 5, 2) := by decide +kernel
theorem d5_30 : decode jdk_52_method_16_code 30 = .ok (.iload 4, 2) := by decide +kernel
theorem d5_32 : decode jdk_52_method_16_code 32 = .ok (.invokestatic 71, 3) := by decide +kernel
theorem d5_35 : decode jdk_52_method_16_code 35 = .ok (.sipush 255, 3) := by decide +kernel
theorem d5_38 : decode jdk_52_method_16_code 38 = .ok (.if_icmp .gt 16, 3) := by decide +kernel
theorem d5_54 : decode jdk_52_method_16_code 54 = .ok (.aload 5, 2) := by decide +kernel
theorem d5_56 : decode jdk_52_method_16_code 56 = .ok (.areturn, 1) := by decide +kernel
theorem d5_57 : decode jdk_52_method_16_code 57 = .ok (.aload_n 3, 1) := by decide +kernel
theorem d5_58 : decode jdk_52_method_16_code 58 = .ok (.areturn, 1) := by decide +kernel
theorem d6_0 : decode jdk_52_method_21_code 0 = .ok (.iconst 0, 1) := by decide +kernel
theorem d6_1 : decode jdk_52_method_21_code 1 = .ok (.istore 5, 2) := by decide +kernel
theorem d6_3 : decode jdk_52_method_21_code 3 = .ok (.iload 5, 2) := by decide +kernel
theorem d6_5 : decode jdk_52_method_21_code 5 = .ok (.iload 4, 2) := by decide +kernel
theorem d6_7 : decode jdk_52_method_21_code 7 = .ok (.if_icmp .ge 37, 3) := by decide +kernel
theorem d6_10 : decode jdk_52_method_21_code 10 = .ok (.aload_n 0, 1) := by decide +kernel
theorem d6_11 : decode jdk_52_method_21_code 11 = .ok (.iload_n 1, 1) := by decide +kernel
theorem d6_12 : decode jdk_52_method_21_code 12 = .ok (.caload, 1) := by decide +kernel
theorem d6_13 : decode jdk_52_method_21_code 13 = .ok (.istore 6, 2) := by decide +kernel
theorem d6_15 : decode jdk_52_method_21_code 15 = .ok (.iload 6, 2) := by decide +kernel
theorem d6_17 : decode jdk_52_method_21_code 17 = .ok (.sipush 255, 3) := by decide +kernel
theorem d6_20 : decode jdk_52_method_21_code 20 = .ok (.if_icmp .le 6, 3) := by decide +kernel
theorem d6_23 : decode jdk_52_method_21_code 23 = .ok (.iload 5, 2) := by decide +kernel
theorem d6_25 : decode jdk_52_method_21_code 25 = .ok (.ireturn, 1) := by decide +kernel
theorem d6_26 : decode jdk_52_method_21_code 26 = .ok (.aload_n 2, 1) := by decide +kernel
theorem d6_27 : decode jdk_52_method_21_code 27 = .ok (.iload_n 3, 1) := by decide +kernel
theorem d6_28 : decode jdk_52_method_21_code 28 = .ok (.iload 6, 2) := by decide +kernel
theorem d6_30 : decode jdk_52_method_21_code 30 = .ok (.i2b, 1) := by decide +kernel
theorem d6_31 : decode jdk_52_method_21_code 31 = .ok (.bastore, 1) := by decide +kernel
theorem d6_32 : decode jdk_52_method_21_code 32 = .ok (.iinc 1 1, 3) := by decide +kernel
theorem d6_35 : decode jdk_52_method_21_code 35 = .ok (.iinc 3 1, 3) := by decide +kernel
theorem d6_38 : decode jdk_52_method_21_code 38 = .ok (.iinc 5 1, 3) := by decide +kernel
theorem d6_41 : decode jdk_52_method_21_code 41 = .ok (.goto (-38), 3) := by decide +kernel
theorem d6_44 : decode jdk_52_method_21_code 44 = .ok (.iload 4, 2) := by decide +kernel
theorem d6_46 : decode jdk_52_method_21_code 46 = .ok (.ireturn, 1) := by decide +kernel
theorem d7_0 : decode jdk_52_method_15_code 0 = .ok (.iload_n 1, 1) := by decide +kernel
theorem d7_1 : decode jdk_52_method_15_code 1 = .ok (.aload_n 0, 1) := by decide +kernel
theorem d7_2 : decode jdk_52_method_15_code 2 = .ok (.arraylength, 1) := by decide +kernel
theorem d7_3 : decode jdk_52_method_15_code 3 = .ok (.isub, 1) := by decide +kernel
theorem d7_4 : decode jdk_52_method_15_code 4 = .ok (.bipush 31, 2) := by decide +kernel
theorem d7_6 : decode jdk_52_method_15_code 6 = .ok (.iushr, 1) := by decide +kernel
theorem d7_7 : decode jdk_52_method_15_code 7 = .ok (.i2b, 1) := by decide +kernel
theorem d7_8 : decode jdk_52_method_15_code 8 = .ok (.ireturn, 1) := by decide +kernel
theorem d8_0 : decode method_4_code 0 = .ok (.iload_n 1, 1) := by decide +kernel
theorem d8_1 : decode method_4_code 1 = .ok (.iload_n 2, 1) := by decide +kernel
theorem d8_2 : decode method_4_code 2 = .ok (.if_icmp .ge 16, 3) := by decide +kernel
theorem d8_5 : decode method_4_code 5 = .ok (.iload_n 0, 1) := by decide +kernel
theorem d8_6 : decode method_4_code 6 = .ok (.invokestatic 8, 3) := by decide +kernel
theorem d8_9 : decode method_4_code 9 = .ok (.ifCond .ne 9, 3) := by decide +kernel
theorem d8_12 : decode method_4_code 12 = .ok (.iload_n 0, 1) := by decide +kernel
theorem d8_13 : decode method_4_code 13 = .ok (.bipush 46, 2) := by decide +kernel
theorem d8_15 : decode method_4_code 15 = .ok (.if_icmp .ne 7, 3) := by decide +kernel
theorem d8_18 : decode method_4_code 18 = .ok (.iconst 1, 1) := by decide +kernel
theorem d8_19 : decode method_4_code 19 = .ok (.goto 4, 3) := by decide +kernel
theorem d8_22 : decode method_4_code 22 = .ok (.iconst 0, 1) := by decide +kernel
theorem d8_23 : decode method_4_code 23 = .ok (.ireturn, 1) := by decide +kernel
theorem d9_0 : decode method_3_code 0 = .ok (.iload_n 0, 1) := by decide +kernel
theorem d9_1 : decode method_3_code 1 = .ok (.bipush 48, 2) := by decide +kernel
theorem d9_3 : decode method_3_code 3 = .ok (.if_icmp .lt 13, 3) := by decide +kernel
theorem d9_6 : decode method_3_code 6 = .ok (.iload_n 0, 1) := by decide +kernel
theorem d9_7 : decode method_3_code 7 = .ok (.bipush 57, 2) := by decide +kernel
theorem d9_9 : decode method_3_code 9 = .ok (.if_icmp .gt 7, 3) := by decide +kernel
theorem d9_12 : decode method_3_code 12 = .ok (.iconst 1, 1) := by decide +kernel
theorem d9_13 : decode method_3_code 13 = .ok (.goto 4, 3) := by decide +kernel
theorem d9_16 : decode method_3_code 16 = .ok (.iconst 0, 1) := by decide +kernel
theorem d9_17 : decode method_3_code 17 = .ok (.ireturn, 1) := by decide +kernel
theorem d10_0 : decode method_5_code 0 = .ok (.iload_n 1, 1) := by decide +kernel
theorem d10_1 : decode method_5_code 1 = .ok (.iload_n 2, 1) := by decide +kernel
theorem d10_2 : decode method_5_code 2 = .ok (.if_icmp .ge 13, 3) := by decide +kernel
theorem d10_5 : decode method_5_code 5 = .ok (.iload_n 0, 1) := by decide +kernel
theorem d10_6 : decode method_5_code 6 = .ok (.bipush 46, 2) := by decide +kernel
theorem d10_8 : decode method_5_code 8 = .ok (.if_icmp .ne 7, 3) := by decide +kernel
theorem d10_11 : decode method_5_code 11 = .ok (.iconst 1, 1) := by decide +kernel
theorem d10_12 : decode method_5_code 12 = .ok (.goto 4, 3) := by decide +kernel
theorem d10_15 : decode method_5_code 15 = .ok (.iconst 0, 1) := by decide +kernel
theorem d10_16 : decode method_5_code 16 = .ok (.ireturn, 1) := by decide +kernel
theorem d11_0 : decode prog_25_method_5_code 0 = .ok (.aload_n 0, 1) := by decide +kernel
theorem d11_1 : decode prog_25_method_5_code 1 = .ok (.iconst 0, 1) := by decide +kernel
theorem d11_2 : decode prog_25_method_5_code 2 = .ok (.iload_n 1, 1) := by decide +kernel
theorem d11_3 : decode prog_25_method_5_code 3 = .ok (.invokestatic 73, 3) := by decide +kernel
theorem d11_6 : decode prog_25_method_5_code 6 = .ok (.istore_n 2, 1) := by decide +kernel
theorem d11_7 : decode prog_25_method_5_code 7 = .ok (.iload_n 2, 1) := by decide +kernel
theorem d11_8 : decode prog_25_method_5_code 8 = .ok (.ifCond .ne 5, 3) := by decide +kernel
theorem d11_11 : decode prog_25_method_5_code 11 = .ok (.iconst 0, 1) := by decide +kernel
theorem d11_12 : decode prog_25_method_5_code 12 = .ok (.ireturn, 1) := by decide +kernel
theorem d11_13 : decode prog_25_method_5_code 13 = .ok (.iload_n 2, 1) := by decide +kernel
theorem d11_14 : decode prog_25_method_5_code 14 = .ok (.iload_n 1, 1) := by decide +kernel
theorem d11_15 : decode prog_25_method_5_code 15 = .ok (.if_icmp .eq 32, 3) := by decide +kernel
theorem d11_18 : decode prog_25_method_5_code 18 = .ok (.aload_n 0, 1) := by decide +kernel
theorem d11_19 : decode prog_25_method_5_code 19 = .ok (.iload_n 2, 1) := by decide +kernel
theorem d11_20 : decode prog_25_method_5_code 20 = .ok (.invokevirtual 61, 3) := by decide +kernel
theorem d11_23 : decode prog_25_method_5_code 23 = .ok (.bipush 46, 2) := by decide +kernel
theorem d11_25 : decode prog_25_method_5_code 25 = .ok (.if_icmp .ne 26, 3) := by decide +kernel
theorem d11_28 : decode prog_25_method_5_code 28 = .ok (.iload_n 2, 1) := by decide +kernel
theorem d11_29 : decode prog_25_method_5_code 29 = .ok (.iconst 1, 1) := by decide +kernel
theorem d11_30 : decode prog_25_method_5_code 30 = .ok (.iadd, 1) := by decide +kernel
theorem d11_31 : decode prog_25_method_5_code 31 = .ok (.iload_n 1, 1) := by decide +kernel
theorem d11_32 : decode prog_25_method_5_code 32 = .ok (.if_icmp .ge 19, 3) := by decide +kernel
theorem d11_35 : decode prog_25_method_5_code 35 = .ok (.aload_n 0, 1) := by decide +kernel
theorem d11_36 : decode prog_25_method_5_code 36 = .ok (.iload_n 2, 1) := by decide +kernel
theorem d11_37 : decode prog_25_method_5_code 37 = .ok (.iconst 1, 1) := by decide +kernel
theorem d11_38 : decode prog_25_method_5_code 38 = .ok (.iadd, 1) := by decide +kernel
theorem d11_39 : decode prog_25_method_5_code 39 = .ok (.iload_n 1, 1) := by decide +kernel
theorem d11_40 : decode prog_25_method_5_code 40 = .ok (.invokestatic 73, 3) := by decide +kernel
theorem d11_43 : decode prog_25_method_5_code 43 = .ok (.iload_n 1, 1) := by decide +kernel
theorem d11_44 : decode prog_25_method_5_code 44 = .ok (.if_icmp .ne 7, 3) := by decide +kernel
theorem d11_47 : decode prog_25_method_5_code 47 = .ok (.iconst 1, 1) := by decide +kernel
theorem d11_48 : decode prog_25_method_5_code 48 = .ok (.goto 4, 3) := by decide +kernel
theorem d11_51 : decode prog_25_method_5_code 51 = .ok (.iconst 0, 1) := by decide +kernel
theorem d11_52 : decode prog_25_method_5_code 52 = .ok (.ireturn, 1) := by decide +kernel
theorem d12_0 : decode prog_25_method_6_code 0 = .ok (.iload_n 1, 1) := by decide +kernel
theorem d12_1 : decode prog_25_method_6_code 1 = .ok (.istore_n 3, 1) := by decide +kernel
theorem d12_2 : decode prog_25_method_6_code 2 = .ok (.iload_n 3, 1) := by decide +kernel
theorem d12_3 : decode prog_25_method_6_code 3 = .ok (.iload_n 2, 1) := by decide +kernel
theorem d12_4 : decode prog_25_method_6_code 4 = .ok (.if_icmp .ge 29, 3) := by decide +kernel
theorem d12_7 : decode prog_25_method_6_code 7 = .ok (.aload_n 0, 1) := by decide +kernel
theorem d12_8 : decode prog_25_method_6_code 8 = .ok (.iload_n 3, 1) := by decide +kernel
theorem d12_9 : decode prog_25_method_6_code 9 = .ok (.invokevirtual 61, 3) := by decide +kernel
theorem d12_12 : decode prog_25_method_6_code 12 = .ok (.bipush 48, 2) := by decide +kernel
theorem d12_14 : decode prog_25_method_6_code 14 = .ok (.if_icmp .lt 19, 3) := by decide +kernel
theorem d12_17 : decode prog_25_method_6_code 17 = .ok (.aload_n 0, 1) := by decide +kernel
theorem d12_18 : decode prog_25_method_6_code 18 = .ok (.iload_n 3, 1) := by decide +kernel
theorem d12_19 : decode prog_25_method_6_code 19 = .ok (.invokevirtual 61, 3) := by decide +kernel
theorem d12_22 : decode prog_25_method_6_code 22 = .ok (.bipush 57, 2) := by decide +kernel
theorem d12_24 : decode prog_25_method_6_code 24 = .ok (.if_icmp .gt 9, 3) := by decide +kernel
theorem d12_27 : decode prog_25_method_6_code 27 = .ok (.iinc 3 1, 3) := by decide +kernel
theorem d12_30 : decode prog_25_method_6_code 30 = .ok (.goto (-28), 3) := by decide +kernel
theorem d12_33 : decode prog_25_method_6_code 33 = .ok (.iload_n 3, 1) := by decide +kernel
theorem d12_34 : decode prog_25_method_6_code 34 = .ok (.ireturn, 1) := by decide +kernel
theorem d13_0 : decode jdk_42_method_56_code 0 = .ok (.aload_n 0, 1) := by decide +kernel
theorem d13_1 : decode jdk_42_method_56_code 1 = .ok (.invokevirtual 492, 3) := by decide +kernel
theorem d13_4 : decode jdk_42_method_56_code 4 = .ok (.ifCond .eq 12, 3) := by decide +kernel
theorem d13_7 : decode jdk_42_method_56_code 7 = .ok (.aload_n 0, 1) := by decide +kernel
theorem d13_8 : decode jdk_42_method_56_code 8 = .ok (.getfield 9, 3) := by decide +kernel
theorem d13_11 : decode jdk_42_method_56_code 11 = .ok (.iload_n 1, 1) := by decide +kernel
theorem d13_12 : decode jdk_42_method_56_code 12 = .ok (.invokestatic 495, 3) := by decide +kernel
theorem d13_15 : decode jdk_42_method_56_code 15 = .ok (.ireturn, 1) := by decide +kernel
theorem d13_16 : decode jdk_42_method_56_code 16 = .ok (.aload_n 0, 1) := by decide +kernel
theorem d13_17 : decode jdk_42_method_56_code 17 = .ok (.getfield 9, 3) := by decide +kernel
theorem d13_20 : decode jdk_42_method_56_code 20 = .ok (.iload_n 1, 1) := by decide +kernel
theorem d13_21 : decode jdk_42_method_56_code 21 = .ok (.invokestatic 498, 3) := by decide +kernel
theorem d13_24 : decode jdk_42_method_56_code 24 = .ok (.ireturn, 1) := by decide +kernel
theorem d14_0 : decode jdk_42_method_154_code 0 = .ok (.getstatic 38, 3) := by decide +kernel
theorem d14_3 : decode jdk_42_method_154_code 3 = .ok (.ifCond .eq 14, 3) := by decide +kernel
theorem d14_6 : decode jdk_42_method_154_code 6 = .ok (.aload_n 0, 1) := by decide +kernel
theorem d14_7 : decode jdk_42_method_154_code 7 = .ok (.getfield 15, 3) := by decide +kernel
theorem d14_10 : decode jdk_42_method_154_code 10 = .ok (.ifCond .ne 7, 3) := by decide +kernel
theorem d14_13 : decode jdk_42_method_154_code 13 = .ok (.iconst 1, 1) := by decide +kernel
theorem d14_14 : decode jdk_42_method_154_code 14 = .ok (.goto 4, 3) := by decide +kernel
theorem d14_17 : decode jdk_42_method_154_code 17 = .ok (.iconst 0, 1) := by decide +kernel
theorem d14_18 : decode jdk_42_method_154_code 18 = .ok (.ireturn, 1) := by decide +kernel
theorem d15_0 : decode jdk_43_method_2_code 0 = .ok (.iload_n 1, 1) := by decide +kernel
theorem d15_1 : decode jdk_43_method_2_code 1 = .ok (.aload_n 0, 1) := by decide +kernel
theorem d15_2 : decode jdk_43_method_2_code 2 = .ok (.arraylength, 1) := by decide +kernel
theorem d15_3 : decode jdk_43_method_2_code 3 = .ok (.invokestatic 9, 3) := by decide +kernel
theorem d15_6 : decode jdk_43_method_2_code 6 = .ok (.aload_n 0, 1) := by decide +kernel
theorem d15_7 : decode jdk_43_method_2_code 7 = .ok (.iload_n 1, 1) := by decide +kernel
theorem d15_8 : decode jdk_43_method_2_code 8 = .ok (.baload, 1) := by decide +kernel
theorem d15_9 : decode jdk_43_method_2_code 9 = .ok (.sipush 255, 3) := by decide +kernel
theorem d15_12 : decode jdk_43_method_2_code 12 = .ok (.iand, 1) := by decide +kernel
theorem d15_13 : decode jdk_43_method_2_code 13 = .ok (.i2c, 1) := by decide +kernel
theorem d15_14 : decode jdk_43_method_2_code 14 = .ok (.ireturn, 1) := by decide +kernel
theorem d16_0 : decode jdk_42_method_155_code 0 = .ok (.iload_n 0, 1) := by decide +kernel
theorem d16_1 : decode jdk_42_method_155_code 1 = .ok (.iload_n 1, 1) := by decide +kernel
theorem d16_2 : decode jdk_42_method_155_code 2 = .ok (.getstatic 1053, 3) := by decide +kernel
theorem d16_5 : decode jdk_42_method_155_code 5 = .ok (.invokestatic 1059, 3) := by decide +kernel
theorem d16_8 : decode jdk_42_method_155_code 8 = .ok (.pop, 1) := by decide +kernel
theorem d16_9 : decode jdk_42_method_155_code 9 = .ok (.return_, 1) := by decide +kernel
theorem d17_0 : decode jdk_41_method_11_code 0 = .ok (.iload_n 0, 1) := by decide +kernel
theorem d17_1 : decode jdk_41_method_11_code 1 = .ok (.ifCond .lt 8, 3) := by decide +kernel
theorem d17_4 : decode jdk_41_method_11_code 4 = .ok (.iload_n 0, 1) := by decide +kernel
theorem d17_5 : decode jdk_41_method_11_code 5 = .ok (.iload_n 1, 1) := by decide +kernel
theorem d17_6 : decode jdk_41_method_11_code 6 = .ok (.if_icmp .lt 10, 3) := by decide +kernel
theorem d17_16 : decode jdk_41_method_11_code 16 = .ok (.iload_n 0, 1) := by decide +kernel
theorem d17_17 : decode jdk_41_method_11_code 17 = .ok (.ireturn, 1) := by decide +kernel
theorem d18_0 : decode jdk_52_method_14_code 0 = .ok (.iload_n 2, 1) := by decide +kernel
theorem d18_1 : decode jdk_52_method_14_code 1 = .ok (.invokestatic 107, 3) := by decide +kernel
theorem d18_4 : decode jdk_52_method_14_code 4 = .ok (.astore_n 3, 1) := by decide +kernel
theorem d18_5 : decode jdk_52_method_14_code 5 = .ok (.iconst 0, 1) := by decide +kernel
theorem d18_6 : decode jdk_52_method_14_code 6 = .ok (.istore 4, 2) := by decide +kernel
theorem d18_8 : decode jdk_52_method_14_code 8 = .ok (.iload 4, 2) := by decide +kernel
theorem d18_10 : decode jdk_52_method_14_code 10 = .ok (.iload_n 2, 1) := by decide +kernel
theorem d18_11 : decode jdk_52_method_14_code 11 = .ok (.if_icmp .ge 21, 3) := by decide +kernel
theorem d18_14 : decode jdk_52_method_14_code 14 = .ok (.aload_n 3, 1) := by decide +kernel
theorem d18_15 : decode jdk_52_method_14_code 15 = .ok (.iload 4, 2) := by decide +kernel
theorem d18_17 : decode jdk_52_method_14_code 17 = .ok (.aload_n 0, 1) := by decide +kernel
theorem d18_18 : decode jdk_52_method_14_code 18 = .ok (.iload_n 1, 1) := by decide +kernel
theorem d18_19 : decode jdk_52_method_14_code 19 = .ok (.caload, 1) := by decide +kernel
theorem d18_20 : decode jdk_52_method_14_code 20 = .ok (.invokestatic 111, 3) := by decide +kernel
theorem d18_23 : decode jdk_52_method_14_code 23 = .ok (.iinc 1 1, 3) := by decide +kernel
theorem d18_26 : decode jdk_52_method_14_code 26 = .ok (.iinc 4 1, 3) := by decide +kernel
theorem d18_29 : decode jdk_52_method_14_code 29 = .ok (.goto (-21), 3) := by decide +kernel
theorem d18_32 : decode jdk_52_method_14_code 32 = .ok (.aload_n 3, 1) := by decide +kernel
theorem d18_33 : decode jdk_52_method_14_code 33 = .ok (.areturn, 1) := by decide +kernel
theorem d19_0 : decode jdk_52_method_2_code 0 = .ok (.iload_n 0, 1) := by decide +kernel
theorem d19_1 : decode jdk_52_method_2_code 1 = .ok (.invokestatic 11, 3) := by decide +kernel
theorem d19_4 : decode jdk_52_method_2_code 4 = .ok (.newarray .byte, 2) := by decide +kernel
theorem d19_6 : decode jdk_52_method_2_code 6 = .ok (.areturn, 1) := by decide +kernel
theorem d20_0 : decode jdk_52_method_3_code 0 = .ok (.iload_n 0, 1) := by decide +kernel
theorem d20_1 : decode jdk_52_method_3_code 1 = .ok (.ifCond .ge 11, 3) := by decide +kernel
theorem d20_12 : decode jdk_52_method_3_code 12 = .ok (.iload_n 0, 1) := by decide +kernel
theorem d20_13 : decode jdk_52_method_3_code 13 = .ok (.ldc 20, 2) := by decide +kernel
theorem d20_15 : decode jdk_52_method_3_code 15 = .ok (.if_icmp .lt 40, 3) := by decide +kernel
theorem d20_55 : decode jdk_52_method_3_code 55 = .ok (.iload_n 0, 1) := by decide +kernel
theorem d20_56 : decode jdk_52_method_3_code 56 = .ok (.iconst 1, 1) := by decide +kernel
theorem d20_57 : decode jdk_52_method_3_code 57 = .ok (.ishl, 1) := by decide +kernel
theorem d20_58 : decode jdk_52_method_3_code 58 = .ok (.ireturn, 1) := by decide +kernel
theorem d21_0 : decode jdk_52_method_4_code 0 = .ok (.getstatic 44, 3) := by decide +kernel
theorem d21_3 : decode jdk_52_method_4_code 3 = .ok (.ifCond .ne 25, 3) := by decide +kernel
theorem d21_28 : decode jdk_52_method_4_code 28 = .ok (.iload_n 1, 1) := by decide +kernel
theorem d21_29 : decode jdk_52_method_4_code 29 = .ok (.iconst 1, 1) := by decide +kernel
theorem d21_30 : decode jdk_52_method_4_code 30 = .ok (.ishl, 1) := by decide +kernel
theorem d21_31 : decode jdk_52_method_4_code 31 = .ok (.istore_n 1, 1) := by decide +kernel
theorem d21_32 : decode jdk_52_method_4_code 32 = .ok (.aload_n 0, 1) := by decide +kernel
theorem d21_33 : decode jdk_52_method_4_code 33 = .ok (.iload_n 1, 1) := by decide +kernel
theorem d21_34 : decode jdk_52_method_4_code 34 = .ok (.iinc 1 1, 3) := by decide +kernel
theorem d21_37 : decode jdk_52_method_4_code 37 = .ok (.iload_n 2, 1) := by decide +kernel
theorem d21_38 : decode jdk_52_method_4_code 38 = .ok (.getstatic 59, 3) := by decide +kernel
theorem d21_41 : decode jdk_52_method_4_code 41 = .ok (.ishr, 1) := by decide +kernel
theorem d21_42 : decode jdk_52_method_4_code 42 = .ok (.i2b, 1) := by decide +kernel
theorem d21_43 : decode jdk_52_method_4_code 43 = .ok (.bastore, 1) := by decide +kernel
theorem d21_44 : decode jdk_52_method_4_code 44 = .ok (.aload_n 0, 1) := by decide +kernel
theorem d21_45 : decode jdk_52_method_4_code 45 = .ok (.iload_n 1, 1) := by decide +kernel
theorem d21_46 : decode jdk_52_method_4_code 46 = .ok (.iload_n 2, 1) := by decide +kernel
theorem d21_47 : decode jdk_52_method_4_code 47 = .ok (.getstatic 63, 3) := by decide +kernel
theorem d21_50 : decode jdk_52_method_4_code 50 = .ok (.ishr, 1) := by decide +kernel
theorem d21_51 : decode jdk_52_method_4_code 51 = .ok (.i2b, 1) := by decide +kernel
theorem d21_52 : decode jdk_52_method_4_code 52 = .ok (.bastore, 1) := by decide +kernel
theorem d21_53 : decode jdk_52_method_4_code 53 = .ok (.return_, 1) := by decide +kernel
theorem d22_0 : decode jdk_52_method_5_code 0 = .ok (.getstatic 44, 3) := by decide +kernel
theorem d22_3 : decode jdk_52_method_5_code 3 = .ok (.ifCond .ne 25, 3) := by decide +kernel
theorem d22_28 : decode jdk_52_method_5_code 28 = .ok (.iload_n 1, 1) := by decide +kernel
theorem d22_29 : decode jdk_52_method_5_code 29 = .ok (.iconst 1, 1) := by decide +kernel
theorem d22_30 : decode jdk_52_method_5_code 30 = .ok (.ishl, 1) := by decide +kernel
theorem d22_31 : decode jdk_52_method_5_code 31 = .ok (.istore_n 1, 1) := by decide +kernel
theorem d22_32 : decode jdk_52_method_5_code 32 = .ok (.aload_n 0, 1) := by decide +kernel
theorem d22_33 : decode jdk_52_method_5_code 33 = .ok (.iload_n 1, 1) := by decide +kernel
theorem d22_34 : decode jdk_52_method_5_code 34 = .ok (.iinc 1 1, 3) := by decide +kernel
theorem d22_37 : decode jdk_52_method_5_code 37 = .ok (.baload, 1) := by decide +kernel
theorem d22_38 : decode jdk_52_method_5_code 38 = .ok (.sipush 255, 3) := by decide +kernel
theorem d22_41 : decode jdk_52_method_5_code 41 = .ok (.iand, 1) := by decide +kernel
theorem d22_42 : decode jdk_52_method_5_code 42 = .ok (.getstatic 59, 3) := by decide +kernel
theorem d22_45 : decode jdk_52_method_5_code 45 = .ok (.ishl, 1) := by decide +kernel
theorem d22_46 : decode jdk_52_method_5_code 46 = .ok (.aload_n 0, 1) := by decide +kernel
theorem d22_47 : decode jdk_52_method_5_code 47 = .ok (.iload_n 1, 1) := by decide +kernel
theorem d22_48 : decode jdk_52_method_5_code 48 = .ok (.baload, 1) := by decide +kernel
theorem d22_49 : decode jdk_52_method_5_code 49 = .ok (.sipush 255, 3) := by decide +kernel
theorem d22_52 : decode jdk_52_method_5_code 52 = .ok (.iand, 1) := by decide +kernel
theorem d22_53 : decode jdk_52_method_5_code 53 = .ok (.getstatic 63, 3) := by decide +kernel
theorem d22_56 : decode jdk_52_method_5_code 56 = .ok (.ishl, 1) := by decide +kernel
theorem d22_57 : decode jdk_52_method_5_code 57 = .ok (.ior, 1) := by decide +kernel
theorem d22_58 : decode jdk_52_method_5_code 58 = .ok (.i2c, 1) := by decide +kernel
theorem d22_59 : decode jdk_52_method_5_code 59 = .ok (.ireturn, 1) := by decide +kernel
theorem d23_0 : decode jdk_52_method_83_code 0 = .ok (.iload_n 1, 1) := by decide +kernel
theorem d23_1 : decode jdk_52_method_83_code 1 = .ok (.aload_n 0, 1) := by decide +kernel
theorem d23_2 : decode jdk_52_method_83_code 2 = .ok (.invokestatic 67, 3) := by decide +kernel
theorem d23_5 : decode jdk_52_method_83_code 5 = .ok (.aload_n 0, 1) := by decide +kernel
theorem d23_6 : decode jdk_52_method_83_code 6 = .ok (.iload_n 1, 1) := by decide +kernel
theorem d23_7 : decode jdk_52_method_83_code 7 = .ok (.invokestatic 71, 3) := by decide +kernel
theorem d23_10 : decode jdk_52_method_83_code 10 = .ok (.ireturn, 1) := by decide +kernel
theorem d24_0 : decode jdk_52_method_91_code 0 = .ok (.iload_n 0, 1) := by decide +kernel
theorem d24_1 : decode jdk_52_method_91_code 1 = .ok (.aload_n 1, 1) := by decide +kernel
theorem d24_2 : decode jdk_52_method_91_code 2 = .ok (.invokestatic 48, 3) := by decide +kernel
theorem d24_5 : decode jdk_52_method_91_code 5 = .ok (.invokestatic 414, 3) := by decide +kernel
theorem d24_8 : decode jdk_52_method_91_code 8 = .ok (.return_, 1) := by decide +kernel
theorem d25_0 : decode jdk_52_method_6_code 0 = .ok (.aload_n 0, 1) := by decide +kernel
theorem d25_1 : decode jdk_52_method_6_code 1 = .ok (.arraylength, 1) := by decide +kernel
theorem d25_2 : decode jdk_52_method_6_code 2 = .ok (.iconst 1, 1) := by decide +kernel
theorem d25_3 : decode jdk_52_method_6_code 3 = .ok (.ishr, 1) := by decide +kernel
theorem d25_4 : decode jdk_52_method_6_code 4 = .ok (.ireturn, 1) := by decide +kernel
theorem pn_0 : plainName "java/lang/StringUTF16" = true := by first | (simp [plainName, overriddenIn]; done) | decide +kernel
theorem pd_0 : parseMethodDescriptor "(I)I" = some ⟨[.int], some .int⟩ := by decide +kernel
theorem pd_1 : parseMethodDescriptor "(I)[B" = some ⟨[.int], some (.array .byte)⟩ := by decide +kernel
theorem pd_2 : parseMethodDescriptor "([BII)V" = some ⟨[(.array .byte), .int, .int], none⟩ := by decide +kernel
theorem pd_3 : parseMethodDescriptor "([CI[BII)I" = some ⟨[(.array .char), .int, (.array .byte), .int, .int], some .int⟩ := by decide +kernel
theorem pd_4 : parseMethodDescriptor "([CII)[B" = some ⟨[(.array .char), .int, .int], some (.array .byte)⟩ := by decide +kernel
theorem pd_5 : parseMethodDescriptor "([BI)C" = some ⟨[(.array .byte), .int], some .char⟩ := by decide +kernel
theorem pn_1 : plainName "java/lang/String" = true := by first | (simp [plainName, overriddenIn]; done) | decide +kernel
theorem pd_6 : parseMethodDescriptor "([BI)B" = some ⟨[(.array .byte), .int], some .byte⟩ := by decide +kernel
theorem pd_7 : parseMethodDescriptor "([CIILjava/lang/Void;)V" = some ⟨[(.array .char), .int, .int, (.object "java/lang/Void")], none⟩ := by decide +kernel
theorem pn_2 : plainName "jdk/internal/util/Preconditions" = true := by first | (simp [plainName, overriddenIn]; done) | decide +kernel
theorem pd_8 : parseMethodDescriptor "(IILjava/util/function/BiFunction;)I" = some ⟨[.int, .int, (.object "java/util/function/BiFunction")], some .int⟩ := by decide +kernel
theorem pn_3 : plainName "java/lang/StringLatin1" = true := by first | (simp [plainName, overriddenIn]; done) | decide +kernel
theorem pd_9 : parseMethodDescriptor "(II)V" = some ⟨[.int, .int], none⟩ := by decide +kernel
theorem pd_10 : parseMethodDescriptor "([B)I" = some ⟨[(.array .byte)], some .int⟩ := by decide +kernel
theorem pd_11 : parseMethodDescriptor "(I[B)V" = some ⟨[.int, (.array .byte)], none⟩ := by decide +kernel
theorem pd_12 : parseMethodDescriptor "()Z" = some ⟨[], some .boolean⟩ := by decide +kernel
theorem pn_4 : plainName "com/example/syndic/syndic/input/AmountsIsWrittenPinLaw" = true := by first | (simp [plainName, overriddenIn]; done) | decide +kernel
theorem pd_13 : parseMethodDescriptor "(C)Z" = some ⟨[.char], some .boolean⟩ := by decide +kernel
theorem pn_5 : plainName "com/example/syndic/syndic/input/Amounts" = true := by first | (simp [plainName, overriddenIn]; done) | decide +kernel
theorem pd_14 : parseMethodDescriptor "(I)C" = some ⟨[.int], some .char⟩ := by decide +kernel
theorem pd_15 : parseMethodDescriptor "(Ljava/lang/String;II)I" = some ⟨[(.object "java/lang/String"), .int, .int], some .int⟩ := by decide +kernel
theorem pd_16 : parseMethodDescriptor "([C)V" = some ⟨[(.array .char)], none⟩ := by decide +kernel
theorem pd_17 : parseMethodDescriptor "(Ljava/lang/String;I)Z" = some ⟨[(.object "java/lang/String"), .int], some .boolean⟩ := by decide +kernel
theorem pd_18 : parseMethodDescriptor "(CII)I" = some ⟨[.char, .int, .int], some .int⟩ := by decide +kernel
theorem pd_19 : parseMethodDescriptor "(CII)Z" = some ⟨[.char, .int, .int], some .boolean⟩ := by decide +kernel
theorem own_nat {n : Nat} (h : n < 2147483648) : (Int32.ofNat n).toInt = n := Int32.toInt_ofNat_small h
theorem own_clamp {n : Nat} (h : n < 2147483648) : (Int32.ofNat n).toNatClampNeg = n := by simp only [Int32.toNatClampNeg, own_nat h]; rfl
theorem own_nlt {i n : Nat} (hi : i < 2147483648) (hn : n < 2147483648) : Int32.ofNat i < Int32.ofNat n ↔ i < n := by rw [Int32.lt_iff_toInt_lt, own_nat hi, own_nat hn]; omega
theorem own_ninj {i n : Nat} (hi : i < 2147483648) (hn : n < 2147483648) : Int32.ofNat i = Int32.ofNat n ↔ i = n := by rw [← Int32.toInt_inj, own_nat hi, own_nat hn]; omega
theorem own_succ {i : Nat} : Int32.ofNat i + (1 : Int32) = Int32.ofNat (i + 1) := by rw [Int32.ofNat_add]; rfl
theorem own_nn {n : Nat} (h : n < 2147483648) : ¬ Int32.ofNat n < 0 := by rw [Int32.lt_iff_toInt_lt, own_nat h]; show ¬ (n : Int) < 0; omega
def own_lo (c : Int32) : Int32 := c.toInt8.toInt32
def own_hi (c : Int32) : Int32 := own_lo (c >>> ((8 : Int32) &&& 31))
def own_pair (u v : Int32) : Int32 := (((u &&& 255) <<< ((0 : Int32) &&& 31)) ||| ((v &&& 255) <<< ((8 : Int32) &&& 31))).toUInt32.toUInt16.toUInt32.toInt32
theorem own_255 : ∀ i : Nat, i < 32 → (255 : Int32).toBitVec.getLsbD i = decide (i < 8) := by decide
theorem own_and_lo (x : Int32) : own_lo x &&& 255 = x &&& 255 := by
  apply Int32.toBitVec_inj.mp
  simp only [own_lo, Int32.toBitVec_and, Int8.toBitVec_toInt32, Int32.toBitVec_toInt8]
  apply BitVec.eq_of_getLsbD_eq
  intro i hi
  simp only [BitVec.getLsbD_and, own_255 i hi]
  by_cases h : i < 8
  · simp only [h, decide_true, Bool.and_true, BitVec.getLsbD_signExtend, BitVec.getLsbD_setWidth, if_true, hi, Bool.true_and]
  · simp [h]
theorem own_pair_eq {c : Int32} (h0 : ¬ c < 0) (h1 : ¬ 65535 < c) : own_pair (own_lo (c >>> ((0 : Int32) &&& 31))) (own_hi c) = c := by
  have hb : c.toBitVec.toNat < 2 ^ 16 := by
    rw [Int32.lt_iff_toInt_lt] at h0 h1
    have z0 : (0 : Int32).toInt = 0 := rfl
    have z1 : (65535 : Int32).toInt = 65535 := rfl
    have q : c.toInt = c.toBitVec.toInt := rfl
    rw [z0, q, BitVec.toInt_eq_toNat_cond] at h0
    rw [z1, q, BitVec.toInt_eq_toNat_cond] at h1
    split at h0 <;> split at h1 <;> omega
  have e0 : c >>> ((0 : Int32) &&& 31) = c := by
    apply Int32.toBitVec_inj.mp
    simp
  unfold own_pair own_hi
  rw [own_and_lo, own_and_lo, e0]
  apply Int32.toBitVec_inj.mp
  apply BitVec.eq_of_getLsbD_eq
  intro i hi
  have big : 16 ≤ i → c.toBitVec.getLsbD i = false := fun q => by
    rw [← BitVec.testBit_toNat]
    exact Nat.testBit_lt_two_pow (Nat.lt_of_lt_of_le hb (Nat.pow_le_pow_right (by decide) q))
  have s0 : ∀ y : Int32, y <<< ((0 : Int32) &&& 31) = y := fun y => by apply Int32.toBitVec_inj.mp; simp
  have s8 : ∀ y : Int32, (y <<< ((8 : Int32) &&& 31)).toBitVec = y.toBitVec <<< 8 := fun y => by simp
  have r8 : ∀ y : Int32, (y >>> ((8 : Int32) &&& 31)).toBitVec = y.toBitVec.sshiftRight 8 := fun y => by simp
  have t16 : ∀ y : Int32, y.toUInt32.toUInt16.toUInt32.toInt32.toBitVec = (y.toBitVec.setWidth 16).setWidth 32 := fun y => rfl
  rw [s0, t16]
  simp only [Int32.toBitVec_or, Int32.toBitVec_and, s8, r8, BitVec.getLsbD_setWidth, BitVec.getLsbD_or, BitVec.getLsbD_and, BitVec.getLsbD_shiftLeft, BitVec.getLsbD_sshiftRight, hi]
  have q1 : (255#32).getLsbD i = decide (i < 8) := own_255 i hi
  have q2 : (255#32).getLsbD (i - 8) = decide (i - 8 < 8) := own_255 (i - 8) (by omega)
  by_cases h8 : i < 8
  · simp [h8, q1, show i < 16 by omega]
  · by_cases h16 : i < 16
    · simp [h8, h16, q1, q2, show i - 8 < 8 by omega, show 8 + (i - 8) = i by omega, show ¬ 32 ≤ i - 8 by omega, hi]
      intro a _; exact a
    · simp [h16, big (by omega)]
theorem own_shr0 (c : Int32) : c >>> ((0 : Int32) &&& 31) = c := by apply Int32.toBitVec_inj.mp; simp
theorem own_lolo (c : Int32) : own_lo (own_lo c) = own_lo c := by simp only [own_lo, Int8.toInt8_toInt32]
def own_fit : List Int32 → Nat
  | [] => 0
  | c :: cs => if 255 < c then 0 else own_fit cs + 1
def own_u16 : List Int32 → List Int32
  | [] => []
  | c :: cs => own_lo c :: own_hi c :: own_u16 cs
theorem own_fit_le (cs : List Int32) : own_fit cs ≤ cs.length := by
  induction cs with
  | nil => exact Nat.le_refl _
  | cons c cs ih => unfold own_fit; split <;> simp <;> omega
theorem own_fit_all (cs : List Int32) (h : own_fit cs = cs.length) : ∀ c ∈ cs, ¬ (255 : Int32) < c := by
  induction cs with
  | nil => intro c hc; cases hc
  | cons d cs ih =>
    unfold own_fit at h
    split at h
    · simp at h
    · rename_i hd
      intro c hc
      rcases List.mem_cons.mp hc with rfl | hc
      · exact hd
      · exact ih (by simpa using h) c hc
theorem own_fit_at (cs : List Int32) (h : own_fit cs < cs.length) : (255 : Int32) < cs.getD (own_fit cs) 0 := by
  induction cs with
  | nil => exact absurd h (Nat.lt_irrefl _)
  | cons d cs ih =>
    unfold own_fit at h ⊢
    split
    · rename_i hd; simpa using hd
    · rename_i hd
      rw [if_neg hd] at h
      have := ih (by simpa using h)
      simpa using this
theorem own_u16_len (cs : List Int32) : (own_u16 cs).length = 2 * cs.length := by
  induction cs with
  | nil => rfl
  | cons c cs ih => simp only [own_u16, List.length_cons, ih]; omega
theorem own_u16_app (cs ds : List Int32) : own_u16 (cs ++ ds) = own_u16 cs ++ own_u16 ds := by
  induction cs with
  | nil => rfl
  | cons c cs ih => simp only [List.cons_append, own_u16, ih]
theorem own_u16_get (cs : List Int32) : ∀ i, i < cs.length → (own_u16 cs).getD (2 * i) 0 = own_lo (cs.getD i 0) ∧ (own_u16 cs).getD (2 * i + 1) 0 = own_hi (cs.getD i 0) := by
  induction cs with
  | nil => intro i h; exact absurd h (Nat.not_lt_zero i)
  | cons c cs ih =>
    intro i h
    cases i with
    | zero => exact ⟨rfl, rfl⟩
    | succ i =>
      have e1 : 2 * (i + 1) = 2 * i + 1 + 1 := by omega
      have := ih i (by simpa using h)
      simp only [own_u16, e1, List.getD_cons_succ]
      exact this
theorem own_take_succ (cs : List Int32) (i : Nat) (h : i < cs.length) : cs.take (i + 1) = cs.take i ++ [cs.getD i 0] := by
  rw [List.take_add_one, List.getElem?_eq_getElem h, List.getD_eq_getElem?_getD, List.getElem?_eq_getElem h]; rfl
theorem own_drop_succ (cs : List Int32) (i : Nat) (h : i < cs.length) : cs.drop i = cs.getD i 0 :: cs.drop (i + 1) := by
  rw [List.getD_eq_getElem?_getD, List.getElem?_eq_getElem h]; exact List.drop_eq_getElem_cons h
theorem own_bget (bs : List Int32) (j : Nat) : (bs.map Value.int).getD j (.int 0) = .int (bs.getD j 0) := by
  simp only [List.getD_eq_getElem?_getD, List.getElem?_map]
  cases bs[j]? <;> rfl
/-- a byte stored behind the ones that stand -/
theorem own_pushB {Z : State} {h h' : Heap} {a : Addr} {k : ClassId} {z v : Int32} {xs : List Int32} {j : Nat} (A : Arv Z h a k .byte z (xs.map Value.int) (.int 0)) (hj : j = xs.length) (W : Wr h h' a j (.int (own_lo v))) : Arv Z h' a k .byte z ((xs ++ [own_lo v]).map Value.int) (.int 0) := by
  have P : Arv Z h a k .byte z (xs.map Value.int ++ [.int 0]) (.int 0) := A.pad (pad_rep _ _ 1)
  obtain ⟨c', A', r1, r2, r3, r4, r5⟩ := P
  by_cases hn : xs.length < 2147483648
  · have e := Arv.set A' r1 r2 r3 r4 r5 (v := .int (own_lo v)) (fits_nar_byte _) (j := Int32.ofNat xs.length) (by rw [own_clamp hn, ← hj]; exact W) xs.length (own_clamp hn) (by simp)
    have e2 : (xs.map Value.int ++ [Value.int 0]).set xs.length (.int (own_lo v)) = (xs ++ [own_lo v]).map Value.int := by
      rw [List.map_append, List.set_append_right _ _ (by simp)]; simp
    rw [e2] at e; exact e
  · exfalso
    obtain ⟨c, hc, -, hlt, -⟩ := W
    have q : c' = c := by have := A'.1.symm.trans hc; simpa using this
    subst q
    have : z.toNatClampNeg < 2147483648 := by have := z.toInt_lt; have e : z.toNatClampNeg = z.toInt.toNat := rfl; omega
    omega
theorem own_one (v : Int32) : One (.val (.int v)) := Or.inr ⟨_, rfl, rfl⟩
theorem own_os6c {a d : Addr} {b e f g v : Int32} {s6 : Slot} (h : One s6) : storeLocals #[.val (.ref a), .val (.int b), .val (.ref d), .val (.int e), .val (.int f), .val (.int g), s6] 6 (.int v) = some #[.val (.ref a), .val (.int b), .val (.ref d), .val (.int e), .val (.int f), .val (.int g), .val (.int v)] := by
  rcases h with rfl | ⟨w, rfl, hw⟩
  · rfl
  · cases w <;> first | rfl | (simp [Value.category] at hw)
theorem own_dbl_all : ∀ n : Fin 17, Int32.ofNat n.val <<< ((1 : Int32) &&& 31) = Int32.ofNat (2 * n.val) := by decide +kernel
theorem own_dbl {n : Nat} (h : n ≤ 16) : Int32.ofNat n <<< ((1 : Int32) &&& 31) = Int32.ofNat (2 * n) := own_dbl_all ⟨n, by omega⟩
theorem own_hlf_all : ∀ n : Fin 17, Int32.ofNat (2 * n.val) >>> ((1 : Int32) &&& 31) = Int32.ofNat n.val := by decide +kernel
theorem own_hlf {n : Nat} (h : n ≤ 16) : Int32.ofNat (2 * n) >>> ((1 : Int32) &&& 31) = Int32.ofNat n := own_hlf_all ⟨n, by omega⟩
def own_cdr (n z : Int32) : Int32 := nar .byte ((((n - z).toUInt32 >>> ((31 : Int32) &&& 31).toUInt32).toInt32).toInt8.toInt32)
theorem own_cdr0 (n : Int32) : own_cdr n n = 0 := by unfold own_cdr; rw [Int32.sub_self]; rfl
theorem own_cdr1_all : ∀ n : Fin 17, 0 < n.val → own_cdr (Int32.ofNat n.val) (Int32.ofNat (2 * n.val)) = 1 := by decide +kernel
theorem own_cdr1 {n : Nat} (h0 : 0 < n) (h : n ≤ 16) : own_cdr (Int32.ofNat n) (Int32.ofNat (2 * n)) = 1 := own_cdr1_all ⟨n, by omega⟩ h0
theorem own_narc {c : Int32} (h : ¬ c < 0 ∧ ¬ (65535 : Int32) < c) : nar .char c = c := by
  have q := own_pair_eq h.1 h.2
  show c.toUInt32.toUInt16.toUInt32.toInt32 = c
  rw [← q]; unfold own_pair
  have t16 : ∀ y : Int32, y.toUInt32.toUInt16.toUInt32.toInt32.toBitVec = (y.toBitVec.setWidth 16).setWidth 32 := fun y => rfl
  apply Int32.toBitVec_inj.mp
  rw [t16, t16]
  apply BitVec.eq_of_getLsbD_eq
  intro i hi
  simp only [BitVec.getLsbD_setWidth]
  by_cases h16 : i < 16 <;> simp [h16, hi]
theorem own_mem (cs : List Int32) (i : Nat) (h : i < cs.length) : cs.getD i 0 ∈ cs := by
  rw [List.getD_eq_getElem?_getD, List.getElem?_eq_getElem h]; exact List.getElem_mem h
theorem own_u16_ch (cs : List Int32) (i : Nat) (h : i < cs.length) (hp : ¬ cs.getD i 0 < 0 ∧ ¬ (65535 : Int32) < cs.getD i 0) : nar .char (own_pair ((own_u16 cs).getD (2 * i) 0) ((own_u16 cs).getD (2 * i + 1) 0)) = cs.getD i 0 := by
  obtain ⟨e1, e2⟩ := own_u16_get cs i h
  have q := own_pair_eq hp.1 hp.2
  rw [own_shr0] at q
  rw [e1, e2, q, own_narc hp]
theorem own_logetD (cs : List Int32) (i : Nat) (h : i < cs.length) : (cs.map own_lo).getD i 0 = own_lo (cs.getD i 0) := by
  rw [List.getD_eq_getElem?_getD, List.getD_eq_getElem?_getD, List.getElem?_map, List.getElem?_eq_getElem h]; rfl
theorem own_and255 {c : Int32} (h0 : ¬ c < 0) (h1 : ¬ (255 : Int32) < c) : c &&& 255 = c := by
  have hb : c.toBitVec.toNat < 2 ^ 8 := by
    rw [Int32.lt_iff_toInt_lt] at h0 h1
    have z0 : (0 : Int32).toInt = 0 := rfl
    have z1 : (255 : Int32).toInt = 255 := rfl
    have q : c.toInt = c.toBitVec.toInt := rfl
    rw [z0, q, BitVec.toInt_eq_toNat_cond] at h0
    rw [z1, q, BitVec.toInt_eq_toNat_cond] at h1
    split at h0 <;> split at h1 <;> omega
  apply Int32.toBitVec_inj.mp
  apply BitVec.eq_of_getLsbD_eq
  intro i hi
  have q1 : (255#32).getLsbD i = decide (i < 8) := own_255 i hi
  rw [Int32.toBitVec_and, BitVec.getLsbD_and]
  show (c.toBitVec.getLsbD i && (255#32).getLsbD i) = _
  rw [q1]
  by_cases h8 : i < 8
  · simp [h8]
  · have : c.toBitVec.getLsbD i = false := by
      rw [← BitVec.testBit_toNat]
      exact Nat.testBit_lt_two_pow (Nat.lt_of_lt_of_le hb (Nat.pow_le_pow_right (by decide) (by omega)))
    simp [this]
theorem own_l1 {c : Int32} (h : ¬ c < 0 ∧ ¬ (65535 : Int32) < c) (h1 : ¬ (255 : Int32) < c) : nar .char ((own_lo c &&& (255 : Int32)).toUInt32.toUInt16.toUInt32.toInt32) = c := by
  have e : own_lo c &&& (255 : Int32) = c := by rw [own_and_lo, own_and255 h.1 h1]
  rw [e]
  have q := own_narc h
  rw [show c.toUInt32.toUInt16.toUInt32.toInt32 = nar .char c from rfl, q, q]
theorem own_ncb (y : Int32) : ¬ nar .char y < 0 ∧ ¬ (65535 : Int32) < nar .char y := by
  have t16 : (nar .char y).toBitVec = (y.toBitVec.setWidth 16).setWidth 32 := rfl
  have hb : (nar .char y).toBitVec.toNat < 65536 := by
    rw [t16, BitVec.toNat_setWidth, BitVec.toNat_setWidth]
    exact Nat.lt_of_le_of_lt (Nat.mod_le _ _) (Nat.mod_lt _ (by decide))
  have q : (nar .char y).toInt = (nar .char y).toBitVec.toInt := rfl
  rw [BitVec.toInt_eq_toNat_cond] at q
  have z0 : (0 : Int32).toInt = 0 := rfl
  have z1 : (65535 : Int32).toInt = 65535 := rfl
  rw [Int32.lt_iff_toInt_lt, Int32.lt_iff_toInt_lt, z0, z1, q]
  split <;> omega
theorem own_from (a : Int32) : ∃ f : Nat, f ≤ 5 ∧ (a &&& (2147483647 : Int32)) % (6 : Int32) = Int32.ofNat f := by
  have e1 : (a &&& (2147483647 : Int32)).toInt = a.toInt % 2 ^ 31 := Jvm.Kit.i32_mask a _ (k := 31) (by decide) (by decide)
  have h0 : (0 : Int) ≤ (a &&& (2147483647 : Int32)).toInt := by rw [e1]; omega
  have e2 := Jvm.Kit.i32_rem_nonneg (x := a &&& (2147483647 : Int32)) (y := (6 : Int32)) h0
  have e3 : (6 : Int32).toInt = 6 := rfl
  rw [e3] at e2
  exact ⟨((a &&& (2147483647 : Int32)) % (6 : Int32)).toInt.toNat, by omega, by rw [← Int32.toInt_inj, own_nat (by omega)]; omega⟩
def own_dig (c : Int32) : Int32 := if c < 48 then 0 else if 57 < c then 0 else 1
def own_alw (c i n : Int32) : Int32 := if i < n then (if own_dig c = 0 then (if c = 46 then 1 else 0) else 1) else 1
def own_dot (c i n : Int32) : Int32 := if i < n then (if c = 46 then 1 else 0) else 0
def own_df (cs : List Int32) : Nat → Nat → Nat
  | 0, i => i
  | k + 1, i => if cs.getD i 0 < 48 then i else if 57 < cs.getD i 0 then i else own_df cs k (i + 1)
def own_isw (cs : List Int32) (n q : Nat) : Int32 :=
  if Int32.ofNat q = (0 : Int32) then 0 else if Int32.ofNat q = Int32.ofNat n then 1 else if cs.getD q 0 = 46 then
    (if Int32.ofNat q + (1 : Int32) < Int32.ofNat n then (if Int32.ofNat (own_df cs (n - (q + 1)) (q + 1)) = Int32.ofNat n then 1 else 0) else 0) else 0
def own_allok (a0 a1 a2 a3 a4 : Int32) : Int32 := if a0 = 0 then 0 else if a1 = 0 then 0 else if a2 = 0 then 0 else if a3 = 0 then 0 else if a4 = 0 then 0 else 1
def own_exp (n ok dots d0 dn : Int32) : Int32 := if n = 0 then 0 else if ok = 0 then 0 else if 1 < dots then 0 else if d0 = 0 then 0 else if dn = 0 then 0 else 1
theorem own_df_le (cs : List Int32) : ∀ k i, own_df cs k i ≤ i + k := by
  intro k
  induction k with
  | zero => intro i; exact Nat.le_refl _
  | succ k ih =>
    intro i; unfold own_df
    split
    · omega
    · split
      · omega
      · have := ih (i + 1); omega
theorem own_df_ge (cs : List Int32) : ∀ k i, i ≤ own_df cs k i := by
  intro k
  induction k with
  | zero => intro i; exact Nat.le_refl _
  | succ k ih =>
    intro i; unfold own_df
    split
    · omega
    · split
      · omega
      · have := ih (i + 1); omega
def own_kd (c : Int32) : Nat := if c < 48 then (if c = 46 then 1 else 2) else if 57 < c then 2 else 0
theorem own_kd3 (c : Int32) : own_kd c < 3 := by unfold own_kd; split <;> split <;> decide
theorem own_kd0 (c : Int32) : own_kd c = 0 ↔ ¬ c < 48 ∧ ¬ 57 < c := by
  unfold own_kd
  by_cases h1 : c < 48
  · by_cases h2 : c = 46 <;> simp [h1, h2]
  · by_cases h3 : 57 < c <;> simp [h1, h3]
theorem own_kd1 (c : Int32) : own_kd c = 1 ↔ c = 46 := by
  unfold own_kd
  by_cases h2 : c = 46
  · subst h2; decide
  · by_cases h1 : c < 48
    · simp [h1, h2]
    · by_cases h3 : 57 < c <;> simp [h1, h2, h3]
theorem own_kdget (cs : List Int32) (i : Nat) : (cs.map own_kd).getD i 2 = own_kd (cs.getD i 0) := by
  simp only [List.getD_eq_getElem?_getD, List.getElem?_map]
  cases cs[i]? with
  | none => decide
  | some c => rfl
def own_digK (k : Nat) : Int32 := if k = 0 then 1 else 0
theorem own_dig_K (c : Int32) : own_dig c = own_digK (own_kd c) := by
  unfold own_dig own_digK
  by_cases h1 : c < 48
  · have : ¬ own_kd c = 0 := fun q => ((own_kd0 c).mp q).1 h1
    rw [if_pos h1, if_neg this]
  · by_cases h2 : 57 < c
    · have : ¬ own_kd c = 0 := fun q => ((own_kd0 c).mp q).2 h2
      rw [if_neg h1, if_pos h2, if_neg this]
    · rw [if_neg h1, if_neg h2, if_pos ((own_kd0 c).mpr ⟨h1, h2⟩)]
def own_alwK (k i n : Nat) : Int32 := if i < n then (if own_digK k = 0 then (if k = 1 then 1 else 0) else 1) else 1
def own_dotK (k i n : Nat) : Int32 := if i < n then (if k = 1 then 1 else 0) else 0
theorem own_alw_K (c : Int32) (i n : Nat) (hi : i < 9) (hn : n < 9) : own_alw c (Int32.ofNat i) (Int32.ofNat n) = own_alwK (own_kd c) i n := by
  unfold own_alw own_alwK
  simp only [own_nlt (show i < 2147483648 by omega) (show n < 2147483648 by omega), own_dig_K, ← own_kd1]
theorem own_dot_K (c : Int32) (i n : Nat) (hi : i < 9) (hn : n < 9) : own_dot c (Int32.ofNat i) (Int32.ofNat n) = own_dotK (own_kd c) i n := by
  unfold own_dot own_dotK
  simp only [own_nlt (show i < 2147483648 by omega) (show n < 2147483648 by omega), ← own_kd1]
def own_dfK (ks : List Nat) : Nat → Nat → Nat
  | 0, i => i
  | k + 1, i => if ks.getD i 2 = 0 then own_dfK ks k (i + 1) else i
theorem own_df_K (cs : List Int32) : ∀ k i, own_df cs k i = own_dfK (cs.map own_kd) k i := by
  intro k
  induction k with
  | zero => intro i; rfl
  | succ k ih =>
    intro i; unfold own_df own_dfK
    rw [own_kdget, ih]
    by_cases h1 : cs.getD i 0 < 48
    · rw [if_pos h1, if_neg (fun q => ((own_kd0 _).mp q).1 h1)]
    · by_cases h2 : 57 < cs.getD i 0
      · rw [if_neg h1, if_pos h2, if_neg (fun q => ((own_kd0 _).mp q).2 h2)]
      · rw [if_neg h1, if_neg h2, if_pos ((own_kd0 _).mpr ⟨h1, h2⟩)]
def own_iswK (ks : List Nat) (n q : Nat) : Int32 :=
  if q = 0 then 0 else if q = n then 1 else if ks.getD q 2 = 1 then (if q + 1 < n then (if own_dfK ks (n - (q + 1)) (q + 1) = n then 1 else 0) else 0) else 0
theorem own_isw_K (cs : List Int32) (n q : Nat) (hn : n < 9) (hq : q < 9) : own_isw cs n q = own_iswK (cs.map own_kd) n q := by
  have e0 : (Int32.ofNat q = (0 : Int32)) = (q = 0) := propext (own_ninj (n := 0) (by omega) (by omega))
  have e1 : (Int32.ofNat q = Int32.ofNat n) = (q = n) := propext (own_ninj (by omega) (by omega))
  have e2 : (Int32.ofNat q + (1 : Int32) < Int32.ofNat n) = (q + 1 < n) := by rw [own_succ]; exact propext (own_nlt (by omega) (by omega))
  have e3 : (Int32.ofNat (own_df cs (n - (q + 1)) (q + 1)) = Int32.ofNat n) = (own_dfK (cs.map own_kd) (n - (q + 1)) (q + 1) = n) := by
    have b := own_df_le cs (n - (q + 1)) (q + 1)
    rw [← own_df_K]; exact propext (own_ninj (by omega) (by omega))
  have e4 : (cs.getD q 0 = 46) = ((cs.map own_kd).getD q 2 = 1) := by rw [own_kdget]; exact propext (own_kd1 _).symm
  unfold own_isw own_iswK
  simp only [e0, e1, e2, e3, e4]
def own_expK (k0 k1 k2 k3 k4 n : Nat) : Int32 := own_exp (Int32.ofNat n) (own_allok (own_alwK k0 0 n) (own_alwK k1 1 n) (own_alwK k2 2 n) (own_alwK k3 3 n) (own_alwK k4 4 n))
  (own_dotK k0 0 n + own_dotK k1 1 n + own_dotK k2 2 n + own_dotK k3 3 n + own_dotK k4 4 n) (own_digK k0) (own_digK ([k0, k1, k2, k3, k4].getD (n - 1) 2))
set_option maxRecDepth 100000 in
theorem own_allK : ∀ k0 k1 k2 k3 k4 : Fin 3, ∀ n : Fin 6, own_iswK [k0.val, k1.val, k2.val, k3.val, k4.val] n.val (own_dfK [k0.val, k1.val, k2.val, k3.val, k4.val] n.val 0) = own_expK k0.val k1.val k2.val k3.val k4.val n.val := by decide +kernel
theorem own_all (c0 c1 c2 c3 c4 : Int32) (n : Nat) (hn : n ≤ 5) : own_isw [c0, c1, c2, c3, c4] n (own_df [c0, c1, c2, c3, c4] n 0) = own_exp (Int32.ofNat n) (own_allok (own_alw c0 (0 : Int32) (Int32.ofNat n)) (own_alw c1 (1 : Int32) (Int32.ofNat n)) (own_alw c2 (2 : Int32) (Int32.ofNat n)) (own_alw c3 (3 : Int32) (Int32.ofNat n)) (own_alw c4 (4 : Int32) (Int32.ofNat n)))
    (own_dot c0 (0 : Int32) (Int32.ofNat n) + own_dot c1 (1 : Int32) (Int32.ofNat n) + own_dot c2 (2 : Int32) (Int32.ofNat n) + own_dot c3 (3 : Int32) (Int32.ofNat n) + own_dot c4 (4 : Int32) (Int32.ofNat n)) (own_dig c0) (own_dig ([c0, c1, c2, c3, c4].getD (n - 1) 0)) := by
  have b := own_df_le [c0, c1, c2, c3, c4] n 0
  rw [own_isw_K _ _ _ (by omega) (by omega), own_df_K, own_dig_K, own_dig_K, ← own_kdget]
  have a0 := own_alw_K c0 0 n (by omega) (by omega); have a1 := own_alw_K c1 1 n (by omega) (by omega); have a2 := own_alw_K c2 2 n (by omega) (by omega); have a3 := own_alw_K c3 3 n (by omega) (by omega); have a4 := own_alw_K c4 4 n (by omega) (by omega)
  have o0 := own_dot_K c0 0 n (by omega) (by omega); have o1 := own_dot_K c1 1 n (by omega) (by omega); have o2 := own_dot_K c2 2 n (by omega) (by omega); have o3 := own_dot_K c3 3 n (by omega) (by omega); have o4 := own_dot_K c4 4 n (by omega) (by omega)
  rw [show own_alw c0 (0 : Int32) _ = _ from a0, show own_alw c1 (1 : Int32) _ = _ from a1, show own_alw c2 (2 : Int32) _ = _ from a2, show own_alw c3 (3 : Int32) _ = _ from a3, show own_alw c4 (4 : Int32) _ = _ from a4,
    show own_dot c0 (0 : Int32) _ = _ from o0, show own_dot c1 (1 : Int32) _ = _ from o1, show own_dot c2 (2 : Int32) _ = _ from o2, show own_dot c3 (3 : Int32) _ = _ from o3, show own_dot c4 (4 : Int32) _ = _ from o4]
  exact own_allK ⟨own_kd c0, own_kd3 c0⟩ ⟨own_kd c1, own_kd3 c1⟩ ⟨own_kd c2, own_kd3 c2⟩ ⟨own_kd c3, own_kd3 c3⟩ ⟨own_kd c4, own_kd3 c4⟩ ⟨n, by omega⟩
theorem own_predi {n : Nat} (h : 0 < n) (h5 : n ≤ 5) : Int32.ofNat n - (1 : Int32) = Int32.ofNat (n - 1) := by
  have t : ∀ k : Fin 6, 0 < k.val → Int32.ofNat k.val - (1 : Int32) = Int32.ofNat (k.val - 1) := by decide +kernel
  exact t ⟨n, by omega⟩ h
def QC5 (Z : State) (a d : Addr) (ka kd : ClassId) (cs : List Int32) (h0 : Heap) (n0 : Nat) (v : Option Value) (h : Heap) (L : List Loc) : Prop := v = some (.int (Int32.ofNat (own_fit cs))) ∧ Fr n0 L ∧ Keep h0 h [d] ∧ Arv Z h d kd .byte (Int32.ofNat cs.length) (((cs.take (own_fit cs)).map own_lo).map Value.int) (.int 0)
set_option maxRecDepth 65536 in
set_option maxHeartbeats 40000000 in
theorem rmC5 (l : Launch) (Z : State) (a0 : Array Value) (hw : ∀ d ∈ tables_1, d.before a0 Z = true) (ws : List Jvm.Cond) (a d : Addr) (ka kd : ClassId) (cs : List Int32) (h0 : Heap) (n0 : Nat) (Z0 : n0 ≤ h0.size) (K : Arv Z h0 a ka .char (Int32.ofNat cs.length) (cs.map Value.int) (.int 0)) (D : Arv Z h0 d kd .byte (Int32.ofNat cs.length) (([] : List Int32).map Value.int) (.int 0)) (hne : a ≠ d) (gd : n0 ≤ d) (hp : ∀ c ∈ cs, ¬ c < 0 ∧ ¬ (65535 : Int32) < c) (hl : cs.length ≤ 16) :
    MetFree l (⟨"java/lang/StringUTF16", "compress", "([CI[BII)I"⟩ : MethodName) (head1 (Jvm.Cond.code (⟨"java/lang/StringUTF16", "compress", "([CI[BII)I"⟩ : MethodName) jdk_52_method_21_code 7 (some .int) :: ws) ({ frames := 0, cells := 0, slots := 0, locals := 0 } : Room)) (fun a_ U => a_ = #[(.ref a), (.int (0 : Int32)), (.ref d), (.int (0 : Int32)), (.int (Int32.ofNat cs.length))] ∧ Z.Warmed39 U.vm ∧ U.heap = h0) (fun _ _ _ _ _ => True) (fun _ U o U' => ∃ v L, o = .returned v ∧ QC5 Z a d ka kd cs h0 n0 v U'.heap L ∧ FrameEnd U o U' L ({ frames := 0, cells := 0, slots := 0, locals := 0 } : Room).cells ({ frames := 0, cells := 0, slots := 0, locals := 0 } : Room).slots) := by
  refine MetFree.of_bodySF (plainFor_of_name pn_0) hisR ?_
  intro p e s m args below meth c s₁ Bd hml0 hP hK
  obtain ⟨rfl, hZ, hh⟩ := hP
  have hx := Bd.exec
  have hby := Bd.bytes
  have hml : c.maxLocals = 7 := hml0
  have hown : s.vm.findClass "java/lang/StringUTF16" = some m.cls := findClass_of_methodNamed Bd.named
  have hnm := (name_of_methodNamed Bd.named Bd.method).1
  have X0 : Stand p l e ({ frames := 0, cells := 0, slots := 0, locals := 0 } : Room) s m #[(.ref a), (.int (0 : Int32)), (.ref d), (.int (0 : Int32)), (.int (Int32.ofNat cs.length))] below meth c s₁ [] 0 0 := Stand.of_body Bd
  have e0 : s₁.heap = h0 := by rw [← hh, Bd.state]; rfl
  have N0 := Fr.nil n0
  refine Goes.done ?_
  obtain ⟨W, hWd⟩ : ∃ W : State → Prop, W = EndW s below (QC5 Z a d ka kd cs h0 n0) ({ frames := 0, cells := 0, slots := 0, locals := 0 } : Room).cells ({ frames := 0, cells := 0, slots := 0, locals := 0 } : Room).slots := ⟨_, rfl⟩
  rw [← hWd]
  have hef : entryFrame m #[(.ref a), (.int (0 : Int32)), (.ref d), (.int (0 : Int32)), (.int (Int32.ofNat cs.length))] 7 = (mkF m 0 #[.val (.ref a), .val (.int (0 : Int32)), .val (.ref d), .val (.int (0 : Int32)), .val (.int (Int32.ofNat cs.length)), .unset, .unset] []) := by first | (simp [entryFrame, mkF, argsToLocals, Value.category]; done) | rfl
  rw [hef]
  have K3 : ∀ (k i : Nat) (s6 : Slot) (T : State) (h : Heap) (locs : List Loc), Stand p l e ({ frames := 0, cells := 0, slots := 0, locals := 0 } : Room) s m #[(.ref a), (.int (0 : Int32)), (.ref d), (.int (0 : Int32)), (.int (Int32.ofNat cs.length))] below meth c T locs 0 0 → T.heap = h → Fr n0 locs → Arv Z h d kd .byte (Int32.ofNat cs.length) (((cs.take i).map own_lo).map Value.int) (.int 0) → Keep h0 h [d] → One s6 → i + k = cs.length → own_fit cs = i + own_fit (cs.drop i) → Goes p e below W T (mkF m 3 #[.val (.ref a), .val (.int (Int32.ofNat i)), .val (.ref d), .val (.int (Int32.ofNat i)), .val (.int (Int32.ofNat cs.length)), .val (.int (Int32.ofNat i)), s6] []) := by
    intro k
    induction k with
    | zero =>
      intro i s6 T h locs X eT N B KP o6 hi hf
      have hge : ¬ ((Int32.ofNat i) < (Int32.ofNat cs.length)) := by rw [own_nlt (by omega) (by omega)]; omega
      have hfi : own_fit cs = cs.length := by rw [hf, show i = cs.length by omega, List.drop_length]; rfl
      refine Goes.on (T' := T) (g' := (mkF m 5 #[.val (.ref a), .val (.int (Int32.ofNat i)), .val (.ref d), .val (.int (Int32.ofNat i)), .val (.int (Int32.ofNat cs.length)), .val (.int (Int32.ofNat i)), s6] [(.int (Int32.ofNat i))])) ?_ (fun t_ k_ => XS.iload X.here hx rfl (hb hby d6_3) rfl k_)
      refine Goes.on (T' := T) (g' := (mkF m 7 #[.val (.ref a), .val (.int (Int32.ofNat i)), .val (.ref d), .val (.int (Int32.ofNat i)), .val (.int (Int32.ofNat cs.length)), .val (.int (Int32.ofNat i)), s6] [(.int (Int32.ofNat cs.length)), (.int (Int32.ofNat i))])) ?_ (fun t_ k_ => XS.iload X.here hx rfl (hb hby d6_5) rfl k_)
      refine Goes.on (T' := T) (g' := (mkF m 44 #[.val (.ref a), .val (.int (Int32.ofNat i)), .val (.ref d), .val (.int (Int32.ofNat i)), .val (.int (Int32.ofNat cs.length)), .val (.int (Int32.ofNat i)), s6] [])) ?_ (fun t_ k_ => XS.icmpYes X.here hx rfl (pc0 := 7) (pc' := 44) rfl (hb hby d6_7) rfl (flt hge).2.1 (by decide) (by decide) k_)
      refine Goes.on (T' := T) (g' := (mkF m 46 #[.val (.ref a), .val (.int (Int32.ofNat i)), .val (.ref d), .val (.int (Int32.ofNat i)), .val (.int (Int32.ofNat cs.length)), .val (.int (Int32.ofNat i)), s6] [(.int (Int32.ofNat cs.length))])) ?_ (fun t_ k_ => XS.iload X.here hx rfl (hb hby d6_44) rfl k_)
      rw [hWd]
      exact Goes.retn X (v := some (.int (Int32.ofNat cs.length))) (fun fs hr => retI X hx Bd.returns (hb hby d6_46) hr) (fun h => by rw [Bd.returns] at h; cases h) Bd.notSynchronized (by decide) (by decide) (by rw [eT]; exact ⟨by rw [hfi], N, KP, by rw [hfi, show cs.take cs.length = cs.take i from by rw [show i = cs.length by omega]]; exact B⟩)
    | succ k ih =>
      intro i s6 T h locs X eT N B KP o6 hi hf
      have hlt : (Int32.ofNat i) < (Int32.ofNat cs.length) := by rw [own_nlt (by omega) (by omega)]; omega
      have hcl : (Int32.ofNat i).toNatClampNeg = i := own_clamp (by omega)
      have hil : i < cs.length := by omega
      obtain ⟨cA, A1, -, S1, M1, H1, -⟩ := K.keep KP (ninS hne nin0)
      have S1n : cA.slots.size = cs.length := by rw [S1, own_clamp (by omega)]
      have in1 : ¬ ((Int32.ofNat i) < 0 ∨ cA.slots.size ≤ (Int32.ofNat i).toNatClampNeg) := by rw [hcl, S1n]; intro q; rcases q with q | q; exact own_nn (by omega) q; omega
      have at1 : cA.slots[(Int32.ofNat i).toNatClampNeg]? = some (.int (cs.getD i 0)) := by rw [hcl, H1 i (by omega), own_bget]
      obtain ⟨cD, A2, -, S2, M2, H2, -⟩ := id B
      have S2n : cD.slots.size = cs.length := by rw [S2, own_clamp (by omega)]
      have in2 : ¬ ((Int32.ofNat i) < 0 ∨ cD.slots.size ≤ (Int32.ofNat i).toNatClampNeg) := by rw [hcl, S2n]; intro q; rcases q with q | q; exact own_nn (by omega) q; omega
      rw [own_drop_succ cs i hil] at hf
      have Zh : n0 ≤ h.size := Nat.le_trans Z0 KP.1
      refine Goes.on (T' := T) (g' := (mkF m 5 #[.val (.ref a), .val (.int (Int32.ofNat i)), .val (.ref d), .val (.int (Int32.ofNat i)), .val (.int (Int32.ofNat cs.length)), .val (.int (Int32.ofNat i)), s6] [(.int (Int32.ofNat i))])) ?_ (fun t_ k_ => XS.iload X.here hx rfl (hb hby d6_3) rfl k_)
      refine Goes.on (T' := T) (g' := (mkF m 7 #[.val (.ref a), .val (.int (Int32.ofNat i)), .val (.ref d), .val (.int (Int32.ofNat i)), .val (.int (Int32.ofNat cs.length)), .val (.int (Int32.ofNat i)), s6] [(.int (Int32.ofNat cs.length)), (.int (Int32.ofNat i))])) ?_ (fun t_ k_ => XS.iload X.here hx rfl (hb hby d6_5) rfl k_)
      refine Goes.on (T' := T) (g' := (mkF m 10 #[.val (.ref a), .val (.int (Int32.ofNat i)), .val (.ref d), .val (.int (Int32.ofNat i)), .val (.int (Int32.ofNat cs.length)), .val (.int (Int32.ofNat i)), s6] [])) ?_ (fun t_ k_ => XS.icmpNo X.here hx rfl (hb hby d6_7) rfl (tlt hlt).2.1 k_)
      refine Goes.on (T' := T) (g' := (mkF m 11 #[.val (.ref a), .val (.int (Int32.ofNat i)), .val (.ref d), .val (.int (Int32.ofNat i)), .val (.int (Int32.ofNat cs.length)), .val (.int (Int32.ofNat i)), s6] [(.ref a)])) ?_ (fun t_ k_ => XS.aloadN X.here hx rfl (hb hby d6_10) rfl rfl k_)
      refine Goes.on (T' := T) (g' := (mkF m 12 #[.val (.ref a), .val (.int (Int32.ofNat i)), .val (.ref d), .val (.int (Int32.ofNat i)), .val (.int (Int32.ofNat cs.length)), .val (.int (Int32.ofNat i)), s6] [(.int (Int32.ofNat i)), (.ref a)])) ?_ (fun t_ k_ => XS.iloadN X.here hx rfl (hb hby d6_11) rfl k_)
      refine Goes.on (T' := T) (g' := (mkF m 13 #[.val (.ref a), .val (.int (Int32.ofNat i)), .val (.ref d), .val (.int (Int32.ofNat i)), .val (.int (Int32.ofNat cs.length)), .val (.int (Int32.ofNat i)), s6] [(.int (cs.getD i 0))])) ?_ (X.caload hx (j := (Int32.ofNat i)) (v := (.int (cs.getD i 0))) (by rw [eT]; exact A1.1) (State.isArrayOf_alike hZ.alike A1.2.1) A1.2.2 in1 at1 (g := (mkF m 12 #[.val (.ref a), .val (.int (Int32.ofNat i)), .val (.ref d), .val (.int (Int32.ofNat i)), .val (.int (Int32.ofNat cs.length)), .val (.int (Int32.ofNat i)), s6] [(.int (Int32.ofNat i)), (.ref a)])) rfl rfl (hb hby d6_12))
      refine Goes.on (T' := T) (g' := (mkF m 15 #[.val (.ref a), .val (.int (Int32.ofNat i)), .val (.ref d), .val (.int (Int32.ofNat i)), .val (.int (Int32.ofNat cs.length)), .val (.int (Int32.ofNat i)), .val (.int (cs.getD i 0))] [])) ?_ (fun t_ k_ => XS.istore X.here hx rfl (hb hby d6_13) rfl (l' := #[.val (.ref a), .val (.int (Int32.ofNat i)), .val (.ref d), .val (.int (Int32.ofNat i)), .val (.int (Int32.ofNat cs.length)), .val (.int (Int32.ofNat i)), .val (.int (cs.getD i 0))]) (own_os6c o6) k_)
      refine Goes.on (T' := T) (g' := (mkF m 17 #[.val (.ref a), .val (.int (Int32.ofNat i)), .val (.ref d), .val (.int (Int32.ofNat i)), .val (.int (Int32.ofNat cs.length)), .val (.int (Int32.ofNat i)), .val (.int (cs.getD i 0))] [(.int (cs.getD i 0))])) ?_ (fun t_ k_ => XS.iload X.here hx rfl (hb hby d6_15) rfl k_)
      refine Goes.on (T' := T) (g' := (mkF m 20 #[.val (.ref a), .val (.int (Int32.ofNat i)), .val (.ref d), .val (.int (Int32.ofNat i)), .val (.int (Int32.ofNat cs.length)), .val (.int (Int32.ofNat i)), .val (.int (cs.getD i 0))] [(.int (255 : Int32)), (.int (cs.getD i 0))])) ?_ (fun t_ k_ => XS.sipush X.here hx rfl (hb hby d6_17) k_)
      refine Goes.icmpN X hx rfl (pc0 := 20) (pc' := 26) rfl (hb hby d6_20) rfl (by decide) (by decide) (P := (255 : Int32) < (cs.getD i 0)) (cmp_le _ _) (fun hc20 => ?_) (fun hc20 => ?_)
      · show Goes p e below W T (mkF m 26 #[.val (.ref a), .val (.int (Int32.ofNat i)), .val (.ref d), .val (.int (Int32.ofNat i)), .val (.int (Int32.ofNat cs.length)), .val (.int (Int32.ofNat i)), .val (.int (cs.getD i 0))] [])
        refine Goes.on (T' := T) (g' := (mkF m 27 #[.val (.ref a), .val (.int (Int32.ofNat i)), .val (.ref d), .val (.int (Int32.ofNat i)), .val (.int (Int32.ofNat cs.length)), .val (.int (Int32.ofNat i)), .val (.int (cs.getD i 0))] [(.ref d)])) ?_ (fun t_ k_ => XS.aloadN X.here hx rfl (hb hby d6_26) rfl rfl k_)
        refine Goes.on (T' := T) (g' := (mkF m 28 #[.val (.ref a), .val (.int (Int32.ofNat i)), .val (.ref d), .val (.int (Int32.ofNat i)), .val (.int (Int32.ofNat cs.length)), .val (.int (Int32.ofNat i)), .val (.int (cs.getD i 0))] [(.int (Int32.ofNat i)), (.ref d)])) ?_ (fun t_ k_ => XS.iloadN X.here hx rfl (hb hby d6_27) rfl k_)
        refine Goes.on (T' := T) (g' := (mkF m 30 #[.val (.ref a), .val (.int (Int32.ofNat i)), .val (.ref d), .val (.int (Int32.ofNat i)), .val (.int (Int32.ofNat cs.length)), .val (.int (Int32.ofNat i)), .val (.int (cs.getD i 0))] [(.int (cs.getD i 0)), (.int (Int32.ofNat i)), (.ref d)])) ?_ (fun t_ k_ => XS.iload X.here hx rfl (hb hby d6_28) rfl k_)
        refine Goes.on (T' := T) (g' := (mkF m 31 #[.val (.ref a), .val (.int (Int32.ofNat i)), .val (.ref d), .val (.int (Int32.ofNat i)), .val (.int (Int32.ofNat cs.length)), .val (.int (Int32.ofNat i)), .val (.int (cs.getD i 0))] [(.int ((cs.getD i 0).toInt8.toInt32)), (.int (Int32.ofNat i)), (.ref d)])) ?_ (fun t_ k_ => XS.i2b X.here hx rfl (hb hby d6_30) rfl k_)
        obtain ⟨T1, h1, X1, e1, W1, st1⟩ := stB X hx hZ eT A2 (j := (Int32.ofNat i)) in2 (g := (mkF m 31 #[.val (.ref a), .val (.int (Int32.ofNat i)), .val (.ref d), .val (.int (Int32.ofNat i)), .val (.int (Int32.ofNat cs.length)), .val (.int (Int32.ofNat i)), .val (.int (cs.getD i 0))] [(.int ((cs.getD i 0).toInt8.toInt32)), (.int (Int32.ofNat i)), (.ref d)])) rfl rfl (hb hby d6_31)
        have N1 := Fr.snoc X1 N gd
        have Z1 : n0 ≤ h1.size := Nat.le_trans Zh (Nat.le_of_eq W1.size.symm)
        refine Goes.on (T' := T1) (g' := (mkF m 32 #[.val (.ref a), .val (.int (Int32.ofNat i)), .val (.ref d), .val (.int (Int32.ofNat i)), .val (.int (Int32.ofNat cs.length)), .val (.int (Int32.ofNat i)), .val (.int (cs.getD i 0))] [])) ?_ st1
        have B1 : Arv Z h1 d kd .byte (Int32.ofNat cs.length) (((cs.take (i + 1)).map own_lo).map Value.int) (.int 0) := by have q := own_pushB B (j := i) (v := cs.getD i 0) (by simp; omega) (by have q := W1; rw [hcl] at q; have e2 : nar .byte (cs.getD i 0).toInt8.toInt32 = own_lo (cs.getD i 0) := own_lolo _; rw [e2] at q; exact q); rw [own_take_succ cs i hil, List.map_append]; exact q
        have KP1 := KP.wr W1 (Or.inl (List.mem_cons_self ..))
        refine Goes.on (T' := T1) (g' := (mkF m 35 #[.val (.ref a), .val (.int ((Int32.ofNat i) + (1 : Int32))), .val (.ref d), .val (.int (Int32.ofNat i)), .val (.int (Int32.ofNat cs.length)), .val (.int (Int32.ofNat i)), .val (.int (cs.getD i 0))] [])) ?_ (fun t_ k_ => XS.iinc X1.here hx rfl (hb hby d6_32) rfl (l' := #[.val (.ref a), .val (.int ((Int32.ofNat i) + (1 : Int32))), .val (.ref d), .val (.int (Int32.ofNat i)), .val (.int (Int32.ofNat cs.length)), .val (.int (Int32.ofNat i)), .val (.int (cs.getD i 0))]) rfl k_)
        refine Goes.on (T' := T1) (g' := (mkF m 38 #[.val (.ref a), .val (.int ((Int32.ofNat i) + (1 : Int32))), .val (.ref d), .val (.int ((Int32.ofNat i) + (1 : Int32))), .val (.int (Int32.ofNat cs.length)), .val (.int (Int32.ofNat i)), .val (.int (cs.getD i 0))] [])) ?_ (fun t_ k_ => XS.iinc X1.here hx rfl (hb hby d6_35) rfl (l' := #[.val (.ref a), .val (.int ((Int32.ofNat i) + (1 : Int32))), .val (.ref d), .val (.int ((Int32.ofNat i) + (1 : Int32))), .val (.int (Int32.ofNat cs.length)), .val (.int (Int32.ofNat i)), .val (.int (cs.getD i 0))]) rfl k_)
        refine Goes.on (T' := T1) (g' := (mkF m 41 #[.val (.ref a), .val (.int ((Int32.ofNat i) + (1 : Int32))), .val (.ref d), .val (.int ((Int32.ofNat i) + (1 : Int32))), .val (.int (Int32.ofNat cs.length)), .val (.int ((Int32.ofNat i) + (1 : Int32))), .val (.int (cs.getD i 0))] [])) ?_ (fun t_ k_ => XS.iinc X1.here hx rfl (hb hby d6_38) rfl (l' := #[.val (.ref a), .val (.int ((Int32.ofNat i) + (1 : Int32))), .val (.ref d), .val (.int ((Int32.ofNat i) + (1 : Int32))), .val (.int (Int32.ofNat cs.length)), .val (.int ((Int32.ofNat i) + (1 : Int32))), .val (.int (cs.getD i 0))]) rfl k_)
        refine Goes.on (T' := T1) (g' := (mkF m 3 #[.val (.ref a), .val (.int ((Int32.ofNat i) + (1 : Int32))), .val (.ref d), .val (.int ((Int32.ofNat i) + (1 : Int32))), .val (.int (Int32.ofNat cs.length)), .val (.int ((Int32.ofNat i) + (1 : Int32))), .val (.int (cs.getD i 0))] [])) ?_ (fun t_ k_ => XS.goto X1.here hx rfl (pc0 := 41) (pc' := 3) rfl (hb hby d6_41) (by decide) (by decide) k_)
        rw [own_succ]
        exact ih (i + 1) _ _ _ _ X1 e1 N1 B1 KP1 (own_one _) (by omega) (by rw [hf]; simp only [own_fit]; rw [if_neg hc20]; omega)
      · show Goes p e below W T (mkF m 23 #[.val (.ref a), .val (.int (Int32.ofNat i)), .val (.ref d), .val (.int (Int32.ofNat i)), .val (.int (Int32.ofNat cs.length)), .val (.int (Int32.ofNat i)), .val (.int (cs.getD i 0))] [])
        refine Goes.on (T' := T) (g' := (mkF m 25 #[.val (.ref a), .val (.int (Int32.ofNat i)), .val (.ref d), .val (.int (Int32.ofNat i)), .val (.int (Int32.ofNat cs.length)), .val (.int (Int32.ofNat i)), .val (.int (cs.getD i 0))] [(.int (Int32.ofNat i))])) ?_ (fun t_ k_ => XS.iload X.here hx rfl (hb hby d6_23) rfl k_)
        rw [hWd]
        exact Goes.retn X (v := some (.int (Int32.ofNat i))) (fun fs hr => retI X hx Bd.returns (hb hby d6_25) hr) (fun h => by rw [Bd.returns] at h; cases h) Bd.notSynchronized (by decide) (by decide) (by rw [eT]; exact ⟨by rw [hf]; unfold own_fit; rw [if_pos hc20]; rfl, N, KP, by rw [hf]; unfold own_fit; rw [if_pos hc20]; exact B⟩)
  refine Goes.on (T' := s₁) (g' := (mkF m 1 #[.val (.ref a), .val (.int (0 : Int32)), .val (.ref d), .val (.int (0 : Int32)), .val (.int (Int32.ofNat cs.length)), .unset, .unset] [(.int (0 : Int32))])) ?_ (fun t_ k_ => XS.iconst X0.here hx rfl (hb hby d6_0) k_)
  refine Goes.on (T' := s₁) (g' := (mkF m 3 #[.val (.ref a), .val (.int (0 : Int32)), .val (.ref d), .val (.int (0 : Int32)), .val (.int (Int32.ofNat cs.length)), .val (.int (0 : Int32)), .unset] [])) ?_ (fun t_ k_ => XS.istore X0.here hx rfl (hb hby d6_1) rfl (l' := #[.val (.ref a), .val (.int (0 : Int32)), .val (.ref d), .val (.int (0 : Int32)), .val (.int (Int32.ofNat cs.length)), .val (.int (0 : Int32)), .unset]) rfl k_)
  exact K3 cs.length 0 _ _ _ _ X0 e0 N0 (by exact D) (Keep.refl _ _) (Or.inl rfl) (by omega) (by rw [List.drop_zero, Nat.zero_add])
def QNL (Z : State) (n : Nat) (h0 : Heap) (n0 : Nat) (v : Option Value) (h : Heap) (L : List Loc) : Prop := v = some (.int (Int32.ofNat (2 * n))) ∧ Fr n0 L ∧ h = h0
set_option maxRecDepth 65536 in
set_option maxHeartbeats 40000000 in
theorem rmNL (l : Launch) (Z : State) (a0 : Array Value) (hw : ∀ d ∈ tables_1, d.before a0 Z = true) (ws : List Jvm.Cond) (n : Nat) (h0 : Heap) (n0 : Nat) (Z0 : n0 ≤ h0.size) (hn : n ≤ 16) :
    MetFree l (⟨"java/lang/StringUTF16", "newBytesLength", "(I)I"⟩ : MethodName) (head1 (Jvm.Cond.code (⟨"java/lang/StringUTF16", "newBytesLength", "(I)I"⟩ : MethodName) jdk_52_method_3_code 1 (some .int) :: ws) ({ frames := 0, cells := 0, slots := 0, locals := 0 } : Room)) (fun a_ U => a_ = #[(.int (Int32.ofNat n))] ∧ Z.Warmed39 U.vm ∧ U.heap = h0) (fun _ _ _ _ _ => True) (fun _ U o U' => ∃ v L, o = .returned v ∧ QNL Z n h0 n0 v U'.heap L ∧ FrameEnd U o U' L ({ frames := 0, cells := 0, slots := 0, locals := 0 } : Room).cells ({ frames := 0, cells := 0, slots := 0, locals := 0 } : Room).slots) := by
  refine MetFree.of_bodySF (plainFor_of_name pn_0) hisR ?_
  intro p e s m args below meth c s₁ Bd hml0 hP hK
  obtain ⟨rfl, hZ, hh⟩ := hP
  have hx := Bd.exec
  have hby := Bd.bytes
  have hml : c.maxLocals = 1 := hml0
  have hown : s.vm.findClass "java/lang/StringUTF16" = some m.cls := findClass_of_methodNamed Bd.named
  have hnm := (name_of_methodNamed Bd.named Bd.method).1
  have X0 : Stand p l e ({ frames := 0, cells := 0, slots := 0, locals := 0 } : Room) s m #[(.int (Int32.ofNat n))] below meth c s₁ [] 0 0 := Stand.of_body Bd
  have e0 : s₁.heap = h0 := by rw [← hh, Bd.state]; rfl
  have N0 := Fr.nil n0
  refine Goes.done ?_
  obtain ⟨W, hWd⟩ : ∃ W : State → Prop, W = EndW s below (QNL Z n h0 n0) ({ frames := 0, cells := 0, slots := 0, locals := 0 } : Room).cells ({ frames := 0, cells := 0, slots := 0, locals := 0 } : Room).slots := ⟨_, rfl⟩
  rw [← hWd]
  have hef : entryFrame m #[(.int (Int32.ofNat n))] 1 = (mkF m 0 #[.val (.int (Int32.ofNat n))] []) := by first | (simp [entryFrame, mkF, argsToLocals, Value.category]; done) | rfl
  rw [hef]
  have hnn : ¬ (Int32.ofNat n < 0) := own_nn (by omega)
  have hlt : Int32.ofNat n < (1073741823 : Int32) := by rw [show (1073741823 : Int32) = Int32.ofNat 1073741823 from rfl, own_nlt (by omega) (by omega)]; omega
  refine Goes.on (T' := s₁) (g' := (mkF m 1 #[.val (.int (Int32.ofNat n))] [(.int (Int32.ofNat n))])) ?_ (fun t_ k_ => XS.iloadN X0.here hx rfl (hb hby d20_0) rfl k_)
  refine Goes.on (T' := s₁) (g' := (mkF m 12 #[.val (.int (Int32.ofNat n))] [])) ?_ (fun t_ k_ => XS.ifYes X0.here hx rfl (pc0 := 1) (pc' := 12) rfl (hb hby d20_1) rfl ((if0 _ _).trans (flt hnn).2.1) (by decide) (by decide) k_)
  refine Goes.on (T' := s₁) (g' := (mkF m 13 #[.val (.int (Int32.ofNat n))] [(.int (Int32.ofNat n))])) ?_ (fun t_ k_ => XS.iloadN X0.here hx rfl (hb hby d20_12) rfl k_)
  refine Goes.on (T' := s₁) (g' := (mkF m 15 #[.val (.int (Int32.ofNat n))] [(.int (1073741823 : Int32)), (.int (Int32.ofNat n))])) ?_ (X0.ldcInt hx hown (mvT hZ (hw _ (List.mem_of_getElem? (i := 83) rfl))) (g := (mkF m 13 #[.val (.int (Int32.ofNat n))] [(.int (Int32.ofNat n))])) rfl (hb hby d20_13))
  refine Goes.on (T' := s₁) (g' := (mkF m 55 #[.val (.int (Int32.ofNat n))] [])) ?_ (fun t_ k_ => XS.icmpYes X0.here hx rfl (pc0 := 15) (pc' := 55) rfl (hb hby d20_15) rfl (tlt hlt).1 (by decide) (by decide) k_)
  refine Goes.on (T' := s₁) (g' := (mkF m 56 #[.val (.int (Int32.ofNat n))] [(.int (Int32.ofNat n))])) ?_ (fun t_ k_ => XS.iloadN X0.here hx rfl (hb hby d20_55) rfl k_)
  refine Goes.on (T' := s₁) (g' := (mkF m 57 #[.val (.int (Int32.ofNat n))] [(.int (1 : Int32)), (.int (Int32.ofNat n))])) ?_ (fun t_ k_ => XS.iconst X0.here hx rfl (hb hby d20_56) k_)
  refine Goes.on (T' := s₁) (g' := (mkF m 58 #[.val (.int (Int32.ofNat n))] [(.int ((Int32.ofNat n) <<< ((1 : Int32) &&& 31)))])) ?_ (fun t_ k_ => XS.ishl X0.here hx rfl (hb hby d20_57) rfl k_)
  rw [own_dbl hn]
  rw [hWd]
  exact Goes.retn X0 (v := some (.int (Int32.ofNat (2 * n)))) (fun fs hr => retI X0 hx Bd.returns (hb hby d20_58) hr) (fun h => by rw [Bd.returns] at h; cases h) Bd.notSynchronized (by decide) (by decide) (by rw [e0]; exact ⟨rfl, N0, rfl⟩)
def QNF (Z : State) (n : Nat) (h0 : Heap) (n0 : Nat) (v : Option Value) (h : Heap) (L : List Loc) : Prop := v = some (.ref h0.size) ∧ Fr n0 L ∧ Ext h0 h ∧ ∃ kb, Arv Z h h0.size kb .byte (Int32.ofNat (2 * n)) (([] : List Int32).map Value.int) (.int 0)
set_option maxRecDepth 65536 in
set_option maxHeartbeats 40000000 in
theorem rmNF (l : Launch) (Z : State) (a0 : Array Value) (hw : ∀ d ∈ tables_1, d.before a0 Z = true) (ws : List Jvm.Cond) (n : Nat) (h0 : Heap) (n0 : Nat) (Z0 : n0 ≤ h0.size) (hn : n ≤ 16) :
    MetFree l (⟨"java/lang/StringUTF16", "newBytesFor", "(I)[B"⟩ : MethodName) (head1 (Jvm.Cond.code (⟨"java/lang/StringUTF16", "newBytesFor", "(I)[B"⟩ : MethodName) jdk_52_method_2_code 1 (some (.array .byte)) :: ws) ({ frames := 1, cells := 1, slots := 32, locals := 12 } : Room)) (fun a_ U => a_ = #[(.int (Int32.ofNat n))] ∧ Z.Warmed39 U.vm ∧ U.heap = h0) (fun _ _ _ _ _ => True) (fun _ U o U' => ∃ v L, o = .returned v ∧ QNF Z n h0 n0 v U'.heap L ∧ FrameEnd U o U' L ({ frames := 1, cells := 1, slots := 32, locals := 12 } : Room).cells ({ frames := 1, cells := 1, slots := 32, locals := 12 } : Room).slots) := by
  refine MetFree.of_bodySF (plainFor_of_name pn_0) hisR ?_
  intro p e s m args below meth c s₁ Bd hml0 hP hK
  obtain ⟨rfl, hZ, hh⟩ := hP
  have hx := Bd.exec
  have hby := Bd.bytes
  have hml : c.maxLocals = 1 := hml0
  have hown : s.vm.findClass "java/lang/StringUTF16" = some m.cls := findClass_of_methodNamed Bd.named
  have hnm := (name_of_methodNamed Bd.named Bd.method).1
  have X0 : Stand p l e ({ frames := 1, cells := 1, slots := 32, locals := 12 } : Room) s m #[(.int (Int32.ofNat n))] below meth c s₁ [] 0 0 := Stand.of_body Bd
  have e0 : s₁.heap = h0 := by rw [← hh, Bd.state]; rfl
  have N0 := Fr.nil n0
  refine Goes.done ?_
  obtain ⟨W, hWd⟩ : ∃ W : State → Prop, W = EndW s below (QNF Z n h0 n0) ({ frames := 1, cells := 1, slots := 32, locals := 12 } : Room).cells ({ frames := 1, cells := 1, slots := 32, locals := 12 } : Room).slots := ⟨_, rfl⟩
  rw [← hWd]
  have hef : entryFrame m #[(.int (Int32.ofNat n))] 1 = (mkF m 0 #[.val (.int (Int32.ofNat n))] []) := by first | (simp [entryFrame, mkF, argsToLocals, Value.category]; done) | rfl
  rw [hef]
  refine Goes.on (T' := s₁) (g' := (mkF m 1 #[.val (.int (Int32.ofNat n))] [(.int (Int32.ofNat n))])) ?_ (fun t_ k_ => XS.iloadN X0.here hx rfl (hb hby d19_0) rfl k_)
  obtain ⟨_, _, ⟨T1, Lq_1, kq_1, nq_1⟩, -, X1, ⟨Lc1, hQ1, l1, y1, z1⟩, st1⟩ := Jvm.LawKit.callS X0 hx (y := (⟨"java/lang/StringUTF16", "newBytesLength", "(I)I"⟩ : MethodName)) hown (mvT hZ (hw _ (List.mem_of_getElem? (i := 80) rfl))) (mvT hZ (hw _ (List.mem_of_getElem? (i := 81) rfl))) (mvT hZ (hw _ (List.mem_of_getElem? (i := 22) rfl))) (mvT hZ (hw _ (List.mem_of_getElem? (i := 82) rfl))) (by decide) (backOf (W := 0) (rmNL l Z a0 hw [] n h0 n0 Z0 hn) hZ (hw _ (List.mem_of_getElem? (i := 82) rfl)) (hw _ (List.mem_of_getElem? (i := 22) rfl)) (by decide) (by decide)) (g := (mkF m 1 #[.val (.int (Int32.ofNat n))] [(.int (Int32.ofNat n))])) rfl (by rw [hml]; rfl) (argsL := [(.int (Int32.ofNat n))]) (rest := []) (lenOf pd_0 rfl) rfl (by show 2 * 0 + _ ≤ _; exact Nat.le_of_eq rfl) (hb hby d19_1) (fun _ _ => ⟨rfl, e0, (by decide : 0 + 0 ≤ _), (by decide : 0 + 0 ≤ _)⟩)
  dsimp only [Pt.U, Pt.locs, Pt.cells, Pt.slots] at X1 l1 y1 z1 st1 hQ1
  rw [l1, y1, z1] at X1
  change Stand p l e _ _ m _ below meth c T1 _ 0 0 at X1
  obtain ⟨rfl, N1q, eh1⟩ := hQ1
  have N1 := Fr.app N0 N1q
  refine Goes.on (T' := T1) (g' := (mkF m 4 #[.val (.int (Int32.ofNat n))] [(.int (Int32.ofNat (2 * n)))])) ?_ st1
  obtain ⟨T2, h2, k2, X2, e2, E2, A2, st2⟩ := newP X1 hx hZ (hw _ (List.mem_of_getElem? (i := 24) rfl)) eh1 (g := (mkF m 4 #[.val (.int (Int32.ofNat n))] [(.int (Int32.ofNat (2 * n)))])) rfl (hb hby d19_4) rfl (own_nn (by omega)) (cap := 32) (by rw [own_clamp (by omega)]; omega) (by decide) (by decide) (by decide)
  obtain ⟨b2, gb2⟩ : ∃ z, z = h0.size := ⟨_, rfl⟩
  rw [← gb2] at A2 st2
  have V2 := Arv.new A2 (own_nn (by omega))
  have Z2 : n0 ≤ h2.size := Nat.le_trans Z0 E2.1
  have g_b2 : n0 ≤ b2 := Nat.le_trans Z0 (Nat.le_of_eq gb2.symm)
  refine Goes.on (T' := T2) (g' := (mkF m 6 #[.val (.int (Int32.ofNat n))] [(.ref b2)])) ?_ st2
  rw [hWd]
  exact Goes.retn X2 (v := some (.ref b2)) (fun fs hr => retA X2 hx Bd.returns rfl rfl (hb hby d19_6) hr) (fun h => by rw [Bd.returns] at h; cases h) Bd.notSynchronized (by decide) (by decide) (by rw [e2]; exact ⟨by rw [gb2], N1, E2, k2, by rw [← gb2]; exact V2⟩)
def QPC (Z : State) (d : Addr) (kd : ClassId) (n i : Nat) (ch : Int32) (bs : List Int32) (h0 : Heap) (n0 : Nat) (v : Option Value) (h : Heap) (L : List Loc) : Prop := v = none ∧ Fr n0 L ∧ Keep h0 h [d] ∧ Arv Z h d kd .byte (Int32.ofNat (2 * n)) ((bs ++ [own_lo ch] ++ [own_hi ch]).map Value.int) (.int 0)
set_option maxRecDepth 65536 in
set_option maxHeartbeats 40000000 in
theorem rmPC (l : Launch) (Z : State) (a0 : Array Value) (hw : ∀ d ∈ tables_1, d.before a0 Z = true) (ws : List Jvm.Cond) (d : Addr) (kd : ClassId) (n i : Nat) (ch : Int32) (bs : List Int32) (h0 : Heap) (n0 : Nat) (Z0 : n0 ≤ h0.size) (B : Arv Z h0 d kd .byte (Int32.ofNat (2 * n)) (bs.map Value.int) (.int 0)) (hbs : bs.length = 2 * i) (hin : i < n) (hn : n ≤ 16) (gd : n0 ≤ d) (AD : Sta Z Z.heap "java/lang/StringUTF16" "$assertionsDisabled" "Z" (.int (1 : Int32))) (HB : Sta Z Z.heap "java/lang/StringUTF16" "HI_BYTE_SHIFT" "I" (.int (0 : Int32))) (LB : Sta Z Z.heap "java/lang/StringUTF16" "LO_BYTE_SHIFT" "I" (.int (8 : Int32))) (X0_ : Old Z n0 h0) :
    MetFree l (⟨"java/lang/StringUTF16", "putChar", "([BII)V"⟩ : MethodName) (head1 (Jvm.Cond.code (⟨"java/lang/StringUTF16", "putChar", "([BII)V"⟩ : MethodName) jdk_52_method_4_code 3 none :: ws) ({ frames := 0, cells := 0, slots := 0, locals := 0 } : Room)) (fun a_ U => a_ = #[(.ref d), (.int (Int32.ofNat i)), (.int ch)] ∧ Z.Warmed39 U.vm ∧ U.heap = h0) (fun _ _ _ _ _ => True) (fun _ U o U' => ∃ v L, o = .returned v ∧ QPC Z d kd n i ch bs h0 n0 v U'.heap L ∧ FrameEnd U o U' L ({ frames := 0, cells := 0, slots := 0, locals := 0 } : Room).cells ({ frames := 0, cells := 0, slots := 0, locals := 0 } : Room).slots) := by
  refine MetFree.of_bodySF (plainFor_of_name pn_0) hisR ?_
  intro p e s m args below meth c s₁ Bd hml0 hP hK
  obtain ⟨rfl, hZ, hh⟩ := hP
  have hx := Bd.exec
  have hby := Bd.bytes
  have hml : c.maxLocals = 3 := hml0
  have hown : s.vm.findClass "java/lang/StringUTF16" = some m.cls := findClass_of_methodNamed Bd.named
  have hnm := (name_of_methodNamed Bd.named Bd.method).1
  have X0 : Stand p l e ({ frames := 0, cells := 0, slots := 0, locals := 0 } : Room) s m #[(.ref d), (.int (Int32.ofNat i)), (.int ch)] below meth c s₁ [] 0 0 := Stand.of_body Bd
  have e0 : s₁.heap = h0 := by rw [← hh, Bd.state]; rfl
  have N0 := Fr.nil n0
  refine Goes.done ?_
  obtain ⟨W, hWd⟩ : ∃ W : State → Prop, W = EndW s below (QPC Z d kd n i ch bs h0 n0) ({ frames := 0, cells := 0, slots := 0, locals := 0 } : Room).cells ({ frames := 0, cells := 0, slots := 0, locals := 0 } : Room).slots := ⟨_, rfl⟩
  rw [← hWd]
  have hef : entryFrame m #[(.ref d), (.int (Int32.ofNat i)), (.int ch)] 3 = (mkF m 0 #[.val (.ref d), .val (.int (Int32.ofNat i)), .val (.int ch)] []) := by first | (simp [entryFrame, mkF, argsToLocals, Value.category]; done) | rfl
  rw [hef]
  have hcl : (Int32.ofNat (2 * i)).toNatClampNeg = 2 * i := own_clamp (by omega)
  have hcl2 : (Int32.ofNat (2 * i + 1)).toNatClampNeg = 2 * i + 1 := own_clamp (by omega)
  have hz : (Int32.ofNat (2 * n)).toNatClampNeg = 2 * n := own_clamp (by omega)
  obtain ⟨T1, X1, e1, st1⟩ := getS2 X0 hx hZ hown (host := "") (Or.inl (hw _ (List.mem_of_getElem? (i := 87) rfl))) Via.refl e0 (AD.ext X0_.2) (g := (mkF m 0 #[.val (.ref d), .val (.int (Int32.ofNat i)), .val (.int ch)] [])) rfl (hb hby d21_0)
  refine Goes.on (T' := T1) (g' := (mkF m 3 #[.val (.ref d), .val (.int (Int32.ofNat i)), .val (.int ch)] [(.int (1 : Int32))])) ?_ st1
  refine Goes.on (T' := T1) (g' := (mkF m 28 #[.val (.ref d), .val (.int (Int32.ofNat i)), .val (.int ch)] [])) ?_ (fun t_ k_ => XS.ifYes X1.here hx rfl (pc0 := 3) (pc' := 28) rfl (hb hby d21_3) rfl (by decide) (by decide) (by decide) k_)
  refine Goes.on (T' := T1) (g' := (mkF m 29 #[.val (.ref d), .val (.int (Int32.ofNat i)), .val (.int ch)] [(.int (Int32.ofNat i))])) ?_ (fun t_ k_ => XS.iloadN X1.here hx rfl (hb hby d21_28) rfl k_)
  refine Goes.on (T' := T1) (g' := (mkF m 30 #[.val (.ref d), .val (.int (Int32.ofNat i)), .val (.int ch)] [(.int (1 : Int32)), (.int (Int32.ofNat i))])) ?_ (fun t_ k_ => XS.iconst X1.here hx rfl (hb hby d21_29) k_)
  refine Goes.on (T' := T1) (g' := (mkF m 31 #[.val (.ref d), .val (.int (Int32.ofNat i)), .val (.int ch)] [(.int ((Int32.ofNat i) <<< ((1 : Int32) &&& 31)))])) ?_ (fun t_ k_ => XS.ishl X1.here hx rfl (hb hby d21_30) rfl k_)
  rw [own_dbl (by omega)]
  refine Goes.on (T' := T1) (g' := (mkF m 32 #[.val (.ref d), .val (.int (Int32.ofNat (2 * i))), .val (.int ch)] [])) ?_ (fun t_ k_ => XS.istoreN X1.here hx rfl (hb hby d21_31) rfl (l' := #[.val (.ref d), .val (.int (Int32.ofNat (2 * i))), .val (.int ch)]) rfl k_)
  refine Goes.on (T' := T1) (g' := (mkF m 33 #[.val (.ref d), .val (.int (Int32.ofNat (2 * i))), .val (.int ch)] [(.ref d)])) ?_ (fun t_ k_ => XS.aloadN X1.here hx rfl (hb hby d21_32) rfl rfl k_)
  refine Goes.on (T' := T1) (g' := (mkF m 34 #[.val (.ref d), .val (.int (Int32.ofNat (2 * i))), .val (.int ch)] [(.int (Int32.ofNat (2 * i))), (.ref d)])) ?_ (fun t_ k_ => XS.iloadN X1.here hx rfl (hb hby d21_33) rfl k_)
  refine Goes.on (T' := T1) (g' := (mkF m 37 #[.val (.ref d), .val (.int ((Int32.ofNat (2 * i)) + (1 : Int32))), .val (.int ch)] [(.int (Int32.ofNat (2 * i))), (.ref d)])) ?_ (fun t_ k_ => XS.iinc X1.here hx rfl (hb hby d21_34) rfl (l' := #[.val (.ref d), .val (.int ((Int32.ofNat (2 * i)) + (1 : Int32))), .val (.int ch)]) rfl k_)
  refine Goes.on (T' := T1) (g' := (mkF m 38 #[.val (.ref d), .val (.int ((Int32.ofNat (2 * i)) + (1 : Int32))), .val (.int ch)] [(.int ch), (.int (Int32.ofNat (2 * i))), (.ref d)])) ?_ (fun t_ k_ => XS.iloadN X1.here hx rfl (hb hby d21_37) rfl k_)
  obtain ⟨T2, X2, e2, st2⟩ := getS2 X1 hx hZ hown (host := "") (Or.inl (hw _ (List.mem_of_getElem? (i := 88) rfl))) Via.refl e1 (HB.ext X0_.2) (g := (mkF m 38 #[.val (.ref d), .val (.int ((Int32.ofNat (2 * i)) + (1 : Int32))), .val (.int ch)] [(.int ch), (.int (Int32.ofNat (2 * i))), (.ref d)])) rfl (hb hby d21_38)
  refine Goes.on (T' := T2) (g' := (mkF m 41 #[.val (.ref d), .val (.int ((Int32.ofNat (2 * i)) + (1 : Int32))), .val (.int ch)] [(.int (0 : Int32)), (.int ch), (.int (Int32.ofNat (2 * i))), (.ref d)])) ?_ st2
  refine Goes.on (T' := T2) (g' := (mkF m 42 #[.val (.ref d), .val (.int ((Int32.ofNat (2 * i)) + (1 : Int32))), .val (.int ch)] [(.int (ch >>> ((0 : Int32) &&& 31))), (.int (Int32.ofNat (2 * i))), (.ref d)])) ?_ (fun t_ k_ => XS.ishr X2.here hx rfl (hb hby d21_41) rfl k_)
  refine Goes.on (T' := T2) (g' := (mkF m 43 #[.val (.ref d), .val (.int ((Int32.ofNat (2 * i)) + (1 : Int32))), .val (.int ch)] [(.int ((ch >>> ((0 : Int32) &&& 31)).toInt8.toInt32)), (.int (Int32.ofNat (2 * i))), (.ref d)])) ?_ (fun t_ k_ => XS.i2b X2.here hx rfl (hb hby d21_42) rfl k_)
  obtain ⟨c1, A1, -, S1, M1, H1, -⟩ := id B
  have in1 : ¬ (Int32.ofNat (2 * i) < 0 ∨ c1.slots.size ≤ (Int32.ofNat (2 * i)).toNatClampNeg) := by rw [hcl, S1, hz]; intro q; rcases q with q | q; exact own_nn (by omega) q; omega
  obtain ⟨T3, h3, X3, e3, W3, st3⟩ := stB X2 hx hZ e2 A1 (j := (Int32.ofNat (2 * i))) in1 (g := (mkF m 43 #[.val (.ref d), .val (.int ((Int32.ofNat (2 * i)) + (1 : Int32))), .val (.int ch)] [(.int ((ch >>> ((0 : Int32) &&& 31)).toInt8.toInt32)), (.int (Int32.ofNat (2 * i))), (.ref d)])) rfl rfl (hb hby d21_43)
  have N3 := Fr.snoc X3 N0 gd
  have Z3 : n0 ≤ h3.size := Nat.le_trans Z0 (Nat.le_of_eq W3.size.symm)
  refine Goes.on (T' := T3) (g' := (mkF m 44 #[.val (.ref d), .val (.int ((Int32.ofNat (2 * i)) + (1 : Int32))), .val (.int ch)] [])) ?_ st3
  have B1 := own_pushB B (j := 2 * i) (v := ch) hbs.symm (by have q := W3; rw [hcl] at q; have e2 : nar .byte (ch >>> ((0 : Int32) &&& 31)).toInt8.toInt32 = own_lo ch := (by rw [own_shr0]; exact own_lolo _); rw [e2] at q; exact q)
  have KP1 := (Keep.refl h0 [d]).wr W3 (Or.inl (List.mem_cons_self ..))
  have X1_ := X0_.wr W3 gd
  rw [own_succ]
  refine Goes.on (T' := T3) (g' := (mkF m 45 #[.val (.ref d), .val (.int (Int32.ofNat (2 * i + 1))), .val (.int ch)] [(.ref d)])) ?_ (fun t_ k_ => XS.aloadN X3.here hx rfl (hb hby d21_44) rfl rfl k_)
  refine Goes.on (T' := T3) (g' := (mkF m 46 #[.val (.ref d), .val (.int (Int32.ofNat (2 * i + 1))), .val (.int ch)] [(.int (Int32.ofNat (2 * i + 1))), (.ref d)])) ?_ (fun t_ k_ => XS.iloadN X3.here hx rfl (hb hby d21_45) rfl k_)
  refine Goes.on (T' := T3) (g' := (mkF m 47 #[.val (.ref d), .val (.int (Int32.ofNat (2 * i + 1))), .val (.int ch)] [(.int ch), (.int (Int32.ofNat (2 * i + 1))), (.ref d)])) ?_ (fun t_ k_ => XS.iloadN X3.here hx rfl (hb hby d21_46) rfl k_)
  obtain ⟨T4, X4, e4, st4⟩ := getS2 X3 hx hZ hown (host := "") (Or.inl (hw _ (List.mem_of_getElem? (i := 89) rfl))) Via.refl e3 (LB.ext X1_.2) (g := (mkF m 47 #[.val (.ref d), .val (.int (Int32.ofNat (2 * i + 1))), .val (.int ch)] [(.int ch), (.int (Int32.ofNat (2 * i + 1))), (.ref d)])) rfl (hb hby d21_47)
  refine Goes.on (T' := T4) (g' := (mkF m 50 #[.val (.ref d), .val (.int (Int32.ofNat (2 * i + 1))), .val (.int ch)] [(.int (8 : Int32)), (.int ch), (.int (Int32.ofNat (2 * i + 1))), (.ref d)])) ?_ st4
  refine Goes.on (T' := T4) (g' := (mkF m 51 #[.val (.ref d), .val (.int (Int32.ofNat (2 * i + 1))), .val (.int ch)] [(.int (ch >>> ((8 : Int32) &&& 31))), (.int (Int32.ofNat (2 * i + 1))), (.ref d)])) ?_ (fun t_ k_ => XS.ishr X4.here hx rfl (hb hby d21_50) rfl k_)
  refine Goes.on (T' := T4) (g' := (mkF m 52 #[.val (.ref d), .val (.int (Int32.ofNat (2 * i + 1))), .val (.int ch)] [(.int ((ch >>> ((8 : Int32) &&& 31)).toInt8.toInt32)), (.int (Int32.ofNat (2 * i + 1))), (.ref d)])) ?_ (fun t_ k_ => XS.i2b X4.here hx rfl (hb hby d21_51) rfl k_)
  obtain ⟨c2, A2, -, S2, M2, H2, -⟩ := id B1
  have in2 : ¬ (Int32.ofNat (2 * i + 1) < 0 ∨ c2.slots.size ≤ (Int32.ofNat (2 * i + 1)).toNatClampNeg) := by rw [hcl2, S2, hz]; intro q; rcases q with q | q; exact own_nn (by omega) q; omega
  obtain ⟨T5, h5, X5, e5, W5, st5⟩ := stB X4 hx hZ e4 A2 (j := (Int32.ofNat (2 * i + 1))) in2 (g := (mkF m 52 #[.val (.ref d), .val (.int (Int32.ofNat (2 * i + 1))), .val (.int ch)] [(.int ((ch >>> ((8 : Int32) &&& 31)).toInt8.toInt32)), (.int (Int32.ofNat (2 * i + 1))), (.ref d)])) rfl rfl (hb hby d21_52)
  have N5 := Fr.snoc X5 N3 gd
  have Z5 : n0 ≤ h5.size := Nat.le_trans Z3 (Nat.le_of_eq W5.size.symm)
  refine Goes.on (T' := T5) (g' := (mkF m 53 #[.val (.ref d), .val (.int (Int32.ofNat (2 * i + 1))), .val (.int ch)] [])) ?_ st5
  have B2 := own_pushB B1 (j := 2 * i + 1) (v := ch >>> ((8 : Int32) &&& 31)) (by simp; omega) (by have q := W5; rw [hcl2] at q; have e2 : nar .byte (ch >>> ((8 : Int32) &&& 31)).toInt8.toInt32 = own_lo (ch >>> ((8 : Int32) &&& 31)) := own_lolo _; rw [e2] at q; exact q)
  have KP2 := KP1.wr W5 (Or.inl (List.mem_cons_self ..))
  rw [hWd]
  exact Goes.retn X5 (v := none) (fun fs hr => X5.returnOut hx Bd.returns (hb hby d21_53) hr) (fun _ => rfl) Bd.notSynchronized (by decide) (by decide) (by rw [e5]; exact ⟨rfl, N5, KP2, B2⟩)
def QGC (Z : State) (d : Addr) (kd : ClassId) (n i : Nat) (bs : List Int32) (h0 : Heap) (n0 : Nat) (v : Option Value) (h : Heap) (L : List Loc) : Prop := v = some (.int (nar .char (own_pair (bs.getD (2 * i) 0) (bs.getD (2 * i + 1) 0)))) ∧ Fr n0 L ∧ h = h0
set_option maxRecDepth 65536 in
set_option maxHeartbeats 40000000 in
theorem rmGC (l : Launch) (Z : State) (a0 : Array Value) (hw : ∀ d ∈ tables_1, d.before a0 Z = true) (ws : List Jvm.Cond) (d : Addr) (kd : ClassId) (n i : Nat) (bs : List Int32) (h0 : Heap) (n0 : Nat) (Z0 : n0 ≤ h0.size) (B : Arv Z h0 d kd .byte (Int32.ofNat (2 * n)) (bs.map Value.int) (.int 0)) (hin : i < n) (hn : n ≤ 16) (AD : Sta Z Z.heap "java/lang/StringUTF16" "$assertionsDisabled" "Z" (.int (1 : Int32))) (HB : Sta Z Z.heap "java/lang/StringUTF16" "HI_BYTE_SHIFT" "I" (.int (0 : Int32))) (LB : Sta Z Z.heap "java/lang/StringUTF16" "LO_BYTE_SHIFT" "I" (.int (8 : Int32))) (X0_ : Old Z n0 h0) :
    MetFree l (⟨"java/lang/StringUTF16", "getChar", "([BI)C"⟩ : MethodName) (head1 (Jvm.Cond.code (⟨"java/lang/StringUTF16", "getChar", "([BI)C"⟩ : MethodName) jdk_52_method_5_code 2 (some .char) :: ws) ({ frames := 0, cells := 0, slots := 0, locals := 0 } : Room)) (fun a_ U => a_ = #[(.ref d), (.int (Int32.ofNat i))] ∧ Z.Warmed39 U.vm ∧ U.heap = h0) (fun _ _ _ _ _ => True) (fun _ U o U' => ∃ v L, o = .returned v ∧ QGC Z d kd n i bs h0 n0 v U'.heap L ∧ FrameEnd U o U' L ({ frames := 0, cells := 0, slots := 0, locals := 0 } : Room).cells ({ frames := 0, cells := 0, slots := 0, locals := 0 } : Room).slots) := by
  refine MetFree.of_bodySF (plainFor_of_name pn_0) hisR ?_
  intro p e s m args below meth c s₁ Bd hml0 hP hK
  obtain ⟨rfl, hZ, hh⟩ := hP
  have hx := Bd.exec
  have hby := Bd.bytes
  have hml : c.maxLocals = 2 := hml0
  have hown : s.vm.findClass "java/lang/StringUTF16" = some m.cls := findClass_of_methodNamed Bd.named
  have hnm := (name_of_methodNamed Bd.named Bd.method).1
  have X0 : Stand p l e ({ frames := 0, cells := 0, slots := 0, locals := 0 } : Room) s m #[(.ref d), (.int (Int32.ofNat i))] below meth c s₁ [] 0 0 := Stand.of_body Bd
  have e0 : s₁.heap = h0 := by rw [← hh, Bd.state]; rfl
  have N0 := Fr.nil n0
  refine Goes.done ?_
  obtain ⟨W, hWd⟩ : ∃ W : State → Prop, W = EndW s below (QGC Z d kd n i bs h0 n0) ({ frames := 0, cells := 0, slots := 0, locals := 0 } : Room).cells ({ frames := 0, cells := 0, slots := 0, locals := 0 } : Room).slots := ⟨_, rfl⟩
  rw [← hWd]
  have hef : entryFrame m #[(.ref d), (.int (Int32.ofNat i))] 2 = (mkF m 0 #[.val (.ref d), .val (.int (Int32.ofNat i))] []) := by first | (simp [entryFrame, mkF, argsToLocals, Value.category]; done) | rfl
  rw [hef]
  have hcl : (Int32.ofNat (2 * i)).toNatClampNeg = 2 * i := own_clamp (by omega)
  have hcl2 : (Int32.ofNat (2 * i + 1)).toNatClampNeg = 2 * i + 1 := own_clamp (by omega)
  have hz : (Int32.ofNat (2 * n)).toNatClampNeg = 2 * n := own_clamp (by omega)
  obtain ⟨c1, A1, -, S1, M1, H1, -⟩ := id B
  have in1 : ¬ (Int32.ofNat (2 * i) < 0 ∨ c1.slots.size ≤ (Int32.ofNat (2 * i)).toNatClampNeg) := by rw [hcl, S1, hz]; intro q; rcases q with q | q; exact own_nn (by omega) q; omega
  have in2 : ¬ (Int32.ofNat (2 * i + 1) < 0 ∨ c1.slots.size ≤ (Int32.ofNat (2 * i + 1)).toNatClampNeg) := by rw [hcl2, S1, hz]; intro q; rcases q with q | q; exact own_nn (by omega) q; omega
  have at1 : c1.slots[(Int32.ofNat (2 * i)).toNatClampNeg]? = some (.int (bs.getD (2 * i) 0)) := by rw [hcl, H1 _ (by omega), own_bget]
  have at2 : c1.slots[(Int32.ofNat (2 * i + 1)).toNatClampNeg]? = some (.int (bs.getD (2 * i + 1) 0)) := by rw [hcl2, H1 _ (by omega), own_bget]
  obtain ⟨T1, X1, e1, st1⟩ := getS2 X0 hx hZ hown (host := "") (Or.inl (hw _ (List.mem_of_getElem? (i := 87) rfl))) Via.refl e0 (AD.ext X0_.2) (g := (mkF m 0 #[.val (.ref d), .val (.int (Int32.ofNat i))] [])) rfl (hb hby d22_0)
  refine Goes.on (T' := T1) (g' := (mkF m 3 #[.val (.ref d), .val (.int (Int32.ofNat i))] [(.int (1 : Int32))])) ?_ st1
  refine Goes.on (T' := T1) (g' := (mkF m 28 #[.val (.ref d), .val (.int (Int32.ofNat i))] [])) ?_ (fun t_ k_ => XS.ifYes X1.here hx rfl (pc0 := 3) (pc' := 28) rfl (hb hby d22_3) rfl (by decide) (by decide) (by decide) k_)
  refine Goes.on (T' := T1) (g' := (mkF m 29 #[.val (.ref d), .val (.int (Int32.ofNat i))] [(.int (Int32.ofNat i))])) ?_ (fun t_ k_ => XS.iloadN X1.here hx rfl (hb hby d22_28) rfl k_)
  refine Goes.on (T' := T1) (g' := (mkF m 30 #[.val (.ref d), .val (.int (Int32.ofNat i))] [(.int (1 : Int32)), (.int (Int32.ofNat i))])) ?_ (fun t_ k_ => XS.iconst X1.here hx rfl (hb hby d22_29) k_)
  refine Goes.on (T' := T1) (g' := (mkF m 31 #[.val (.ref d), .val (.int (Int32.ofNat i))] [(.int ((Int32.ofNat i) <<< ((1 : Int32) &&& 31)))])) ?_ (fun t_ k_ => XS.ishl X1.here hx rfl (hb hby d22_30) rfl k_)
  rw [own_dbl (by omega)]
  refine Goes.on (T' := T1) (g' := (mkF m 32 #[.val (.ref d), .val (.int (Int32.ofNat (2 * i)))] [])) ?_ (fun t_ k_ => XS.istoreN X1.here hx rfl (hb hby d22_31) rfl (l' := #[.val (.ref d), .val (.int (Int32.ofNat (2 * i)))]) rfl k_)
  refine Goes.on (T' := T1) (g' := (mkF m 33 #[.val (.ref d), .val (.int (Int32.ofNat (2 * i)))] [(.ref d)])) ?_ (fun t_ k_ => XS.aloadN X1.here hx rfl (hb hby d22_32) rfl rfl k_)
  refine Goes.on (T' := T1) (g' := (mkF m 34 #[.val (.ref d), .val (.int (Int32.ofNat (2 * i)))] [(.int (Int32.ofNat (2 * i))), (.ref d)])) ?_ (fun t_ k_ => XS.iloadN X1.here hx rfl (hb hby d22_33) rfl k_)
  refine Goes.on (T' := T1) (g' := (mkF m 37 #[.val (.ref d), .val (.int ((Int32.ofNat (2 * i)) + (1 : Int32)))] [(.int (Int32.ofNat (2 * i))), (.ref d)])) ?_ (fun t_ k_ => XS.iinc X1.here hx rfl (hb hby d22_34) rfl (l' := #[.val (.ref d), .val (.int ((Int32.ofNat (2 * i)) + (1 : Int32)))]) rfl k_)
  refine Goes.on (T' := T1) (g' := (mkF m 38 #[.val (.ref d), .val (.int ((Int32.ofNat (2 * i)) + (1 : Int32)))] [(.int (bs.getD (2 * i) 0))])) ?_ (X1.baloadBytes hx (j := (Int32.ofNat (2 * i))) (v := (.int (bs.getD (2 * i) 0))) (by rw [e1]; exact A1.1) (State.isArrayOf_alike hZ.alike A1.2.1) A1.2.2 in1 at1 (g := (mkF m 37 #[.val (.ref d), .val (.int ((Int32.ofNat (2 * i)) + (1 : Int32)))] [(.int (Int32.ofNat (2 * i))), (.ref d)])) rfl rfl (hb hby d22_37))
  refine Goes.on (T' := T1) (g' := (mkF m 41 #[.val (.ref d), .val (.int ((Int32.ofNat (2 * i)) + (1 : Int32)))] [(.int (255 : Int32)), (.int (bs.getD (2 * i) 0))])) ?_ (fun t_ k_ => XS.sipush X1.here hx rfl (hb hby d22_38) k_)
  refine Goes.on (T' := T1) (g' := (mkF m 42 #[.val (.ref d), .val (.int ((Int32.ofNat (2 * i)) + (1 : Int32)))] [(.int ((bs.getD (2 * i) 0) &&& (255 : Int32)))])) ?_ (fun t_ k_ => XS.iand X1.here hx rfl (hb hby d22_41) rfl k_)
  obtain ⟨T2, X2, e2, st2⟩ := getS2 X1 hx hZ hown (host := "") (Or.inl (hw _ (List.mem_of_getElem? (i := 88) rfl))) Via.refl e1 (HB.ext X0_.2) (g := (mkF m 42 #[.val (.ref d), .val (.int ((Int32.ofNat (2 * i)) + (1 : Int32)))] [(.int ((bs.getD (2 * i) 0) &&& (255 : Int32)))])) rfl (hb hby d22_42)
  refine Goes.on (T' := T2) (g' := (mkF m 45 #[.val (.ref d), .val (.int ((Int32.ofNat (2 * i)) + (1 : Int32)))] [(.int (0 : Int32)), (.int ((bs.getD (2 * i) 0) &&& (255 : Int32)))])) ?_ st2
  refine Goes.on (T' := T2) (g' := (mkF m 46 #[.val (.ref d), .val (.int ((Int32.ofNat (2 * i)) + (1 : Int32)))] [(.int (((bs.getD (2 * i) 0) &&& (255 : Int32)) <<< ((0 : Int32) &&& 31)))])) ?_ (fun t_ k_ => XS.ishl X2.here hx rfl (hb hby d22_45) rfl k_)
  refine Goes.on (T' := T2) (g' := (mkF m 47 #[.val (.ref d), .val (.int ((Int32.ofNat (2 * i)) + (1 : Int32)))] [(.ref d), (.int (((bs.getD (2 * i) 0) &&& (255 : Int32)) <<< ((0 : Int32) &&& 31)))])) ?_ (fun t_ k_ => XS.aloadN X2.here hx rfl (hb hby d22_46) rfl rfl k_)
  refine Goes.on (T' := T2) (g' := (mkF m 48 #[.val (.ref d), .val (.int ((Int32.ofNat (2 * i)) + (1 : Int32)))] [(.int ((Int32.ofNat (2 * i)) + (1 : Int32))), (.ref d), (.int (((bs.getD (2 * i) 0) &&& (255 : Int32)) <<< ((0 : Int32) &&& 31)))])) ?_ (fun t_ k_ => XS.iloadN X2.here hx rfl (hb hby d22_47) rfl k_)
  rw [own_succ]
  refine Goes.on (T' := T2) (g' := (mkF m 49 #[.val (.ref d), .val (.int (Int32.ofNat (2 * i + 1)))] [(.int (bs.getD (2 * i + 1) 0)), (.int (((bs.getD (2 * i) 0) &&& (255 : Int32)) <<< ((0 : Int32) &&& 31)))])) ?_ (X2.baloadBytes hx (j := (Int32.ofNat (2 * i + 1))) (v := (.int (bs.getD (2 * i + 1) 0))) (by rw [e2]; exact A1.1) (State.isArrayOf_alike hZ.alike A1.2.1) A1.2.2 in2 at2 (g := (mkF m 48 #[.val (.ref d), .val (.int (Int32.ofNat (2 * i + 1)))] [(.int (Int32.ofNat (2 * i + 1))), (.ref d), (.int (((bs.getD (2 * i) 0) &&& (255 : Int32)) <<< ((0 : Int32) &&& 31)))])) rfl rfl (hb hby d22_48))
  refine Goes.on (T' := T2) (g' := (mkF m 52 #[.val (.ref d), .val (.int (Int32.ofNat (2 * i + 1)))] [(.int (255 : Int32)), (.int (bs.getD (2 * i + 1) 0)), (.int (((bs.getD (2 * i) 0) &&& (255 : Int32)) <<< ((0 : Int32) &&& 31)))])) ?_ (fun t_ k_ => XS.sipush X2.here hx rfl (hb hby d22_49) k_)
  refine Goes.on (T' := T2) (g' := (mkF m 53 #[.val (.ref d), .val (.int (Int32.ofNat (2 * i + 1)))] [(.int ((bs.getD (2 * i + 1) 0) &&& (255 : Int32))), (.int (((bs.getD (2 * i) 0) &&& (255 : Int32)) <<< ((0 : Int32) &&& 31)))])) ?_ (fun t_ k_ => XS.iand X2.here hx rfl (hb hby d22_52) rfl k_)
  obtain ⟨T3, X3, e3, st3⟩ := getS2 X2 hx hZ hown (host := "") (Or.inl (hw _ (List.mem_of_getElem? (i := 89) rfl))) Via.refl e2 (LB.ext X0_.2) (g := (mkF m 53 #[.val (.ref d), .val (.int (Int32.ofNat (2 * i + 1)))] [(.int ((bs.getD (2 * i + 1) 0) &&& (255 : Int32))), (.int (((bs.getD (2 * i) 0) &&& (255 : Int32)) <<< ((0 : Int32) &&& 31)))])) rfl (hb hby d22_53)
  refine Goes.on (T' := T3) (g' := (mkF m 56 #[.val (.ref d), .val (.int (Int32.ofNat (2 * i + 1)))] [(.int (8 : Int32)), (.int ((bs.getD (2 * i + 1) 0) &&& (255 : Int32))), (.int (((bs.getD (2 * i) 0) &&& (255 : Int32)) <<< ((0 : Int32) &&& 31)))])) ?_ st3
  refine Goes.on (T' := T3) (g' := (mkF m 57 #[.val (.ref d), .val (.int (Int32.ofNat (2 * i + 1)))] [(.int (((bs.getD (2 * i + 1) 0) &&& (255 : Int32)) <<< ((8 : Int32) &&& 31))), (.int (((bs.getD (2 * i) 0) &&& (255 : Int32)) <<< ((0 : Int32) &&& 31)))])) ?_ (fun t_ k_ => XS.ishl X3.here hx rfl (hb hby d22_56) rfl k_)
  refine Goes.on (T' := T3) (g' := (mkF m 58 #[.val (.ref d), .val (.int (Int32.ofNat (2 * i + 1)))] [(.int ((((bs.getD (2 * i) 0) &&& (255 : Int32)) <<< ((0 : Int32) &&& 31)) ||| (((bs.getD (2 * i + 1) 0) &&& (255 : Int32)) <<< ((8 : Int32) &&& 31))))])) ?_ (fun t_ k_ => XS.ior X3.here hx rfl (hb hby d22_57) rfl k_)
  refine Goes.on (T' := T3) (g' := (mkF m 59 #[.val (.ref d), .val (.int (Int32.ofNat (2 * i + 1)))] [(.int (((((bs.getD (2 * i) 0) &&& (255 : Int32)) <<< ((0 : Int32) &&& 31)) ||| (((bs.getD (2 * i + 1) 0) &&& (255 : Int32)) <<< ((8 : Int32) &&& 31))).toUInt32.toUInt16.toUInt32.toInt32))])) ?_ (fun t_ k_ => XS.i2c X3.here hx rfl (hb hby d22_58) rfl k_)
  rw [hWd]
  exact Goes.retn X3 (v := some (.int (nar .char (((((bs.getD (2 * i) 0) &&& (255 : Int32)) <<< ((0 : Int32) &&& 31)) ||| (((bs.getD (2 * i + 1) 0) &&& (255 : Int32)) <<< ((8 : Int32) &&& 31))).toUInt32.toUInt16.toUInt32.toInt32)))) (fun fs hr => retN X3 hx (t := .char) Bd.returns (by simp) (hb hby d22_59) hr) (fun h => by rw [Bd.returns] at h; cases h) Bd.notSynchronized (by decide) (by decide) (by rw [e3]; exact ⟨rfl, N0, rfl⟩)
def QUL (Z : State) (d : Addr) (kd : ClassId) (n : Nat) (bs : List Int32) (h0 : Heap) (n0 : Nat) (v : Option Value) (h : Heap) (L : List Loc) : Prop := v = some (.int (Int32.ofNat n)) ∧ Fr n0 L ∧ h = h0
set_option maxRecDepth 65536 in
set_option maxHeartbeats 40000000 in
theorem rmUL (l : Launch) (Z : State) (a0 : Array Value) (hw : ∀ d ∈ tables_1, d.before a0 Z = true) (ws : List Jvm.Cond) (d : Addr) (kd : ClassId) (n : Nat) (bs : List Int32) (h0 : Heap) (n0 : Nat) (Z0 : n0 ≤ h0.size) (B : Arv Z h0 d kd .byte (Int32.ofNat (2 * n)) (bs.map Value.int) (.int 0)) (hn : n ≤ 16) :
    MetFree l (⟨"java/lang/StringUTF16", "length", "([B)I"⟩ : MethodName) (head1 (Jvm.Cond.code (⟨"java/lang/StringUTF16", "length", "([B)I"⟩ : MethodName) jdk_52_method_6_code 1 (some .int) :: ws) ({ frames := 0, cells := 0, slots := 0, locals := 0 } : Room)) (fun a_ U => a_ = #[(.ref d)] ∧ Z.Warmed39 U.vm ∧ U.heap = h0) (fun _ _ _ _ _ => True) (fun _ U o U' => ∃ v L, o = .returned v ∧ QUL Z d kd n bs h0 n0 v U'.heap L ∧ FrameEnd U o U' L ({ frames := 0, cells := 0, slots := 0, locals := 0 } : Room).cells ({ frames := 0, cells := 0, slots := 0, locals := 0 } : Room).slots) := by
  refine MetFree.of_bodySF (plainFor_of_name pn_0) hisR ?_
  intro p e s m args below meth c s₁ Bd hml0 hP hK
  obtain ⟨rfl, hZ, hh⟩ := hP
  have hx := Bd.exec
  have hby := Bd.bytes
  have hml : c.maxLocals = 1 := hml0
  have hown : s.vm.findClass "java/lang/StringUTF16" = some m.cls := findClass_of_methodNamed Bd.named
  have hnm := (name_of_methodNamed Bd.named Bd.method).1
  have X0 : Stand p l e ({ frames := 0, cells := 0, slots := 0, locals := 0 } : Room) s m #[(.ref d)] below meth c s₁ [] 0 0 := Stand.of_body Bd
  have e0 : s₁.heap = h0 := by rw [← hh, Bd.state]; rfl
  have N0 := Fr.nil n0
  refine Goes.done ?_
  obtain ⟨W, hWd⟩ : ∃ W : State → Prop, W = EndW s below (QUL Z d kd n bs h0 n0) ({ frames := 0, cells := 0, slots := 0, locals := 0 } : Room).cells ({ frames := 0, cells := 0, slots := 0, locals := 0 } : Room).slots := ⟨_, rfl⟩
  rw [← hWd]
  have hef : entryFrame m #[(.ref d)] 1 = (mkF m 0 #[.val (.ref d)] []) := by first | (simp [entryFrame, mkF, argsToLocals, Value.category]; done) | rfl
  rw [hef]
  obtain ⟨c1, A1, -, S1, M1, H1, -⟩ := id B
  refine Goes.on (T' := s₁) (g' := (mkF m 1 #[.val (.ref d)] [(.ref d)])) ?_ (fun t_ k_ => XS.aloadN X0.here hx rfl (hb hby d25_0) rfl rfl k_)
  refine Goes.on (T' := s₁) (g' := (mkF m 2 #[.val (.ref d)] [(.int c1.slots.size.toInt32)])) ?_ (X0.arraylength hx (by rw [e0]; exact A1.1) (State.isArrayOf_alike hZ.alike A1.2.1) (g := (mkF m 1 #[.val (.ref d)] [(.ref d)])) rfl rfl (hb hby d25_1))
  rw [len_of S1 M1]
  refine Goes.on (T' := s₁) (g' := (mkF m 3 #[.val (.ref d)] [(.int (1 : Int32)), (.int (Int32.ofNat (2 * n)))])) ?_ (fun t_ k_ => XS.iconst X0.here hx rfl (hb hby d25_2) k_)
  refine Goes.on (T' := s₁) (g' := (mkF m 4 #[.val (.ref d)] [(.int ((Int32.ofNat (2 * n)) >>> ((1 : Int32) &&& 31)))])) ?_ (fun t_ k_ => XS.ishr X0.here hx rfl (hb hby d25_3) rfl k_)
  rw [own_hlf hn]
  rw [hWd]
  exact Goes.retn X0 (v := some (.int (Int32.ofNat n))) (fun fs hr => retI X0 hx Bd.returns (hb hby d25_4) hr) (fun h => by rw [Bd.returns] at h; cases h) Bd.notSynchronized (by decide) (by decide) (by rw [e0]; exact ⟨rfl, N0, rfl⟩)
def QCL (Z : State) (d : Addr) (kd : ClassId) (y z : Int32) (vs : List Value) (h0 : Heap) (n0 : Nat) (v : Option Value) (h : Heap) (L : List Loc) : Prop := v = some (.int (own_cdr y z)) ∧ Fr n0 L ∧ h = h0
set_option maxRecDepth 65536 in
set_option maxHeartbeats 40000000 in
theorem rmCL (l : Launch) (Z : State) (a0 : Array Value) (hw : ∀ d ∈ tables_1, d.before a0 Z = true) (ws : List Jvm.Cond) (d : Addr) (kd : ClassId) (y z : Int32) (vs : List Value) (h0 : Heap) (n0 : Nat) (Z0 : n0 ≤ h0.size) (B : Arv Z h0 d kd .byte z vs (.int 0)) :
    MetFree l (⟨"java/lang/StringUTF16", "coderFromArrayLen", "([BI)B"⟩ : MethodName) (head1 (Jvm.Cond.code (⟨"java/lang/StringUTF16", "coderFromArrayLen", "([BI)B"⟩ : MethodName) jdk_52_method_15_code 2 (some .byte) :: ws) ({ frames := 0, cells := 0, slots := 0, locals := 0 } : Room)) (fun a_ U => a_ = #[(.ref d), (.int y)] ∧ Z.Warmed39 U.vm ∧ U.heap = h0) (fun _ _ _ _ _ => True) (fun _ U o U' => ∃ v L, o = .returned v ∧ QCL Z d kd y z vs h0 n0 v U'.heap L ∧ FrameEnd U o U' L ({ frames := 0, cells := 0, slots := 0, locals := 0 } : Room).cells ({ frames := 0, cells := 0, slots := 0, locals := 0 } : Room).slots) := by
  refine MetFree.of_bodySF (plainFor_of_name pn_0) hisR ?_
  intro p e s m args below meth c s₁ Bd hml0 hP hK
  obtain ⟨rfl, hZ, hh⟩ := hP
  have hx := Bd.exec
  have hby := Bd.bytes
  have hml : c.maxLocals = 2 := hml0
  have hown : s.vm.findClass "java/lang/StringUTF16" = some m.cls := findClass_of_methodNamed Bd.named
  have hnm := (name_of_methodNamed Bd.named Bd.method).1
  have X0 : Stand p l e ({ frames := 0, cells := 0, slots := 0, locals := 0 } : Room) s m #[(.ref d), (.int y)] below meth c s₁ [] 0 0 := Stand.of_body Bd
  have e0 : s₁.heap = h0 := by rw [← hh, Bd.state]; rfl
  have N0 := Fr.nil n0
  refine Goes.done ?_
  obtain ⟨W, hWd⟩ : ∃ W : State → Prop, W = EndW s below (QCL Z d kd y z vs h0 n0) ({ frames := 0, cells := 0, slots := 0, locals := 0 } : Room).cells ({ frames := 0, cells := 0, slots := 0, locals := 0 } : Room).slots := ⟨_, rfl⟩
  rw [← hWd]
  have hef : entryFrame m #[(.ref d), (.int y)] 2 = (mkF m 0 #[.val (.ref d), .val (.int y)] []) := by first | (simp [entryFrame, mkF, argsToLocals, Value.category]; done) | rfl
  rw [hef]
  obtain ⟨c1, A1, -, S1, M1, H1, -⟩ := id B
  refine Goes.on (T' := s₁) (g' := (mkF m 1 #[.val (.ref d), .val (.int y)] [(.int y)])) ?_ (fun t_ k_ => XS.iloadN X0.here hx rfl (hb hby d7_0) rfl k_)
  refine Goes.on (T' := s₁) (g' := (mkF m 2 #[.val (.ref d), .val (.int y)] [(.ref d), (.int y)])) ?_ (fun t_ k_ => XS.aloadN X0.here hx rfl (hb hby d7_1) rfl rfl k_)
  refine Goes.on (T' := s₁) (g' := (mkF m 3 #[.val (.ref d), .val (.int y)] [(.int c1.slots.size.toInt32), (.int y)])) ?_ (X0.arraylength hx (by rw [e0]; exact A1.1) (State.isArrayOf_alike hZ.alike A1.2.1) (g := (mkF m 2 #[.val (.ref d), .val (.int y)] [(.ref d), (.int y)])) rfl rfl (hb hby d7_2))
  rw [len_of S1 M1]
  refine Goes.on (T' := s₁) (g' := (mkF m 4 #[.val (.ref d), .val (.int y)] [(.int (y - z))])) ?_ (fun t_ k_ => XS.isub X0.here hx rfl (hb hby d7_3) rfl k_)
  refine Goes.on (T' := s₁) (g' := (mkF m 6 #[.val (.ref d), .val (.int y)] [(.int (31 : Int32)), (.int (y - z))])) ?_ (fun t_ k_ => XS.bipush X0.here hx rfl (hb hby d7_4) k_)
  refine Goes.on (T' := s₁) (g' := (mkF m 7 #[.val (.ref d), .val (.int y)] [(.int (((y - z).toUInt32 >>> ((31 : Int32) &&& 31).toUInt32).toInt32))])) ?_ (fun t_ k_ => XS.iushr X0.here hx rfl (hb hby d7_6) rfl k_)
  refine Goes.on (T' := s₁) (g' := (mkF m 8 #[.val (.ref d), .val (.int y)] [(.int ((((y - z).toUInt32 >>> ((31 : Int32) &&& 31).toUInt32).toInt32).toInt8.toInt32))])) ?_ (fun t_ k_ => XS.i2b X0.here hx rfl (hb hby d7_7) rfl k_)
  rw [hWd]
  exact Goes.retn X0 (v := some (.int (nar .byte ((((y - z).toUInt32 >>> ((31 : Int32) &&& 31).toUInt32).toInt32).toInt8.toInt32)))) (fun fs hr => retN X0 hx (t := .byte) Bd.returns (by simp) (hb hby d7_8) hr) (fun h => by rw [Bd.returns] at h; cases h) Bd.notSynchronized (by decide) (by decide) (by rw [e0]; exact ⟨rfl, N0, rfl⟩)
def QTB (Z : State) (a : Addr) (ka : ClassId) (cs : List Int32) (h0 : Heap) (n0 : Nat) (v : Option Value) (h : Heap) (L : List Loc) : Prop := ∃ b kb, v = some (.ref b) ∧ Fr n0 L ∧ Keep h0 h [] ∧ h0.size ≤ b ∧ Arv Z h b kb .byte (Int32.ofNat (2 * cs.length)) ((own_u16 cs).map Value.int) (.int 0)
set_option maxRecDepth 65536 in
set_option maxHeartbeats 40000000 in
theorem rmTB (l : Launch) (Z : State) (a0 : Array Value) (hw : ∀ d ∈ tables_1, d.before a0 Z = true) (ws : List Jvm.Cond) (a : Addr) (ka : ClassId) (cs : List Int32) (h0 : Heap) (n0 : Nat) (Z0 : n0 ≤ h0.size) (K : Arv Z h0 a ka .char (Int32.ofNat cs.length) (cs.map Value.int) (.int 0)) (hp : ∀ c ∈ cs, ¬ c < 0 ∧ ¬ (65535 : Int32) < c) (hl : cs.length ≤ 16) (AD : Sta Z Z.heap "java/lang/StringUTF16" "$assertionsDisabled" "Z" (.int (1 : Int32))) (HB : Sta Z Z.heap "java/lang/StringUTF16" "HI_BYTE_SHIFT" "I" (.int (0 : Int32))) (LB : Sta Z Z.heap "java/lang/StringUTF16" "LO_BYTE_SHIFT" "I" (.int (8 : Int32))) (X0_ : Old Z n0 h0) :
    MetFree l (⟨"java/lang/StringUTF16", "toBytes", "([CII)[B"⟩ : MethodName) (head1 (Jvm.Cond.code (⟨"java/lang/StringUTF16", "toBytes", "([CII)[B"⟩ : MethodName) jdk_52_method_14_code 5 (some (.array .byte)) :: ws) ({ frames := 2, cells := 1, slots := 32, locals := 30 } : Room)) (fun a_ U => a_ = #[(.ref a), (.int (0 : Int32)), (.int (Int32.ofNat cs.length))] ∧ Z.Warmed39 U.vm ∧ U.heap = h0) (fun _ _ _ _ _ => True) (fun _ U o U' => ∃ v L, o = .returned v ∧ QTB Z a ka cs h0 n0 v U'.heap L ∧ FrameEnd U o U' L ({ frames := 2, cells := 1, slots := 32, locals := 30 } : Room).cells ({ frames := 2, cells := 1, slots := 32, locals := 30 } : Room).slots) := by
  refine MetFree.of_bodySF (plainFor_of_name pn_0) hisR ?_
  intro p e s m args below meth c s₁ Bd hml0 hP hK
  obtain ⟨rfl, hZ, hh⟩ := hP
  have hx := Bd.exec
  have hby := Bd.bytes
  have hml : c.maxLocals = 5 := hml0
  have hown : s.vm.findClass "java/lang/StringUTF16" = some m.cls := findClass_of_methodNamed Bd.named
  have hnm := (name_of_methodNamed Bd.named Bd.method).1
  have X0 : Stand p l e ({ frames := 2, cells := 1, slots := 32, locals := 30 } : Room) s m #[(.ref a), (.int (0 : Int32)), (.int (Int32.ofNat cs.length))] below meth c s₁ [] 0 0 := Stand.of_body Bd
  have e0 : s₁.heap = h0 := by rw [← hh, Bd.state]; rfl
  have N0 := Fr.nil n0
  refine Goes.done ?_
  obtain ⟨W, hWd⟩ : ∃ W : State → Prop, W = EndW s below (QTB Z a ka cs h0 n0) ({ frames := 2, cells := 1, slots := 32, locals := 30 } : Room).cells ({ frames := 2, cells := 1, slots := 32, locals := 30 } : Room).slots := ⟨_, rfl⟩
  rw [← hWd]
  have hef : entryFrame m #[(.ref a), (.int (0 : Int32)), (.int (Int32.ofNat cs.length))] 5 = (mkF m 0 #[.val (.ref a), .val (.int (0 : Int32)), .val (.int (Int32.ofNat cs.length)), .unset, .unset] []) := by first | (simp [entryFrame, mkF, argsToLocals, Value.category]; done) | rfl
  rw [hef]
  refine Goes.on (T' := s₁) (g' := (mkF m 1 #[.val (.ref a), .val (.int (0 : Int32)), .val (.int (Int32.ofNat cs.length)), .unset, .unset] [(.int (Int32.ofNat cs.length))])) ?_ (fun t_ k_ => XS.iloadN X0.here hx rfl (hb hby d18_0) rfl k_)
  obtain ⟨_, _, ⟨T1, Lq_1, kq_1, nq_1⟩, -, X1, ⟨Lc1, hQ1, l1, y1, z1⟩, st1⟩ := Jvm.LawKit.callS X0 hx (y := (⟨"java/lang/StringUTF16", "newBytesFor", "(I)[B"⟩ : MethodName)) hown (mvT hZ (hw _ (List.mem_of_getElem? (i := 77) rfl))) (mvT hZ (hw _ (List.mem_of_getElem? (i := 78) rfl))) (mvT hZ (hw _ (List.mem_of_getElem? (i := 22) rfl))) (mvT hZ (hw _ (List.mem_of_getElem? (i := 79) rfl))) (by decide) (backOf (W := 0) (rmNF l Z a0 hw [] cs.length h0 n0 Z0 hl) hZ (hw _ (List.mem_of_getElem? (i := 79) rfl)) (hw _ (List.mem_of_getElem? (i := 22) rfl)) (by decide) (by decide)) (g := (mkF m 1 #[.val (.ref a), .val (.int (0 : Int32)), .val (.int (Int32.ofNat cs.length)), .unset, .unset] [(.int (Int32.ofNat cs.length))])) rfl (by rw [hml]; rfl) (argsL := [(.int (Int32.ofNat cs.length))]) (rest := []) (lenOf pd_1 rfl) rfl (by show 2 * 0 + _ ≤ _; exact Nat.le_of_eq rfl) (hb hby d18_1) (fun _ _ => ⟨rfl, e0, (by decide : 0 + 1 ≤ _), (by decide : 0 + 32 ≤ _)⟩)
  dsimp only [Pt.U, Pt.locs, Pt.cells, Pt.slots] at X1 l1 y1 z1 st1 hQ1
  rw [l1, y1, z1] at X1
  change Stand p l e _ _ m _ below meth c T1 _ 1 32 at X1
  obtain ⟨rfl, N1q, E1, ⟨kb, B1⟩⟩ := hQ1
  have N1 := Fr.app N0 N1q
  refine Goes.on (T' := T1) (g' := (mkF m 4 #[.val (.ref a), .val (.int (0 : Int32)), .val (.int (Int32.ofNat cs.length)), .unset, .unset] [(.ref h0.size)])) ?_ st1
  have gd : n0 ≤ h0.size := Z0
  obtain ⟨b, eb⟩ : ∃ z, z = h0.size := ⟨_, rfl⟩
  rw [← eb] at B1 gd ⊢
  have hne : a ≠ b := Nat.ne_of_lt (Nat.lt_of_lt_of_le K.lt (Nat.le_of_eq eb.symm))
  have kI : Keep h0 T1.heap [b] := (Keep.refl h0 [b]).ext E1
  have K8 : ∀ (k i : Nat) (T : State) (h : Heap) (locs : List Loc), Stand p l e ({ frames := 2, cells := 1, slots := 32, locals := 30 } : Room) s m #[(.ref a), (.int (0 : Int32)), (.int (Int32.ofNat cs.length))] below meth c T locs 1 32 → T.heap = h → Fr n0 locs → Arv Z h b kb .byte (Int32.ofNat (2 * cs.length)) ((own_u16 (cs.take i)).map Value.int) (.int 0) → Keep h0 h [b] → i + k = cs.length → Goes p e below W T (mkF m 8 #[.val (.ref a), .val (.int (Int32.ofNat i)), .val (.int (Int32.ofNat cs.length)), .val (.ref b), .val (.int (Int32.ofNat i))] []) := by
    intro k
    induction k with
    | zero =>
      intro i T h locs X eT N B KP hi
      have hge : ¬ ((Int32.ofNat i) < (Int32.ofNat cs.length)) := by rw [own_nlt (by omega) (by omega)]; omega
      have kF : Keep h0 h [] := (Keep.refl h0 []).trans KP (allS (Or.inr (Nat.le_of_eq eb.symm)) all0)
      refine Goes.on (T' := T) (g' := (mkF m 10 #[.val (.ref a), .val (.int (Int32.ofNat i)), .val (.int (Int32.ofNat cs.length)), .val (.ref b), .val (.int (Int32.ofNat i))] [(.int (Int32.ofNat i))])) ?_ (fun t_ k_ => XS.iload X.here hx rfl (hb hby d18_8) rfl k_)
      refine Goes.on (T' := T) (g' := (mkF m 11 #[.val (.ref a), .val (.int (Int32.ofNat i)), .val (.int (Int32.ofNat cs.length)), .val (.ref b), .val (.int (Int32.ofNat i))] [(.int (Int32.ofNat cs.length)), (.int (Int32.ofNat i))])) ?_ (fun t_ k_ => XS.iloadN X.here hx rfl (hb hby d18_10) rfl k_)
      refine Goes.on (T' := T) (g' := (mkF m 32 #[.val (.ref a), .val (.int (Int32.ofNat i)), .val (.int (Int32.ofNat cs.length)), .val (.ref b), .val (.int (Int32.ofNat i))] [])) ?_ (fun t_ k_ => XS.icmpYes X.here hx rfl (pc0 := 11) (pc' := 32) rfl (hb hby d18_11) rfl (flt hge).2.1 (by decide) (by decide) k_)
      refine Goes.on (T' := T) (g' := (mkF m 33 #[.val (.ref a), .val (.int (Int32.ofNat i)), .val (.int (Int32.ofNat cs.length)), .val (.ref b), .val (.int (Int32.ofNat i))] [(.ref b)])) ?_ (fun t_ k_ => XS.aloadN X.here hx rfl (hb hby d18_32) rfl rfl k_)
      rw [hWd]
      exact Goes.retn X (v := some (.ref b)) (fun fs hr => retA X hx Bd.returns rfl rfl (hb hby d18_33) hr) (fun h => by rw [Bd.returns] at h; cases h) Bd.notSynchronized (by decide) (by decide) (by rw [eT]; exact ⟨b, kb, rfl, N, kF, Nat.le_of_eq eb.symm, by rw [show i = cs.length by omega, List.take_length] at B; exact B⟩)
    | succ k ih =>
      intro i T h locs X eT N B KP hi
      have hlt : (Int32.ofNat i) < (Int32.ofNat cs.length) := by rw [own_nlt (by omega) (by omega)]; omega
      have hcl : (Int32.ofNat i).toNatClampNeg = i := own_clamp (by omega)
      have hil : i < cs.length := by omega
      obtain ⟨cA, A1, -, S1, M1, H1, -⟩ := K.keep KP (ninS hne nin0)
      have S1n : cA.slots.size = cs.length := by rw [S1, own_clamp (by omega)]
      have in1 : ¬ ((Int32.ofNat i) < 0 ∨ cA.slots.size ≤ (Int32.ofNat i).toNatClampNeg) := by rw [hcl, S1n]; intro q; rcases q with q | q; exact own_nn (by omega) q; omega
      have at1 : cA.slots[(Int32.ofNat i).toNatClampNeg]? = some (.int (cs.getD i 0)) := by rw [hcl, H1 i (by omega), own_bget]
      have Zh : n0 ≤ h.size := Nat.le_trans Z0 KP.1
      have Xh : Old Z n0 h := X0_.keep KP (allS gd all0)
      refine Goes.on (T' := T) (g' := (mkF m 10 #[.val (.ref a), .val (.int (Int32.ofNat i)), .val (.int (Int32.ofNat cs.length)), .val (.ref b), .val (.int (Int32.ofNat i))] [(.int (Int32.ofNat i))])) ?_ (fun t_ k_ => XS.iload X.here hx rfl (hb hby d18_8) rfl k_)
      refine Goes.on (T' := T) (g' := (mkF m 11 #[.val (.ref a), .val (.int (Int32.ofNat i)), .val (.int (Int32.ofNat cs.length)), .val (.ref b), .val (.int (Int32.ofNat i))] [(.int (Int32.ofNat cs.length)), (.int (Int32.ofNat i))])) ?_ (fun t_ k_ => XS.iloadN X.here hx rfl (hb hby d18_10) rfl k_)
      refine Goes.on (T' := T) (g' := (mkF m 14 #[.val (.ref a), .val (.int (Int32.ofNat i)), .val (.int (Int32.ofNat cs.length)), .val (.ref b), .val (.int (Int32.ofNat i))] [])) ?_ (fun t_ k_ => XS.icmpNo X.here hx rfl (hb hby d18_11) rfl (tlt hlt).2.1 k_)
      refine Goes.on (T' := T) (g' := (mkF m 15 #[.val (.ref a), .val (.int (Int32.ofNat i)), .val (.int (Int32.ofNat cs.length)), .val (.ref b), .val (.int (Int32.ofNat i))] [(.ref b)])) ?_ (fun t_ k_ => XS.aloadN X.here hx rfl (hb hby d18_14) rfl rfl k_)
      refine Goes.on (T' := T) (g' := (mkF m 17 #[.val (.ref a), .val (.int (Int32.ofNat i)), .val (.int (Int32.ofNat cs.length)), .val (.ref b), .val (.int (Int32.ofNat i))] [(.int (Int32.ofNat i)), (.ref b)])) ?_ (fun t_ k_ => XS.iload X.here hx rfl (hb hby d18_15) rfl k_)
      refine Goes.on (T' := T) (g' := (mkF m 18 #[.val (.ref a), .val (.int (Int32.ofNat i)), .val (.int (Int32.ofNat cs.length)), .val (.ref b), .val (.int (Int32.ofNat i))] [(.ref a), (.int (Int32.ofNat i)), (.ref b)])) ?_ (fun t_ k_ => XS.aloadN X.here hx rfl (hb hby d18_17) rfl rfl k_)
      refine Goes.on (T' := T) (g' := (mkF m 19 #[.val (.ref a), .val (.int (Int32.ofNat i)), .val (.int (Int32.ofNat cs.length)), .val (.ref b), .val (.int (Int32.ofNat i))] [(.int (Int32.ofNat i)), (.ref a), (.int (Int32.ofNat i)), (.ref b)])) ?_ (fun t_ k_ => XS.iloadN X.here hx rfl (hb hby d18_18) rfl k_)
      refine Goes.on (T' := T) (g' := (mkF m 20 #[.val (.ref a), .val (.int (Int32.ofNat i)), .val (.int (Int32.ofNat cs.length)), .val (.ref b), .val (.int (Int32.ofNat i))] [(.int (cs.getD i 0)), (.int (Int32.ofNat i)), (.ref b)])) ?_ (X.caload hx (j := (Int32.ofNat i)) (v := (.int (cs.getD i 0))) (by rw [eT]; exact A1.1) (State.isArrayOf_alike hZ.alike A1.2.1) A1.2.2 in1 at1 (g := (mkF m 19 #[.val (.ref a), .val (.int (Int32.ofNat i)), .val (.int (Int32.ofNat cs.length)), .val (.ref b), .val (.int (Int32.ofNat i))] [(.int (Int32.ofNat i)), (.ref a), (.int (Int32.ofNat i)), (.ref b)])) rfl rfl (hb hby d18_19))
      obtain ⟨_, _, ⟨T2, Lq_2, kq_2, nq_2⟩, -, X2, ⟨Lc2, hQ2, l2, y2, z2⟩, st2⟩ := Jvm.LawKit.callS X hx (y := (⟨"java/lang/StringUTF16", "putChar", "([BII)V"⟩ : MethodName)) hown (mvT hZ (hw _ (List.mem_of_getElem? (i := 84) rfl))) (mvT hZ (hw _ (List.mem_of_getElem? (i := 85) rfl))) (mvT hZ (hw _ (List.mem_of_getElem? (i := 22) rfl))) (mvT hZ (hw _ (List.mem_of_getElem? (i := 86) rfl))) (by decide) (backOf (W := 0) (rmPC l Z a0 hw [] b kb cs.length i (cs.getD i 0) (own_u16 (cs.take i)) h n0 Zh B (by rw [own_u16_len, List.length_take]; omega) hil hl gd AD HB LB Xh) hZ (hw _ (List.mem_of_getElem? (i := 86) rfl)) (hw _ (List.mem_of_getElem? (i := 22) rfl)) (by decide) (by decide)) (g := (mkF m 20 #[.val (.ref a), .val (.int (Int32.ofNat i)), .val (.int (Int32.ofNat cs.length)), .val (.ref b), .val (.int (Int32.ofNat i))] [(.int (cs.getD i 0)), (.int (Int32.ofNat i)), (.ref b)])) rfl (by rw [hml]; rfl) (argsL := [(.ref b), (.int (Int32.ofNat i)), (.int (cs.getD i 0))]) (rest := []) (lenOf pd_2 rfl) rfl (by show 2 * 0 + _ ≤ _; exact Nat.le_of_eq rfl) (hb hby d18_20) (fun _ _ => ⟨rfl, eT, (by decide : 1 + 0 ≤ _), (by decide : 32 + 0 ≤ _)⟩)
      dsimp only [Pt.U, Pt.locs, Pt.cells, Pt.slots] at X2 l2 y2 z2 st2 hQ2
      rw [l2, y2, z2] at X2
      change Stand p l e _ _ m _ below meth c T2 _ 1 32 at X2
      obtain ⟨rfl, N2q, K2, B2⟩ := hQ2
      have N2 := Fr.app N N2q
      refine Goes.on (T' := T2) (g' := (mkF m 23 #[.val (.ref a), .val (.int (Int32.ofNat i)), .val (.int (Int32.ofNat cs.length)), .val (.ref b), .val (.int (Int32.ofNat i))] [])) ?_ st2
      have B2x : Arv Z T2.heap b kb .byte (Int32.ofNat (2 * cs.length)) ((own_u16 (cs.take (i + 1))).map Value.int) (.int 0) := by rw [own_take_succ cs i hil, own_u16_app]; have q := B2; rw [List.append_assoc] at q; exact q
      have KP2 := KP.trans K2 (fun y hy => Or.inl hy)
      refine Goes.on (T' := T2) (g' := (mkF m 26 #[.val (.ref a), .val (.int ((Int32.ofNat i) + (1 : Int32))), .val (.int (Int32.ofNat cs.length)), .val (.ref b), .val (.int (Int32.ofNat i))] [])) ?_ (fun t_ k_ => XS.iinc X2.here hx rfl (hb hby d18_23) rfl (l' := #[.val (.ref a), .val (.int ((Int32.ofNat i) + (1 : Int32))), .val (.int (Int32.ofNat cs.length)), .val (.ref b), .val (.int (Int32.ofNat i))]) rfl k_)
      refine Goes.on (T' := T2) (g' := (mkF m 29 #[.val (.ref a), .val (.int ((Int32.ofNat i) + (1 : Int32))), .val (.int (Int32.ofNat cs.length)), .val (.ref b), .val (.int ((Int32.ofNat i) + (1 : Int32)))] [])) ?_ (fun t_ k_ => XS.iinc X2.here hx rfl (hb hby d18_26) rfl (l' := #[.val (.ref a), .val (.int ((Int32.ofNat i) + (1 : Int32))), .val (.int (Int32.ofNat cs.length)), .val (.ref b), .val (.int ((Int32.ofNat i) + (1 : Int32)))]) rfl k_)
      refine Goes.on (T' := T2) (g' := (mkF m 8 #[.val (.ref a), .val (.int ((Int32.ofNat i) + (1 : Int32))), .val (.int (Int32.ofNat cs.length)), .val (.ref b), .val (.int ((Int32.ofNat i) + (1 : Int32)))] [])) ?_ (fun t_ k_ => XS.goto X2.here hx rfl (pc0 := 29) (pc' := 8) rfl (hb hby d18_29) (by decide) (by decide) k_)
      rw [own_succ]
      exact ih (i + 1) _ _ _ X2 rfl N2 B2x KP2 (by omega)
  refine Goes.on (T' := T1) (g' := (mkF m 5 #[.val (.ref a), .val (.int (0 : Int32)), .val (.int (Int32.ofNat cs.length)), .val (.ref b), .unset] [])) ?_ (fun t_ k_ => XS.astoreN X1.here hx rfl (hb hby d18_4) rfl rfl (l' := #[.val (.ref a), .val (.int (0 : Int32)), .val (.int (Int32.ofNat cs.length)), .val (.ref b), .unset]) rfl k_)
  refine Goes.on (T' := T1) (g' := (mkF m 6 #[.val (.ref a), .val (.int (0 : Int32)), .val (.int (Int32.ofNat cs.length)), .val (.ref b), .unset] [(.int (0 : Int32))])) ?_ (fun t_ k_ => XS.iconst X1.here hx rfl (hb hby d18_5) k_)
  refine Goes.on (T' := T1) (g' := (mkF m 8 #[.val (.ref a), .val (.int (0 : Int32)), .val (.int (Int32.ofNat cs.length)), .val (.ref b), .val (.int (0 : Int32))] [])) ?_ (fun t_ k_ => XS.istore X1.here hx rfl (hb hby d18_6) rfl (l' := #[.val (.ref a), .val (.int (0 : Int32)), .val (.int (Int32.ofNat cs.length)), .val (.ref b), .val (.int (0 : Int32))]) rfl k_)
  exact K8 cs.length 0 _ _ _ X1 rfl N1 B1 kI (by omega)
def Byts (Z : State) (h : Heap) (t : Addr) (kt : ClassId) (cs : List Int32) (cd : Int32) : Prop := (cd = 0 ∧ own_fit cs = cs.length ∧ Arv Z h t kt .byte (Int32.ofNat cs.length) ((cs.map own_lo).map Value.int) (.int 0)) ∨ (cd = 1 ∧ own_fit cs < cs.length ∧ Arv Z h t kt .byte (Int32.ofNat (2 * cs.length)) ((own_u16 cs).map Value.int) (.int 0))
def QC3 (Z : State) (a : Addr) (ka : ClassId) (cs : List Int32) (h0 : Heap) (n0 : Nat) (v : Option Value) (h : Heap) (L : List Loc) : Prop := ∃ t kt cd, v = some (.ref t) ∧ Fr n0 L ∧ Keep h0 h [] ∧ h0.size ≤ t ∧ Byts Z h t kt cs cd
set_option maxRecDepth 65536 in
set_option maxHeartbeats 40000000 in
theorem rmC3 (l : Launch) (Z : State) (a0 : Array Value) (hw : ∀ d ∈ tables_1, d.before a0 Z = true) (ws : List Jvm.Cond) (a : Addr) (ka : ClassId) (cs : List Int32) (h0 : Heap) (n0 : Nat) (Z0 : n0 ≤ h0.size) (K : Arv Z h0 a ka .char (Int32.ofNat cs.length) (cs.map Value.int) (.int 0)) (hp : ∀ c ∈ cs, ¬ c < 0 ∧ ¬ (65535 : Int32) < c) (hl : cs.length ≤ 16) (AD : Sta Z Z.heap "java/lang/StringUTF16" "$assertionsDisabled" "Z" (.int (1 : Int32))) (HB : Sta Z Z.heap "java/lang/StringUTF16" "HI_BYTE_SHIFT" "I" (.int (0 : Int32))) (LB : Sta Z Z.heap "java/lang/StringUTF16" "LO_BYTE_SHIFT" "I" (.int (8 : Int32))) (X0_ : Old Z n0 h0) :
    MetFree l (⟨"java/lang/StringUTF16", "compress", "([CII)[B"⟩ : MethodName) (head1 (Jvm.Cond.code (⟨"java/lang/StringUTF16", "compress", "([CII)[B"⟩ : MethodName) jdk_52_method_16_code 6 (some (.array .byte)) :: ws) ({ frames := 3, cells := 2, slots := 48, locals := 48 } : Room)) (fun a_ U => a_ = #[(.ref a), (.int (0 : Int32)), (.int (Int32.ofNat cs.length))] ∧ Z.Warmed39 U.vm ∧ U.heap = h0) (fun _ _ _ _ _ => True) (fun _ U o U' => ∃ v L, o = .returned v ∧ QC3 Z a ka cs h0 n0 v U'.heap L ∧ FrameEnd U o U' L ({ frames := 3, cells := 2, slots := 48, locals := 48 } : Room).cells ({ frames := 3, cells := 2, slots := 48, locals := 48 } : Room).slots) := by
  refine MetFree.of_bodySF (plainFor_of_name pn_0) hisR ?_
  intro p e s m args below meth c s₁ Bd hml0 hP hK
  obtain ⟨rfl, hZ, hh⟩ := hP
  have hx := Bd.exec
  have hby := Bd.bytes
  have hml : c.maxLocals = 6 := hml0
  have hown : s.vm.findClass "java/lang/StringUTF16" = some m.cls := findClass_of_methodNamed Bd.named
  have hnm := (name_of_methodNamed Bd.named Bd.method).1
  have X0 : Stand p l e ({ frames := 3, cells := 2, slots := 48, locals := 48 } : Room) s m #[(.ref a), (.int (0 : Int32)), (.int (Int32.ofNat cs.length))] below meth c s₁ [] 0 0 := Stand.of_body Bd
  have e0 : s₁.heap = h0 := by rw [← hh, Bd.state]; rfl
  have N0 := Fr.nil n0
  refine Goes.done ?_
  obtain ⟨W, hWd⟩ : ∃ W : State → Prop, W = EndW s below (QC3 Z a ka cs h0 n0) ({ frames := 3, cells := 2, slots := 48, locals := 48 } : Room).cells ({ frames := 3, cells := 2, slots := 48, locals := 48 } : Room).slots := ⟨_, rfl⟩
  rw [← hWd]
  have hef : entryFrame m #[(.ref a), (.int (0 : Int32)), (.int (Int32.ofNat cs.length))] 6 = (mkF m 0 #[.val (.ref a), .val (.int (0 : Int32)), .val (.int (Int32.ofNat cs.length)), .unset, .unset, .unset] []) := by first | (simp [entryFrame, mkF, argsToLocals, Value.category]; done) | rfl
  rw [hef]
  refine Goes.on (T' := s₁) (g' := (mkF m 1 #[.val (.ref a), .val (.int (0 : Int32)), .val (.int (Int32.ofNat cs.length)), .unset, .unset, .unset] [(.int (Int32.ofNat cs.length))])) ?_ (fun t_ k_ => XS.iloadN X0.here hx rfl (hb hby d5_0) rfl k_)
  obtain ⟨T1, h1, k1, X1, e1, E1, A1, st1⟩ := newP X0 hx hZ (hw _ (List.mem_of_getElem? (i := 24) rfl)) e0 (g := (mkF m 1 #[.val (.ref a), .val (.int (0 : Int32)), .val (.int (Int32.ofNat cs.length)), .unset, .unset, .unset] [(.int (Int32.ofNat cs.length))])) rfl (hb hby d5_1) rfl (own_nn (by omega)) (cap := 16) (by rw [own_clamp (by omega)]; omega) (by decide) (by decide) (by decide)
  obtain ⟨b1, gb1⟩ : ∃ z, z = h0.size := ⟨_, rfl⟩
  rw [← gb1] at A1 st1
  have V1 := Arv.new A1 (own_nn (by omega))
  have Z1 : n0 ≤ h1.size := Nat.le_trans Z0 E1.1
  have g_b1 : n0 ≤ b1 := Nat.le_trans Z0 (Nat.le_of_eq gb1.symm)
  refine Goes.on (T' := T1) (g' := (mkF m 3 #[.val (.ref a), .val (.int (0 : Int32)), .val (.int (Int32.ofNat cs.length)), .unset, .unset, .unset] [(.ref b1)])) ?_ st1
  have K1 := K.ext E1
  have hne : a ≠ b1 := Nat.ne_of_lt (Nat.lt_of_lt_of_le K.lt (Nat.le_of_eq gb1.symm))
  have kI : Keep h0 h1 [b1] := (Keep.refl h0 _).ext E1
  refine Goes.on (T' := T1) (g' := (mkF m 4 #[.val (.ref a), .val (.int (0 : Int32)), .val (.int (Int32.ofNat cs.length)), .val (.ref b1), .unset, .unset] [])) ?_ (fun t_ k_ => XS.astoreN X1.here hx rfl (hb hby d5_3) rfl rfl (l' := #[.val (.ref a), .val (.int (0 : Int32)), .val (.int (Int32.ofNat cs.length)), .val (.ref b1), .unset, .unset]) rfl k_)
  refine Goes.on (T' := T1) (g' := (mkF m 5 #[.val (.ref a), .val (.int (0 : Int32)), .val (.int (Int32.ofNat cs.length)), .val (.ref b1), .unset, .unset] [(.ref a)])) ?_ (fun t_ k_ => XS.aloadN X1.here hx rfl (hb hby d5_4) rfl rfl k_)
  refine Goes.on (T' := T1) (g' := (mkF m 6 #[.val (.ref a), .val (.int (0 : Int32)), .val (.int (Int32.ofNat cs.length)), .val (.ref b1), .unset, .unset] [(.int (0 : Int32)), (.ref a)])) ?_ (fun t_ k_ => XS.iloadN X1.here hx rfl (hb hby d5_5) rfl k_)
  refine Goes.on (T' := T1) (g' := (mkF m 7 #[.val (.ref a), .val (.int (0 : Int32)), .val (.int (Int32.ofNat cs.length)), .val (.ref b1), .unset, .unset] [(.ref b1), (.int (0 : Int32)), (.ref a)])) ?_ (fun t_ k_ => XS.aloadN X1.here hx rfl (hb hby d5_6) rfl rfl k_)
  refine Goes.on (T' := T1) (g' := (mkF m 8 #[.val (.ref a), .val (.int (0 : Int32)), .val (.int (Int32.ofNat cs.length)), .val (.ref b1), .unset, .unset] [(.int (0 : Int32)), (.ref b1), (.int (0 : Int32)), (.ref a)])) ?_ (fun t_ k_ => XS.iconst X1.here hx rfl (hb hby d5_7) k_)
  refine Goes.on (T' := T1) (g' := (mkF m 9 #[.val (.ref a), .val (.int (0 : Int32)), .val (.int (Int32.ofNat cs.length)), .val (.ref b1), .unset, .unset] [(.int (Int32.ofNat cs.length)), (.int (0 : Int32)), (.ref b1), (.int (0 : Int32)), (.ref a)])) ?_ (fun t_ k_ => XS.iloadN X1.here hx rfl (hb hby d5_8) rfl k_)
  obtain ⟨_, _, ⟨T2, Lq_2, kq_2, nq_2⟩, -, X2, ⟨Lc2, hQ2, l2, y2, z2⟩, st2⟩ := Jvm.LawKit.callS X1 hx (y := (⟨"java/lang/StringUTF16", "compress", "([CI[BII)I"⟩ : MethodName)) hown (mvT hZ (hw _ (List.mem_of_getElem? (i := 25) rfl))) (mvT hZ (hw _ (List.mem_of_getElem? (i := 26) rfl))) (mvT hZ (hw _ (List.mem_of_getElem? (i := 22) rfl))) (mvT hZ (hw _ (List.mem_of_getElem? (i := 27) rfl))) (by decide) (backOf (W := 0) (rmC5 l Z a0 hw [] a b1 ka k1 cs h1 n0 Z1 K1 V1 hne g_b1 hp hl) hZ (hw _ (List.mem_of_getElem? (i := 27) rfl)) (hw _ (List.mem_of_getElem? (i := 22) rfl)) (by decide) (by decide)) (g := (mkF m 9 #[.val (.ref a), .val (.int (0 : Int32)), .val (.int (Int32.ofNat cs.length)), .val (.ref b1), .unset, .unset] [(.int (Int32.ofNat cs.length)), (.int (0 : Int32)), (.ref b1), (.int (0 : Int32)), (.ref a)])) rfl (by rw [hml]; rfl) (argsL := [(.ref a), (.int (0 : Int32)), (.ref b1), (.int (0 : Int32)), (.int (Int32.ofNat cs.length))]) (rest := []) (lenOf pd_3 rfl) rfl (by show 2 * 0 + _ ≤ _; exact Nat.le_of_eq rfl) (hb hby d5_9) (fun _ _ => ⟨rfl, e1, (by decide : 1 + 0 ≤ _), (by decide : 16 + 0 ≤ _)⟩)
  dsimp only [Pt.U, Pt.locs, Pt.cells, Pt.slots] at X2 l2 y2 z2 st2 hQ2
  rw [l2, y2, z2] at X2
  change Stand p l e _ _ m _ below meth c T2 _ 1 16 at X2
  obtain ⟨rfl, N2q, K2, B2⟩ := hQ2
  have N2 := Fr.app N0 N2q
  refine Goes.on (T' := T2) (g' := (mkF m 12 #[.val (.ref a), .val (.int (0 : Int32)), .val (.int (Int32.ofNat cs.length)), .val (.ref b1), .unset, .unset] [(.int (Int32.ofNat (own_fit cs)))])) ?_ st2
  have Zc : n0 ≤ T2.heap.size := Nat.le_trans Z1 K2.1
  have kC := kI.trans K2 (fun y hy => Or.inl hy)
  have K2 := K1.keep K2 (ninS hne nin0)
  have X2_ : Old Z n0 T2.heap := X0_.keep kC (allS g_b1 all0)
  have kD : Keep h0 T2.heap [] := (Keep.refl h0 []).trans kC (allS (Or.inr (Nat.le_of_eq gb1.symm)) all0)
  refine Goes.on (T' := T2) (g' := (mkF m 14 #[.val (.ref a), .val (.int (0 : Int32)), .val (.int (Int32.ofNat cs.length)), .val (.ref b1), .val (.int (Int32.ofNat (own_fit cs))), .unset] [])) ?_ (fun t_ k_ => XS.istore X2.here hx rfl (hb hby d5_12) rfl (l' := #[.val (.ref a), .val (.int (0 : Int32)), .val (.int (Int32.ofNat cs.length)), .val (.ref b1), .val (.int (Int32.ofNat (own_fit cs))), .unset]) rfl k_)
  refine Goes.on (T' := T2) (g' := (mkF m 16 #[.val (.ref a), .val (.int (0 : Int32)), .val (.int (Int32.ofNat cs.length)), .val (.ref b1), .val (.int (Int32.ofNat (own_fit cs))), .unset] [(.int (Int32.ofNat (own_fit cs)))])) ?_ (fun t_ k_ => XS.iload X2.here hx rfl (hb hby d5_14) rfl k_)
  refine Goes.on (T' := T2) (g' := (mkF m 17 #[.val (.ref a), .val (.int (0 : Int32)), .val (.int (Int32.ofNat cs.length)), .val (.ref b1), .val (.int (Int32.ofNat (own_fit cs))), .unset] [(.int (Int32.ofNat cs.length)), (.int (Int32.ofNat (own_fit cs)))])) ?_ (fun t_ k_ => XS.iloadN X2.here hx rfl (hb hby d5_16) rfl k_)
  refine Goes.icmpP X2 hx rfl (pc0 := 17) (pc' := 57) rfl (hb hby d5_17) rfl (by decide) (by decide) (P := (Int32.ofNat (own_fit cs)) = (Int32.ofNat cs.length)) (cmp_eq _ _) (fun hc17 => ?_) (fun hc17 => ?_)
  · show Goes p e below W T2 (mkF m 57 #[.val (.ref a), .val (.int (0 : Int32)), .val (.int (Int32.ofNat cs.length)), .val (.ref b1), .val (.int (Int32.ofNat (own_fit cs))), .unset] [])
    have hfe : own_fit cs = cs.length := (own_ninj (Nat.lt_of_le_of_lt (own_fit_le cs) (by omega)) (by omega)).mp hc17
    refine Goes.on (T' := T2) (g' := (mkF m 58 #[.val (.ref a), .val (.int (0 : Int32)), .val (.int (Int32.ofNat cs.length)), .val (.ref b1), .val (.int (Int32.ofNat (own_fit cs))), .unset] [(.ref b1)])) ?_ (fun t_ k_ => XS.aloadN X2.here hx rfl (hb hby d5_57) rfl rfl k_)
    rw [hWd]
    exact Goes.retn X2 (v := some (.ref b1)) (fun fs hr => retA X2 hx Bd.returns rfl rfl (hb hby d5_58) hr) (fun h => by rw [Bd.returns] at h; cases h) Bd.notSynchronized (by decide) (by decide) ⟨b1, k1, 0, rfl, N2, kD, Nat.le_of_eq gb1.symm, Or.inl ⟨rfl, hfe, by have q := B2; rw [hfe, List.take_length] at q; exact q⟩⟩
  · show Goes p e below W T2 (mkF m 20 #[.val (.ref a), .val (.int (0 : Int32)), .val (.int (Int32.ofNat cs.length)), .val (.ref b1), .val (.int (Int32.ofNat (own_fit cs))), .unset] [])
    refine Goes.on (T' := T2) (g' := (mkF m 21 #[.val (.ref a), .val (.int (0 : Int32)), .val (.int (Int32.ofNat cs.length)), .val (.ref b1), .val (.int (Int32.ofNat (own_fit cs))), .unset] [(.ref a)])) ?_ (fun t_ k_ => XS.aloadN X2.here hx rfl (hb hby d5_20) rfl rfl k_)
    refine Goes.on (T' := T2) (g' := (mkF m 22 #[.val (.ref a), .val (.int (0 : Int32)), .val (.int (Int32.ofNat cs.length)), .val (.ref b1), .val (.int (Int32.ofNat (own_fit cs))), .unset] [(.int (0 : Int32)), (.ref a)])) ?_ (fun t_ k_ => XS.iloadN X2.here hx rfl (hb hby d5_21) rfl k_)
    refine Goes.on (T' := T2) (g' := (mkF m 23 #[.val (.ref a), .val (.int (0 : Int32)), .val (.int (Int32.ofNat cs.length)), .val (.ref b1), .val (.int (Int32.ofNat (own_fit cs))), .unset] [(.int (Int32.ofNat cs.length)), (.int (0 : Int32)), (.ref a)])) ?_ (fun t_ k_ => XS.iloadN X2.here hx rfl (hb hby d5_22) rfl k_)
    obtain ⟨_, _, ⟨T3, Lq_3, kq_3, nq_3⟩, -, X3, ⟨Lc3, hQ3, l3, y3, z3⟩, st3⟩ := Jvm.LawKit.callS X2 hx (y := (⟨"java/lang/StringUTF16", "toBytes", "([CII)[B"⟩ : MethodName)) hown (mvT hZ (hw _ (List.mem_of_getElem? (i := 74) rfl))) (mvT hZ (hw _ (List.mem_of_getElem? (i := 75) rfl))) (mvT hZ (hw _ (List.mem_of_getElem? (i := 22) rfl))) (mvT hZ (hw _ (List.mem_of_getElem? (i := 76) rfl))) (by decide) (backOf (W := 0) (rmTB l Z a0 hw [] a ka cs T2.heap n0 Zc K2 hp hl AD HB LB X2_) hZ (hw _ (List.mem_of_getElem? (i := 76) rfl)) (hw _ (List.mem_of_getElem? (i := 22) rfl)) (by decide) (by decide)) (g := (mkF m 23 #[.val (.ref a), .val (.int (0 : Int32)), .val (.int (Int32.ofNat cs.length)), .val (.ref b1), .val (.int (Int32.ofNat (own_fit cs))), .unset] [(.int (Int32.ofNat cs.length)), (.int (0 : Int32)), (.ref a)])) rfl (by rw [hml]; rfl) (argsL := [(.ref a), (.int (0 : Int32)), (.int (Int32.ofNat cs.length))]) (rest := []) (lenOf pd_4 rfl) rfl (by show 2 * 0 + _ ≤ _; exact Nat.le_of_eq rfl) (hb hby d5_23) (fun _ _ => ⟨rfl, rfl, (by decide : 1 + 1 ≤ _), (by decide : 16 + 32 ≤ _)⟩)
    dsimp only [Pt.U, Pt.locs, Pt.cells, Pt.slots] at X3 l3 y3 z3 st3 hQ3
    rw [l3, y3, z3] at X3
    change Stand p l e _ _ m _ below meth c T3 _ 2 48 at X3
    obtain ⟨b_, kb_, rfl, N3q, K3, sb, BT⟩ := hQ3
    have N3 := Fr.app N2 N3q
    refine Goes.on (T' := T3) (g' := (mkF m 26 #[.val (.ref a), .val (.int (0 : Int32)), .val (.int (Int32.ofNat cs.length)), .val (.ref b1), .val (.int (Int32.ofNat (own_fit cs))), .unset] [(.ref b_)])) ?_ st3
    have Zt : n0 ≤ T3.heap.size := Nat.le_trans Zc K3.1
    have kT := kD.trans K3 all0
    have X3_ := X2_.keep K3 all0
    have sz : h0.size ≤ b_ := Nat.le_trans kD.1 sb
    have hfl : own_fit cs < cs.length := Nat.lt_of_le_of_ne (own_fit_le cs) (fun q => hc17 (by rw [q]))
    refine Goes.on (T' := T3) (g' := (mkF m 28 #[.val (.ref a), .val (.int (0 : Int32)), .val (.int (Int32.ofNat cs.length)), .val (.ref b1), .val (.int (Int32.ofNat (own_fit cs))), .val (.ref b_)] [])) ?_ (fun t_ k_ => XS.astore X3.here hx rfl (hb hby d5_26) rfl rfl (l' := #[.val (.ref a), .val (.int (0 : Int32)), .val (.int (Int32.ofNat cs.length)), .val (.ref b1), .val (.int (Int32.ofNat (own_fit cs))), .val (.ref b_)]) rfl k_)
    refine Goes.on (T' := T3) (g' := (mkF m 30 #[.val (.ref a), .val (.int (0 : Int32)), .val (.int (Int32.ofNat cs.length)), .val (.ref b1), .val (.int (Int32.ofNat (own_fit cs))), .val (.ref b_)] [(.ref b_)])) ?_ (fun t_ k_ => XS.aload X3.here hx rfl (hb hby d5_28) rfl rfl k_)
    refine Goes.on (T' := T3) (g' := (mkF m 32 #[.val (.ref a), .val (.int (0 : Int32)), .val (.int (Int32.ofNat cs.length)), .val (.ref b1), .val (.int (Int32.ofNat (own_fit cs))), .val (.ref b_)] [(.int (Int32.ofNat (own_fit cs))), (.ref b_)])) ?_ (fun t_ k_ => XS.iload X3.here hx rfl (hb hby d5_30) rfl k_)
    obtain ⟨_, _, ⟨T4, Lq_4, kq_4, nq_4⟩, -, X4, ⟨Lc4, hQ4, l4, y4, z4⟩, st4⟩ := Jvm.LawKit.callS X3 hx (y := (⟨"java/lang/StringUTF16", "getChar", "([BI)C"⟩ : MethodName)) hown (mvT hZ (hw _ (List.mem_of_getElem? (i := 90) rfl))) (mvT hZ (hw _ (List.mem_of_getElem? (i := 91) rfl))) (mvT hZ (hw _ (List.mem_of_getElem? (i := 22) rfl))) (mvT hZ (hw _ (List.mem_of_getElem? (i := 92) rfl))) (by decide) (backOf (W := 0) (rmGC l Z a0 hw [] b_ kb_ cs.length (own_fit cs) (own_u16 cs) T3.heap n0 Zt BT hfl hl AD HB LB X3_) hZ (hw _ (List.mem_of_getElem? (i := 92) rfl)) (hw _ (List.mem_of_getElem? (i := 22) rfl)) (by decide) (by decide)) (g := (mkF m 32 #[.val (.ref a), .val (.int (0 : Int32)), .val (.int (Int32.ofNat cs.length)), .val (.ref b1), .val (.int (Int32.ofNat (own_fit cs))), .val (.ref b_)] [(.int (Int32.ofNat (own_fit cs))), (.ref b_)])) rfl (by rw [hml]; rfl) (argsL := [(.ref b_), (.int (Int32.ofNat (own_fit cs)))]) (rest := []) (lenOf pd_5 rfl) rfl (by show 2 * 0 + _ ≤ _; exact Nat.le_of_eq rfl) (hb hby d5_32) (fun _ _ => ⟨rfl, rfl, (by decide : 2 + 0 ≤ _), (by decide : 48 + 0 ≤ _)⟩)
    dsimp only [Pt.U, Pt.locs, Pt.cells, Pt.slots] at X4 l4 y4 z4 st4 hQ4
    rw [l4, y4, z4] at X4
    change Stand p l e _ _ m _ below meth c T4 _ 2 48 at X4
    obtain ⟨rfl, N4q, eh4⟩ := hQ4
    have N4 := Fr.app N3 N4q
    refine Goes.on (T' := T4) (g' := (mkF m 35 #[.val (.ref a), .val (.int (0 : Int32)), .val (.int (Int32.ofNat cs.length)), .val (.ref b1), .val (.int (Int32.ofNat (own_fit cs))), .val (.ref b_)] [(.int (nar .char (own_pair ((own_u16 cs).getD (2 * own_fit cs) 0) ((own_u16 cs).getD (2 * own_fit cs + 1) 0))))])) ?_ st4
    have hpc := hp _ (own_mem cs _ hfl)
    have ec : nar .char (own_pair ((own_u16 cs).getD (2 * own_fit cs) 0) ((own_u16 cs).getD (2 * own_fit cs + 1) 0)) = cs.getD (own_fit cs) 0 := own_u16_ch cs _ hfl hpc
    rw [ec]
    have hgt := own_fit_at cs hfl
    refine Goes.on (T' := T4) (g' := (mkF m 38 #[.val (.ref a), .val (.int (0 : Int32)), .val (.int (Int32.ofNat cs.length)), .val (.ref b1), .val (.int (Int32.ofNat (own_fit cs))), .val (.ref b_)] [(.int (255 : Int32)), (.int (cs.getD (own_fit cs) 0))])) ?_ (fun t_ k_ => XS.sipush X4.here hx rfl (hb hby d5_35) k_)
    refine Goes.on (T' := T4) (g' := (mkF m 54 #[.val (.ref a), .val (.int (0 : Int32)), .val (.int (Int32.ofNat cs.length)), .val (.ref b1), .val (.int (Int32.ofNat (own_fit cs))), .val (.ref b_)] [])) ?_ (fun t_ k_ => XS.icmpYes X4.here hx rfl (pc0 := 38) (pc' := 54) rfl (hb hby d5_38) rfl (tlt hgt).2.2.1 (by decide) (by decide) k_)
    refine Goes.on (T' := T4) (g' := (mkF m 56 #[.val (.ref a), .val (.int (0 : Int32)), .val (.int (Int32.ofNat cs.length)), .val (.ref b1), .val (.int (Int32.ofNat (own_fit cs))), .val (.ref b_)] [(.ref b_)])) ?_ (fun t_ k_ => XS.aload X4.here hx rfl (hb hby d5_54) rfl rfl k_)
    rw [hWd]
    exact Goes.retn X4 (v := some (.ref b_)) (fun fs hr => retA X4 hx Bd.returns rfl rfl (hb hby d5_56) hr) (fun h => by rw [Bd.returns] at h; cases h) Bd.notSynchronized (by decide) (by decide) (by rw [eh4]; exact ⟨b_, kb_, 1, rfl, N4, kT, sz, Or.inr ⟨rfl, hfl, BT⟩⟩)
/-- a String of the chars cs, by either coder -/
def Txt (Z : State) (h : Heap) (x t : Addr) (kt : ClassId) (cs : List Int32) (cd : Int32) : Prop := Exa Z h x "java/lang/String" ∧ Fld Z h x "java/lang/String" "coder" "B" (.int cd) ∧ Fld Z h x "java/lang/String" "value" "[B" (.ref t) ∧ Byts Z h t kt cs cd
theorem Byts.keep {Z : State} {h h' : Heap} {t : Addr} {kt : ClassId} {cs : List Int32} {cd : Int32} {ws : List Addr} (B : Byts Z h t kt cs cd) (K : Keep h h' ws) (q : t ∉ ws) : Byts Z h' t kt cs cd := B.imp (fun r => ⟨r.1, r.2.1, r.2.2.keep K q⟩) (fun r => ⟨r.1, r.2.1, r.2.2.keep K q⟩)
theorem Byts.other {Z : State} {h h' : Heap} {t a : Addr} {kt : ClassId} {cs : List Int32} {cd : Int32} {sl : Nat} {v : Value} (B : Byts Z h t kt cs cd) (W : Wr h h' a sl v) (q : t ≠ a) : Byts Z h' t kt cs cd := B.imp (fun r => ⟨r.1, r.2.1, r.2.2.other W q⟩) (fun r => ⟨r.1, r.2.1, r.2.2.other W q⟩)
theorem Txt.keep {Z : State} {h h' : Heap} {x t : Addr} {kt : ClassId} {cs : List Int32} {cd : Int32} {ws : List Addr} (B : Txt Z h x t kt cs cd) (K : Keep h h' ws) (q1 : x ∉ ws) (q : t ∉ ws) : Txt Z h' x t kt cs cd := ⟨B.1.keep K, B.2.1.keep K q1, B.2.2.1.keep K q1, B.2.2.2.keep K q⟩
def QI4 (Z : State) (x a : Addr) (ka : ClassId) (cs : List Int32) (zc : Int32) (h0 : Heap) (n0 : Nat) (v : Option Value) (h : Heap) (L : List Loc) : Prop := v = none ∧ Fr n0 L ∧ Keep h0 h [x] ∧ ∃ t kt cd, h0.size ≤ t ∧ Txt Z h x t kt cs cd
set_option maxRecDepth 65536 in
set_option maxHeartbeats 40000000 in
theorem rmI4 (l : Launch) (Z : State) (a0 : Array Value) (hw : ∀ d ∈ tables_1, d.before a0 Z = true) (ws : List Jvm.Cond) (x a : Addr) (ka : ClassId) (cs : List Int32) (zc : Int32) (h0 : Heap) (n0 : Nat) (Z0 : n0 ≤ h0.size) (E : Exa Z h0 x "java/lang/String") (FV : Fld Z h0 x "java/lang/String" "value" "[B" .null) (FC : Fld Z h0 x "java/lang/String" "coder" "B" (.int (0 : Int32))) (ga : n0 ≤ x) (K : Arv Z h0 a ka .char (Int32.ofNat cs.length) (cs.map Value.int) (.int 0)) (hp : ∀ c ∈ cs, ¬ c < 0 ∧ ¬ (65535 : Int32) < c) (hl : cs.length ≤ 16) (hl0 : 0 < cs.length) (CS : Sta Z Z.heap "java/lang/String" "COMPACT_STRINGS" "Z" (.int zc)) (hzc : ¬ zc = (0 : Int32)) (AD : Sta Z Z.heap "java/lang/StringUTF16" "$assertionsDisabled" "Z" (.int (1 : Int32))) (HB : Sta Z Z.heap "java/lang/StringUTF16" "HI_BYTE_SHIFT" "I" (.int (0 : Int32))) (LB : Sta Z Z.heap "java/lang/StringUTF16" "LO_BYTE_SHIFT" "I" (.int (8 : Int32))) (X0_ : Old Z n0 h0) :
    MetFree l (⟨"java/lang/String", "<init>", "([CIILjava/lang/Void;)V"⟩ : MethodName) (head1 (Jvm.Cond.code (⟨"java/lang/String", "<init>", "([CIILjava/lang/Void;)V"⟩ : MethodName) jdk_42_method_149_code 6 none :: ws) ({ frames := 4, cells := 2, slots := 48, locals := 68 } : Room)) (fun a_ U => a_ = #[(.ref x), (.ref a), (.int (0 : Int32)), (.int (Int32.ofNat cs.length)), .null] ∧ Z.Warmed39 U.vm ∧ U.heap = h0) (fun _ _ _ _ _ => True) (fun _ U o U' => ∃ v L, o = .returned v ∧ QI4 Z x a ka cs zc h0 n0 v U'.heap L ∧ FrameEnd U o U' L ({ frames := 4, cells := 2, slots := 48, locals := 68 } : Room).cells ({ frames := 4, cells := 2, slots := 48, locals := 68 } : Room).slots) := by
  refine MetFree.of_bodySF (plainFor_of_name pn_1) hisR ?_
  intro p e s m args below meth c s₁ Bd hml0 hP hK
  obtain ⟨rfl, hZ, hh⟩ := hP
  have hx := Bd.exec
  have hby := Bd.bytes
  have hml : c.maxLocals = 6 := hml0
  have hown : s.vm.findClass "java/lang/String" = some m.cls := findClass_of_methodNamed Bd.named
  have hnm := (name_of_methodNamed Bd.named Bd.method).1
  have X0 : Stand p l e ({ frames := 4, cells := 2, slots := 48, locals := 68 } : Room) s m #[(.ref x), (.ref a), (.int (0 : Int32)), (.int (Int32.ofNat cs.length)), .null] below meth c s₁ [] 0 0 := Stand.of_body Bd
  have e0 : s₁.heap = h0 := by rw [← hh, Bd.state]; rfl
  have N0 := Fr.nil n0
  refine Goes.done ?_
  obtain ⟨W, hWd⟩ : ∃ W : State → Prop, W = EndW s below (QI4 Z x a ka cs zc h0 n0) ({ frames := 4, cells := 2, slots := 48, locals := 68 } : Room).cells ({ frames := 4, cells := 2, slots := 48, locals := 68 } : Room).slots := ⟨_, rfl⟩
  rw [← hWd]
  have hef : entryFrame m #[(.ref x), (.ref a), (.int (0 : Int32)), (.int (Int32.ofNat cs.length)), .null] 6 = (mkF m 0 #[.val (.ref x), .val (.ref a), .val (.int (0 : Int32)), .val (.int (Int32.ofNat cs.length)), .val .null, .unset] []) := by first | (simp [entryFrame, mkF, argsToLocals, Value.category]; done) | rfl
  rw [hef]
  have hnz : ¬ ((Int32.ofNat cs.length) = (0 : Int32)) := by rw [show (0 : Int32) = Int32.ofNat 0 from rfl, own_ninj (by omega) (by omega)]; omega
  refine Goes.on (T' := s₁) (g' := (mkF m 1 #[.val (.ref x), .val (.ref a), .val (.int (0 : Int32)), .val (.int (Int32.ofNat cs.length)), .val .null, .unset] [(.ref x)])) ?_ (fun t_ k_ => XS.aloadN X0.here hx rfl (hb hby d3_0) rfl rfl k_)
  obtain ⟨T1, X1, e1, st1⟩ := initO X0 hx hZ hown (hw _ (List.mem_of_getElem? (i := 16) rfl)) (hw _ (List.mem_of_getElem? (i := 17) rfl)) (hw _ (List.mem_of_getElem? (i := 18) rfl)) e0 (g := (mkF m 1 #[.val (.ref x), .val (.ref a), .val (.int (0 : Int32)), .val (.int (Int32.ofNat cs.length)), .val .null, .unset] [(.ref x)])) rfl (by rw [hml]; rfl) rfl (hb hby d3_1) (by decide) (W := 0) (by show 2 * 0 + _ ≤ _; exact Nat.le_of_eq rfl) (by decide)
  refine Goes.on (T' := T1) (g' := (mkF m 4 #[.val (.ref x), .val (.ref a), .val (.int (0 : Int32)), .val (.int (Int32.ofNat cs.length)), .val .null, .unset] [])) ?_ st1
  refine Goes.on (T' := T1) (g' := (mkF m 5 #[.val (.ref x), .val (.ref a), .val (.int (0 : Int32)), .val (.int (Int32.ofNat cs.length)), .val .null, .unset] [(.int (Int32.ofNat cs.length))])) ?_ (fun t_ k_ => XS.iloadN X1.here hx rfl (hb hby d3_4) rfl k_)
  refine Goes.on (T' := T1) (g' := (mkF m 27 #[.val (.ref x), .val (.ref a), .val (.int (0 : Int32)), .val (.int (Int32.ofNat cs.length)), .val .null, .unset] [])) ?_ (fun t_ k_ => XS.ifYes X1.here hx rfl (pc0 := 5) (pc' := 27) rfl (hb hby d3_5) rfl ((if0 _ _).trans (feq hnz).2) (by decide) (by decide) k_)
  obtain ⟨T2, X2, e2, st2⟩ := getS2 X1 hx hZ hown (host := "") (Or.inl (hw _ (List.mem_of_getElem? (i := 19) rfl))) Via.refl e1 (CS.ext X0_.2) (g := (mkF m 27 #[.val (.ref x), .val (.ref a), .val (.int (0 : Int32)), .val (.int (Int32.ofNat cs.length)), .val .null, .unset] [])) rfl (hb hby d3_27)
  refine Goes.on (T' := T2) (g' := (mkF m 30 #[.val (.ref x), .val (.ref a), .val (.int (0 : Int32)), .val (.int (Int32.ofNat cs.length)), .val .null, .unset] [(.int zc)])) ?_ st2
  refine Goes.on (T' := T2) (g' := (mkF m 33 #[.val (.ref x), .val (.ref a), .val (.int (0 : Int32)), .val (.int (Int32.ofNat cs.length)), .val .null, .unset] [])) ?_ (fun t_ k_ => XS.ifNo X2.here hx rfl (hb hby d3_30) rfl ((if0 _ _).trans (feq hzc).1) k_)
  refine Goes.on (T' := T2) (g' := (mkF m 34 #[.val (.ref x), .val (.ref a), .val (.int (0 : Int32)), .val (.int (Int32.ofNat cs.length)), .val .null, .unset] [(.ref a)])) ?_ (fun t_ k_ => XS.aloadN X2.here hx rfl (hb hby d3_33) rfl rfl k_)
  refine Goes.on (T' := T2) (g' := (mkF m 35 #[.val (.ref x), .val (.ref a), .val (.int (0 : Int32)), .val (.int (Int32.ofNat cs.length)), .val .null, .unset] [(.int (0 : Int32)), (.ref a)])) ?_ (fun t_ k_ => XS.iloadN X2.here hx rfl (hb hby d3_34) rfl k_)
  refine Goes.on (T' := T2) (g' := (mkF m 36 #[.val (.ref x), .val (.ref a), .val (.int (0 : Int32)), .val (.int (Int32.ofNat cs.length)), .val .null, .unset] [(.int (Int32.ofNat cs.length)), (.int (0 : Int32)), (.ref a)])) ?_ (fun t_ k_ => XS.iloadN X2.here hx rfl (hb hby d3_35) rfl k_)
  obtain ⟨_, _, ⟨T3, Lq_3, kq_3, nq_3⟩, -, X3, ⟨Lc3, hQ3, l3, y3, z3⟩, st3⟩ := Jvm.LawKit.callS X2 hx (y := (⟨"java/lang/StringUTF16", "compress", "([CII)[B"⟩ : MethodName)) hown (mvT hZ (hw _ (List.mem_of_getElem? (i := 20) rfl))) (mvT hZ (hw _ (List.mem_of_getElem? (i := 21) rfl))) (mvT hZ (hw _ (List.mem_of_getElem? (i := 22) rfl))) (mvT hZ (hw _ (List.mem_of_getElem? (i := 23) rfl))) (by decide) (backOf (W := 0) (rmC3 l Z a0 hw [] a ka cs h0 n0 Z0 K hp hl AD HB LB X0_) hZ (hw _ (List.mem_of_getElem? (i := 23) rfl)) (hw _ (List.mem_of_getElem? (i := 22) rfl)) (by decide) (by decide)) (g := (mkF m 36 #[.val (.ref x), .val (.ref a), .val (.int (0 : Int32)), .val (.int (Int32.ofNat cs.length)), .val .null, .unset] [(.int (Int32.ofNat cs.length)), (.int (0 : Int32)), (.ref a)])) rfl (by rw [hml]; rfl) (argsL := [(.ref a), (.int (0 : Int32)), (.int (Int32.ofNat cs.length))]) (rest := []) (lenOf pd_4 rfl) rfl (by show 2 * 0 + _ ≤ _; exact Nat.le_of_eq rfl) (hb hby d3_36) (fun _ _ => ⟨rfl, e2, (by decide : 0 + 2 ≤ _), (by decide : 0 + 48 ≤ _)⟩)
  dsimp only [Pt.U, Pt.locs, Pt.cells, Pt.slots] at X3 l3 y3 z3 st3 hQ3
  rw [l3, y3, z3] at X3
  change Stand p l e _ _ m _ below meth c T3 _ 2 48 at X3
  obtain ⟨tt, kt, cd, rfl, N3q, K3, sz, BY⟩ := hQ3
  have N3 := Fr.app N0 N3q
  refine Goes.on (T' := T3) (g' := (mkF m 39 #[.val (.ref x), .val (.ref a), .val (.int (0 : Int32)), .val (.int (Int32.ofNat cs.length)), .val .null, .unset] [(.ref tt)])) ?_ st3
  have Zc : n0 ≤ T3.heap.size := Nat.le_trans Z0 K3.1
  have tx : tt ≠ x := Ne.symm (Nat.ne_of_lt (Nat.lt_of_lt_of_le E.lt sz))
  have fx4 := FV.keep K3 nin0
  have fx5 := FC.keep K3 nin0
  have fx6 := E.keep K3
  obtain ⟨zz, vv, Bz, ez⟩ : ∃ (zz : Int32) (vv : List Value), Arv Z T3.heap tt kt .byte zz vv (.int 0) ∧ own_cdr (Int32.ofNat cs.length) zz = cd := by
    rcases id BY with ⟨q1, -, q2⟩ | ⟨q1, -, q2⟩
    · exact ⟨_, _, q2, by rw [q1]; exact own_cdr0 _⟩
    · exact ⟨_, _, q2, by rw [q1]; exact own_cdr1 hl0 hl⟩
  have nb : narrow .byte (.int cd) = .int cd ∧ fits .byte (.int cd) = true := by rcases id BY with ⟨q1, -⟩ | ⟨q1, -⟩ <;> rw [q1] <;> exact ⟨rfl, rfl⟩
  refine Goes.on (T' := T3) (g' := (mkF m 41 #[.val (.ref x), .val (.ref a), .val (.int (0 : Int32)), .val (.int (Int32.ofNat cs.length)), .val .null, .val (.ref tt)] [])) ?_ (fun t_ k_ => XS.astore X3.here hx rfl (hb hby d3_39) rfl rfl (l' := #[.val (.ref x), .val (.ref a), .val (.int (0 : Int32)), .val (.int (Int32.ofNat cs.length)), .val .null, .val (.ref tt)]) rfl k_)
  refine Goes.on (T' := T3) (g' := (mkF m 42 #[.val (.ref x), .val (.ref a), .val (.int (0 : Int32)), .val (.int (Int32.ofNat cs.length)), .val .null, .val (.ref tt)] [(.ref x)])) ?_ (fun t_ k_ => XS.aloadN X3.here hx rfl (hb hby d3_41) rfl rfl k_)
  refine Goes.on (T' := T3) (g' := (mkF m 44 #[.val (.ref x), .val (.ref a), .val (.int (0 : Int32)), .val (.int (Int32.ofNat cs.length)), .val .null, .val (.ref tt)] [(.ref tt), (.ref x)])) ?_ (fun t_ k_ => XS.aload X3.here hx rfl (hb hby d3_42) rfl rfl k_)
  refine Goes.on (T' := T3) (g' := (mkF m 45 #[.val (.ref x), .val (.ref a), .val (.int (0 : Int32)), .val (.int (Int32.ofNat cs.length)), .val .null, .val (.ref tt)] [(.int (Int32.ofNat cs.length)), (.ref tt), (.ref x)])) ?_ (fun t_ k_ => XS.iloadN X3.here hx rfl (hb hby d3_44) rfl k_)
  obtain ⟨_, _, ⟨T7, Lq_7, kq_7, nq_7⟩, -, X7, ⟨Lc7, hQ7, l7, y7, z7⟩, st7⟩ := Jvm.LawKit.callS X3 hx (y := (⟨"java/lang/StringUTF16", "coderFromArrayLen", "([BI)B"⟩ : MethodName)) hown (mvT hZ (hw _ (List.mem_of_getElem? (i := 28) rfl))) (mvT hZ (hw _ (List.mem_of_getElem? (i := 29) rfl))) (mvT hZ (hw _ (List.mem_of_getElem? (i := 22) rfl))) (mvT hZ (hw _ (List.mem_of_getElem? (i := 30) rfl))) (by decide) (backOf (W := 1) (rmCL l Z a0 hw [] tt kt (Int32.ofNat cs.length) zz vv T3.heap n0 Zc Bz) hZ (hw _ (List.mem_of_getElem? (i := 30) rfl)) (hw _ (List.mem_of_getElem? (i := 22) rfl)) (by decide) (by decide)) (g := (mkF m 45 #[.val (.ref x), .val (.ref a), .val (.int (0 : Int32)), .val (.int (Int32.ofNat cs.length)), .val .null, .val (.ref tt)] [(.int (Int32.ofNat cs.length)), (.ref tt), (.ref x)])) rfl (by rw [hml]; rfl) (argsL := [(.ref tt), (.int (Int32.ofNat cs.length))]) (rest := [(.ref x)]) (lenOf pd_6 rfl) rfl (by show 2 * 0 + _ ≤ _; exact Nat.le_of_eq rfl) (hb hby d3_45) (fun _ _ => ⟨rfl, rfl, (by decide : 2 + 0 ≤ _), (by decide : 48 + 0 ≤ _)⟩)
  dsimp only [Pt.U, Pt.locs, Pt.cells, Pt.slots] at X7 l7 y7 z7 st7 hQ7
  rw [l7, y7, z7] at X7
  change Stand p l e _ _ m _ below meth c T7 _ 2 48 at X7
  obtain ⟨rfl, N7q, eh7⟩ := hQ7
  have N7 := Fr.app N3 N7q
  refine Goes.on (T' := T7) (g' := (mkF m 48 #[.val (.ref x), .val (.ref a), .val (.int (0 : Int32)), .val (.int (Int32.ofNat cs.length)), .val .null, .val (.ref tt)] [(.int (own_cdr (Int32.ofNat cs.length) zz)), (.ref x)])) ?_ st7
  rw [ez]
  obtain ⟨T8, h8, X8, e8, W8, st8⟩ := putF X7 hx hZ hown (host := "") (Or.inl (hw _ (List.mem_of_getElem? (i := 31) rfl))) Via.refl eh7 fx5 fx6 (Or.inr ⟨(hw _ (List.mem_of_getElem? (i := 32) rfl)), rfl, hnm⟩) (hw _ (List.mem_of_getElem? (i := 7) rfl)) (ty := .byte) (by decide) nb.1 nb.2 (g := (mkF m 48 #[.val (.ref x), .val (.ref a), .val (.int (0 : Int32)), .val (.int (Int32.ofNat cs.length)), .val .null, .val (.ref tt)] [(.int cd), (.ref x)])) rfl rfl (hb hby d3_48)
  have N8 := Fr.snoc X8 N7 ga
  have Z8 : n0 ≤ h8.size := Nat.le_trans Zc (Nat.le_of_eq W8.size.symm)
  refine Goes.on (T' := T8) (g' := (mkF m 51 #[.val (.ref x), .val (.ref a), .val (.int (0 : Int32)), .val (.int (Int32.ofNat cs.length)), .val .null, .val (.ref tt)] [])) ?_ st8
  have fx9 := fx4.other W8 (Or.inr (slot_ne (Or.inr (hw _ (List.mem_of_getElem? (i := 34) rfl))) (Or.inr (hw _ (List.mem_of_getElem? (i := 32) rfl))) (by decide) (t := (.array .byte)) (t' := .byte) (by decide) (by decide)))
  have fx10 := fx5.same W8
  have fx11 := fx6.wr W8
  have BY8 := BY.other W8 tx
  refine Goes.on (T' := T8) (g' := (mkF m 52 #[.val (.ref x), .val (.ref a), .val (.int (0 : Int32)), .val (.int (Int32.ofNat cs.length)), .val .null, .val (.ref tt)] [(.ref x)])) ?_ (fun t_ k_ => XS.aloadN X8.here hx rfl (hb hby d3_51) rfl rfl k_)
  refine Goes.on (T' := T8) (g' := (mkF m 54 #[.val (.ref x), .val (.ref a), .val (.int (0 : Int32)), .val (.int (Int32.ofNat cs.length)), .val .null, .val (.ref tt)] [(.ref tt), (.ref x)])) ?_ (fun t_ k_ => XS.aload X8.here hx rfl (hb hby d3_52) rfl rfl k_)
  obtain ⟨T12, h12, X12, e12, W12, st12⟩ := putF X8 hx hZ hown (host := "") (Or.inl (hw _ (List.mem_of_getElem? (i := 33) rfl))) Via.refl e8 fx9 fx11 (Or.inr ⟨(hw _ (List.mem_of_getElem? (i := 34) rfl)), rfl, hnm⟩) (hw _ (List.mem_of_getElem? (i := 7) rfl)) (ty := (.array .byte)) (by decide) rfl rfl (g := (mkF m 54 #[.val (.ref x), .val (.ref a), .val (.int (0 : Int32)), .val (.int (Int32.ofNat cs.length)), .val .null, .val (.ref tt)] [(.ref tt), (.ref x)])) rfl rfl (hb hby d3_54)
  have N12 := Fr.snoc X12 N8 ga
  have Z12 : n0 ≤ h12.size := Nat.le_trans Z8 (Nat.le_of_eq W12.size.symm)
  refine Goes.on (T' := T12) (g' := (mkF m 57 #[.val (.ref x), .val (.ref a), .val (.int (0 : Int32)), .val (.int (Int32.ofNat cs.length)), .val .null, .val (.ref tt)] [])) ?_ st12
  have fx13 := fx9.same W12
  have fx14 := fx10.other W12 (Or.inr (slot_ne (Or.inr (hw _ (List.mem_of_getElem? (i := 32) rfl))) (Or.inr (hw _ (List.mem_of_getElem? (i := 34) rfl))) (by decide) (t := .byte) (t' := (.array .byte)) (by decide) (by decide)))
  have fx15 := fx11.wr W12
  have BY12 := BY8.other W12 tx
  rw [hWd]
  exact Goes.retn X12 (v := none) (fun fs hr => X12.returnOut hx Bd.returns (hb hby d3_57) hr) (fun _ => rfl) Bd.notSynchronized (by decide) (by decide) (by rw [e12]; exact ⟨rfl, N12, ((Keep.refl h0 [x]).trans K3 (fun y hy => absurd hy List.not_mem_nil)).trans (((Keep.refl _ [x]).wr W8 (Or.inl (List.mem_cons_self ..))).wr W12 (Or.inl (List.mem_cons_self ..))) (fun y hy => Or.inl hy), tt, kt, cd, sz, fx15, fx14, fx13, BY12⟩)
def QI1 (Z : State) (x a : Addr) (ka : ClassId) (cs : List Int32) (zc : Int32) (h0 : Heap) (n0 : Nat) (v : Option Value) (h : Heap) (L : List Loc) : Prop := v = none ∧ Fr n0 L ∧ Keep h0 h [x] ∧ ∃ t kt cd, h0.size ≤ t ∧ Txt Z h x t kt cs cd
set_option maxRecDepth 65536 in
set_option maxHeartbeats 40000000 in
theorem rmI1 (l : Launch) (Z : State) (a0 : Array Value) (hw : ∀ d ∈ tables_1, d.before a0 Z = true) (ws : List Jvm.Cond) (x a : Addr) (ka : ClassId) (cs : List Int32) (zc : Int32) (h0 : Heap) (n0 : Nat) (Z0 : n0 ≤ h0.size) (E : Exa Z h0 x "java/lang/String") (FV : Fld Z h0 x "java/lang/String" "value" "[B" .null) (FC : Fld Z h0 x "java/lang/String" "coder" "B" (.int (0 : Int32))) (ga : n0 ≤ x) (K : Arv Z h0 a ka .char (Int32.ofNat cs.length) (cs.map Value.int) (.int 0)) (hp : ∀ c ∈ cs, ¬ c < 0 ∧ ¬ (65535 : Int32) < c) (hl : cs.length ≤ 16) (hl0 : 0 < cs.length) (CS : Sta Z Z.heap "java/lang/String" "COMPACT_STRINGS" "Z" (.int zc)) (hzc : ¬ zc = (0 : Int32)) (AD : Sta Z Z.heap "java/lang/StringUTF16" "$assertionsDisabled" "Z" (.int (1 : Int32))) (HB : Sta Z Z.heap "java/lang/StringUTF16" "HI_BYTE_SHIFT" "I" (.int (0 : Int32))) (LB : Sta Z Z.heap "java/lang/StringUTF16" "LO_BYTE_SHIFT" "I" (.int (8 : Int32))) (X0_ : Old Z n0 h0) :
    MetFree l (⟨"java/lang/String", "<init>", "([C)V"⟩ : MethodName) (head1 (Jvm.Cond.code (⟨"java/lang/String", "<init>", "([C)V"⟩ : MethodName) jdk_42_method_3_code 2 none :: ws) ({ frames := 5, cells := 2, slots := 48, locals := 86 } : Room)) (fun a_ U => a_ = #[(.ref x), (.ref a)] ∧ Z.Warmed39 U.vm ∧ U.heap = h0) (fun _ _ _ _ _ => True) (fun _ U o U' => ∃ v L, o = .returned v ∧ QI1 Z x a ka cs zc h0 n0 v U'.heap L ∧ FrameEnd U o U' L ({ frames := 5, cells := 2, slots := 48, locals := 86 } : Room).cells ({ frames := 5, cells := 2, slots := 48, locals := 86 } : Room).slots) := by
  refine MetFree.of_bodySF (plainFor_of_name pn_1) hisR ?_
  intro p e s m args below meth c s₁ Bd hml0 hP hK
  obtain ⟨rfl, hZ, hh⟩ := hP
  have hx := Bd.exec
  have hby := Bd.bytes
  have hml : c.maxLocals = 2 := hml0
  have hown : s.vm.findClass "java/lang/String" = some m.cls := findClass_of_methodNamed Bd.named
  have hnm := (name_of_methodNamed Bd.named Bd.method).1
  have X0 : Stand p l e ({ frames := 5, cells := 2, slots := 48, locals := 86 } : Room) s m #[(.ref x), (.ref a)] below meth c s₁ [] 0 0 := Stand.of_body Bd
  have e0 : s₁.heap = h0 := by rw [← hh, Bd.state]; rfl
  have N0 := Fr.nil n0
  refine Goes.done ?_
  obtain ⟨W, hWd⟩ : ∃ W : State → Prop, W = EndW s below (QI1 Z x a ka cs zc h0 n0) ({ frames := 5, cells := 2, slots := 48, locals := 86 } : Room).cells ({ frames := 5, cells := 2, slots := 48, locals := 86 } : Room).slots := ⟨_, rfl⟩
  rw [← hWd]
  have hef : entryFrame m #[(.ref x), (.ref a)] 2 = (mkF m 0 #[.val (.ref x), .val (.ref a)] []) := by first | (simp [entryFrame, mkF, argsToLocals, Value.category]; done) | rfl
  rw [hef]
  obtain ⟨cA, A1, -, S1, M1, H1, -⟩ := id K
  refine Goes.on (T' := s₁) (g' := (mkF m 1 #[.val (.ref x), .val (.ref a)] [(.ref x)])) ?_ (fun t_ k_ => XS.aloadN X0.here hx rfl (hb hby d2_0) rfl rfl k_)
  refine Goes.on (T' := s₁) (g' := (mkF m 2 #[.val (.ref x), .val (.ref a)] [(.ref a), (.ref x)])) ?_ (fun t_ k_ => XS.aloadN X0.here hx rfl (hb hby d2_1) rfl rfl k_)
  refine Goes.on (T' := s₁) (g' := (mkF m 3 #[.val (.ref x), .val (.ref a)] [(.int (0 : Int32)), (.ref a), (.ref x)])) ?_ (fun t_ k_ => XS.iconst X0.here hx rfl (hb hby d2_2) k_)
  refine Goes.on (T' := s₁) (g' := (mkF m 4 #[.val (.ref x), .val (.ref a)] [(.ref a), (.int (0 : Int32)), (.ref a), (.ref x)])) ?_ (fun t_ k_ => XS.aloadN X0.here hx rfl (hb hby d2_3) rfl rfl k_)
  refine Goes.on (T' := s₁) (g' := (mkF m 5 #[.val (.ref x), .val (.ref a)] [(.int cA.slots.size.toInt32), (.int (0 : Int32)), (.ref a), (.ref x)])) ?_ (X0.arraylength hx (by rw [e0]; exact A1.1) (State.isArrayOf_alike hZ.alike A1.2.1) (g := (mkF m 4 #[.val (.ref x), .val (.ref a)] [(.ref a), (.int (0 : Int32)), (.ref a), (.ref x)])) rfl rfl (hb hby d2_4))
  rw [len_of S1 M1]
  refine Goes.on (T' := s₁) (g' := (mkF m 6 #[.val (.ref x), .val (.ref a)] [.null, (.int (Int32.ofNat cs.length)), (.int (0 : Int32)), (.ref a), (.ref x)])) ?_ (fun t_ k_ => XS.aconstNull X0.here hx rfl (hb hby d2_5) k_)
  obtain ⟨_, _, ⟨T1, Lq_1, kq_1, nq_1⟩, -, X1, ⟨Lc1, hQ1, l1, y1, z1⟩, st1⟩ := X0.specialBack hx (y := (⟨"java/lang/String", "<init>", "([CIILjava/lang/Void;)V"⟩ : MethodName)) rfl hown (mvT hZ (hw _ (List.mem_of_getElem? (i := 12) rfl))) (mvT hZ (hw _ (List.mem_of_getElem? (i := 13) rfl))) (mvT hZ (hw _ (List.mem_of_getElem? (i := 15) rfl))) (by decide) (backOf (W := 0) (rmI4 l Z a0 hw [] x a ka cs zc h0 n0 Z0 E FV FC ga K hp hl hl0 CS hzc AD HB LB X0_) hZ (hw _ (List.mem_of_getElem? (i := 15) rfl)) (hw _ (List.mem_of_getElem? (i := 8) rfl)) (by decide) (by decide)) (g := (mkF m 6 #[.val (.ref x), .val (.ref a)] [.null, (.int (Int32.ofNat cs.length)), (.int (0 : Int32)), (.ref a), (.ref x)])) rfl (by rw [hml]; rfl) (Steps.refl _) (a := x) (argsL := [(.ref a), (.int (0 : Int32)), (.int (Int32.ofNat cs.length)), .null]) (rest := []) (lenOf pd_7 rfl) rfl (by show 2 * 0 + _ ≤ _; exact Nat.le_of_eq rfl) (hb hby d2_6) (fun _ _ => ⟨rfl, e0, (by decide : 0 + 2 ≤ _), (by decide : 0 + 48 ≤ _)⟩)
  dsimp only [Pt.U, Pt.locs, Pt.cells, Pt.slots] at X1 l1 y1 z1 st1 hQ1
  rw [l1, y1, z1] at X1
  change Stand p l e _ _ m _ below meth c T1 _ 2 48 at X1
  obtain ⟨rfl, N1q, KP, TX⟩ := hQ1
  have N1 := Fr.app N0 N1q
  refine Goes.on (T' := T1) (g' := (mkF m 9 #[.val (.ref x), .val (.ref a)] [])) ?_ (fun t => st1.trans)
  rw [hWd]
  exact Goes.retn X1 (v := none) (fun fs hr => X1.returnOut hx Bd.returns (hb hby d2_9) hr) (fun _ => rfl) Bd.notSynchronized (by decide) (by decide) ⟨rfl, N1, KP, TX⟩
def QLA (Z : State) (x : Addr) (cd zc : Int32) (h0 : Heap) (n0 : Nat) (v : Option Value) (h : Heap) (L : List Loc) : Prop := v = some (.int (if cd = 0 then 1 else 0)) ∧ Fr n0 L ∧ h = h0
set_option maxRecDepth 65536 in
set_option maxHeartbeats 40000000 in
theorem rmLA (l : Launch) (Z : State) (a0 : Array Value) (hw : ∀ d ∈ tables_1, d.before a0 Z = true) (ws : List Jvm.Cond) (x : Addr) (cd zc : Int32) (h0 : Heap) (n0 : Nat) (Z0 : n0 ≤ h0.size) (FC : Fld Z h0 x "java/lang/String" "coder" "B" (.int cd)) (CS : Sta Z Z.heap "java/lang/String" "COMPACT_STRINGS" "Z" (.int zc)) (hzc : ¬ zc = (0 : Int32)) (X0_ : Old Z n0 h0) :
    MetFree l (⟨"java/lang/String", "isLatin1", "()Z"⟩ : MethodName) (head1 (Jvm.Cond.code (⟨"java/lang/String", "isLatin1", "()Z"⟩ : MethodName) jdk_42_method_154_code 1 (some .boolean) :: ws) ({ frames := 0, cells := 0, slots := 0, locals := 0 } : Room)) (fun a_ U => a_ = #[(.ref x)] ∧ Z.Warmed39 U.vm ∧ U.heap = h0) (fun _ _ _ _ _ => True) (fun _ U o U' => ∃ v L, o = .returned v ∧ QLA Z x cd zc h0 n0 v U'.heap L ∧ FrameEnd U o U' L ({ frames := 0, cells := 0, slots := 0, locals := 0 } : Room).cells ({ frames := 0, cells := 0, slots := 0, locals := 0 } : Room).slots) := by
  refine MetFree.of_bodySF (plainFor_of_name pn_1) hisR ?_
  intro p e s m args below meth c s₁ Bd hml0 hP hK
  obtain ⟨rfl, hZ, hh⟩ := hP
  have hx := Bd.exec
  have hby := Bd.bytes
  have hml : c.maxLocals = 1 := hml0
  have hown : s.vm.findClass "java/lang/String" = some m.cls := findClass_of_methodNamed Bd.named
  have hnm := (name_of_methodNamed Bd.named Bd.method).1
  have X0 : Stand p l e ({ frames := 0, cells := 0, slots := 0, locals := 0 } : Room) s m #[(.ref x)] below meth c s₁ [] 0 0 := Stand.of_body Bd
  have e0 : s₁.heap = h0 := by rw [← hh, Bd.state]; rfl
  have N0 := Fr.nil n0
  refine Goes.done ?_
  obtain ⟨W, hWd⟩ : ∃ W : State → Prop, W = EndW s below (QLA Z x cd zc h0 n0) ({ frames := 0, cells := 0, slots := 0, locals := 0 } : Room).cells ({ frames := 0, cells := 0, slots := 0, locals := 0 } : Room).slots := ⟨_, rfl⟩
  rw [← hWd]
  have hef : entryFrame m #[(.ref x)] 1 = (mkF m 0 #[.val (.ref x)] []) := by first | (simp [entryFrame, mkF, argsToLocals, Value.category]; done) | rfl
  rw [hef]
  obtain ⟨T1, X1, e1, st1⟩ := getS2 X0 hx hZ hown (host := "") (Or.inl (hw _ (List.mem_of_getElem? (i := 19) rfl))) Via.refl e0 (CS.ext X0_.2) (g := (mkF m 0 #[.val (.ref x)] [])) rfl (hb hby d14_0)
  refine Goes.on (T' := T1) (g' := (mkF m 3 #[.val (.ref x)] [(.int zc)])) ?_ st1
  refine Goes.on (T' := T1) (g' := (mkF m 6 #[.val (.ref x)] [])) ?_ (fun t_ k_ => XS.ifNo X1.here hx rfl (hb hby d14_3) rfl ((if0 _ _).trans (feq hzc).1) k_)
  refine Goes.on (T' := T1) (g' := (mkF m 7 #[.val (.ref x)] [(.ref x)])) ?_ (fun t_ k_ => XS.aloadN X1.here hx rfl (hb hby d14_6) rfl rfl k_)
  obtain ⟨T2, X2, e2, st2⟩ := getF X1 hx hZ hown (host := "") (Or.inl (hw _ (List.mem_of_getElem? (i := 31) rfl))) Via.refl e1 FC (g := (mkF m 7 #[.val (.ref x)] [(.ref x)])) rfl rfl (hb hby d14_7)
  refine Goes.on (T' := T2) (g' := (mkF m 10 #[.val (.ref x)] [(.int cd)])) ?_ st2
  refine Goes.ifN X2 hx rfl (pc0 := 10) (pc' := 17) rfl (hb hby d14_10) rfl (by decide) (by decide) (P := cd = (0 : Int32)) (ifc_ne _ _) (fun hc10 => ?_) (fun hc10 => ?_)
  · show Goes p e below W T2 (mkF m 17 #[.val (.ref x)] [])
    refine Goes.on (T' := T2) (g' := (mkF m 18 #[.val (.ref x)] [(.int (0 : Int32))])) ?_ (fun t_ k_ => XS.iconst X2.here hx rfl (hb hby d14_17) k_)
    rw [hWd]
    exact Goes.retn X2 (v := some (.int (nar .boolean (0 : Int32)))) (fun fs hr => retN X2 hx (t := .boolean) Bd.returns (by simp) (hb hby d14_18) hr) (fun h => by rw [Bd.returns] at h; cases h) Bd.notSynchronized (by decide) (by decide) (by rw [e2]; exact ⟨by rw [if_neg hc10]; rfl, N0, rfl⟩)
  · show Goes p e below W T2 (mkF m 13 #[.val (.ref x)] [])
    refine Goes.on (T' := T2) (g' := (mkF m 14 #[.val (.ref x)] [(.int (1 : Int32))])) ?_ (fun t_ k_ => XS.iconst X2.here hx rfl (hb hby d14_13) k_)
    refine Goes.on (T' := T2) (g' := (mkF m 18 #[.val (.ref x)] [(.int (1 : Int32))])) ?_ (fun t_ k_ => XS.goto X2.here hx rfl (pc0 := 14) (pc' := 18) rfl (hb hby d14_14) (by decide) (by decide) k_)
    rw [hWd]
    exact Goes.retn X2 (v := some (.int (nar .boolean (1 : Int32)))) (fun fs hr => retN X2 hx (t := .boolean) Bd.returns (by simp) (hb hby d14_18) hr) (fun h => by rw [Bd.returns] at h; cases h) Bd.notSynchronized (by decide) (by decide) (by rw [e2]; exact ⟨by rw [if_pos hc10]; rfl, N0, rfl⟩)
def QPI (Z : State) (i n : Nat) (vf : Value) (h0 : Heap) (n0 : Nat) (v : Option Value) (h : Heap) (L : List Loc) : Prop := v = some (.int (Int32.ofNat i)) ∧ Fr n0 L ∧ h = h0
set_option maxRecDepth 65536 in
set_option maxHeartbeats 40000000 in
theorem rmPI (l : Launch) (Z : State) (a0 : Array Value) (hw : ∀ d ∈ tables_1, d.before a0 Z = true) (ws : List Jvm.Cond) (i n : Nat) (vf : Value) (h0 : Heap) (n0 : Nat) (Z0 : n0 ≤ h0.size) (hin : i < n) (hn : n ≤ 4000) (rG : vf.isRef = true) :
    MetFree l (⟨"jdk/internal/util/Preconditions", "checkIndex", "(IILjava/util/function/BiFunction;)I"⟩ : MethodName) (head1 (Jvm.Cond.code (⟨"jdk/internal/util/Preconditions", "checkIndex", "(IILjava/util/function/BiFunction;)I"⟩ : MethodName) jdk_41_method_11_code 3 (some .int) :: ws) ({ frames := 0, cells := 0, slots := 0, locals := 0 } : Room)) (fun a_ U => a_ = #[(.int (Int32.ofNat i)), (.int (Int32.ofNat n)), vf] ∧ Z.Warmed39 U.vm ∧ U.heap = h0) (fun _ _ _ _ _ => True) (fun _ U o U' => ∃ v L, o = .returned v ∧ QPI Z i n vf h0 n0 v U'.heap L ∧ FrameEnd U o U' L ({ frames := 0, cells := 0, slots := 0, locals := 0 } : Room).cells ({ frames := 0, cells := 0, slots := 0, locals := 0 } : Room).slots) := by
  refine MetFree.of_bodySF (plainFor_of_name pn_2) hisR ?_
  intro p e s m args below meth c s₁ Bd hml0 hP hK
  obtain ⟨rfl, hZ, hh⟩ := hP
  have hx := Bd.exec
  have hby := Bd.bytes
  have hml : c.maxLocals = 3 := hml0
  have hown : s.vm.findClass "jdk/internal/util/Preconditions" = some m.cls := findClass_of_methodNamed Bd.named
  have hnm := (name_of_methodNamed Bd.named Bd.method).1
  have X0 : Stand p l e ({ frames := 0, cells := 0, slots := 0, locals := 0 } : Room) s m #[(.int (Int32.ofNat i)), (.int (Int32.ofNat n)), vf] below meth c s₁ [] 0 0 := Stand.of_body Bd
  have e0 : s₁.heap = h0 := by rw [← hh, Bd.state]; rfl
  have N0 := Fr.nil n0
  refine Goes.done ?_
  obtain ⟨W, hWd⟩ : ∃ W : State → Prop, W = EndW s below (QPI Z i n vf h0 n0) ({ frames := 0, cells := 0, slots := 0, locals := 0 } : Room).cells ({ frames := 0, cells := 0, slots := 0, locals := 0 } : Room).slots := ⟨_, rfl⟩
  rw [← hWd]
  have hef : entryFrame m #[(.int (Int32.ofNat i)), (.int (Int32.ofNat n)), vf] 3 = (mkF m 0 #[.val (.int (Int32.ofNat i)), .val (.int (Int32.ofNat n)), .val vf] []) := by rcases ref_cases rG with rfl | ⟨r_2, rfl⟩ <;> first | (simp [entryFrame, mkF, argsToLocals, Value.category]; done) | rfl
  rw [hef]
  have hnn : ¬ (Int32.ofNat i < 0) := own_nn (by omega)
  have hlt : Int32.ofNat i < Int32.ofNat n := by rw [own_nlt (by omega) (by omega)]; omega
  refine Goes.on (T' := s₁) (g' := (mkF m 1 #[.val (.int (Int32.ofNat i)), .val (.int (Int32.ofNat n)), .val vf] [(.int (Int32.ofNat i))])) ?_ (fun t_ k_ => XS.iloadN X0.here hx rfl (hb hby d17_0) rfl k_)
  refine Goes.on (T' := s₁) (g' := (mkF m 4 #[.val (.int (Int32.ofNat i)), .val (.int (Int32.ofNat n)), .val vf] [])) ?_ (fun t_ k_ => XS.ifNo X0.here hx rfl (hb hby d17_1) rfl ((if0 _ _).trans (flt hnn).1) k_)
  refine Goes.on (T' := s₁) (g' := (mkF m 5 #[.val (.int (Int32.ofNat i)), .val (.int (Int32.ofNat n)), .val vf] [(.int (Int32.ofNat i))])) ?_ (fun t_ k_ => XS.iloadN X0.here hx rfl (hb hby d17_4) rfl k_)
  refine Goes.on (T' := s₁) (g' := (mkF m 6 #[.val (.int (Int32.ofNat i)), .val (.int (Int32.ofNat n)), .val vf] [(.int (Int32.ofNat n)), (.int (Int32.ofNat i))])) ?_ (fun t_ k_ => XS.iloadN X0.here hx rfl (hb hby d17_5) rfl k_)
  refine Goes.on (T' := s₁) (g' := (mkF m 16 #[.val (.int (Int32.ofNat i)), .val (.int (Int32.ofNat n)), .val vf] [])) ?_ (fun t_ k_ => XS.icmpYes X0.here hx rfl (pc0 := 6) (pc' := 16) rfl (hb hby d17_6) rfl (tlt hlt).1 (by decide) (by decide) k_)
  refine Goes.on (T' := s₁) (g' := (mkF m 17 #[.val (.int (Int32.ofNat i)), .val (.int (Int32.ofNat n)), .val vf] [(.int (Int32.ofNat i))])) ?_ (fun t_ k_ => XS.iloadN X0.here hx rfl (hb hby d17_16) rfl k_)
  rw [hWd]
  exact Goes.retn X0 (v := some (.int (Int32.ofNat i))) (fun fs hr => retI X0 hx Bd.returns (hb hby d17_17) hr) (fun h => by rw [Bd.returns] at h; cases h) Bd.notSynchronized (by decide) (by decide) (by rw [e0]; exact ⟨rfl, N0, rfl⟩)
def QSI (Z : State) (i n : Nat) (vf : Value) (h0 : Heap) (n0 : Nat) (v : Option Value) (h : Heap) (L : List Loc) : Prop := v = none ∧ Fr n0 L ∧ h = h0
set_option maxRecDepth 65536 in
set_option maxHeartbeats 40000000 in
theorem rmSI (l : Launch) (Z : State) (a0 : Array Value) (hw : ∀ d ∈ tables_1, d.before a0 Z = true) (ws : List Jvm.Cond) (i n : Nat) (vf : Value) (h0 : Heap) (n0 : Nat) (Z0 : n0 ≤ h0.size) (hin : i < n) (hn : n ≤ 4000) (SO : Sta Z Z.heap "jdk/internal/util/Preconditions" "SIOOBE_FORMATTER" "Ljava/util/function/BiFunction;" vf) (rG : vf.isRef = true) (X0_ : Old Z n0 h0) :
    MetFree l (⟨"java/lang/String", "checkIndex", "(II)V"⟩ : MethodName) (head1 (Jvm.Cond.code (⟨"java/lang/String", "checkIndex", "(II)V"⟩ : MethodName) jdk_42_method_155_code 2 none :: ws) ({ frames := 1, cells := 0, slots := 0, locals := 14 } : Room)) (fun a_ U => a_ = #[(.int (Int32.ofNat i)), (.int (Int32.ofNat n))] ∧ Z.Warmed39 U.vm ∧ U.heap = h0) (fun _ _ _ _ _ => True) (fun _ U o U' => ∃ v L, o = .returned v ∧ QSI Z i n vf h0 n0 v U'.heap L ∧ FrameEnd U o U' L ({ frames := 1, cells := 0, slots := 0, locals := 14 } : Room).cells ({ frames := 1, cells := 0, slots := 0, locals := 14 } : Room).slots) := by
  refine MetFree.of_bodySF (plainFor_of_name pn_1) hisR ?_
  intro p e s m args below meth c s₁ Bd hml0 hP hK
  obtain ⟨rfl, hZ, hh⟩ := hP
  have hx := Bd.exec
  have hby := Bd.bytes
  have hml : c.maxLocals = 2 := hml0
  have hown : s.vm.findClass "java/lang/String" = some m.cls := findClass_of_methodNamed Bd.named
  have hnm := (name_of_methodNamed Bd.named Bd.method).1
  have X0 : Stand p l e ({ frames := 1, cells := 0, slots := 0, locals := 14 } : Room) s m #[(.int (Int32.ofNat i)), (.int (Int32.ofNat n))] below meth c s₁ [] 0 0 := Stand.of_body Bd
  have e0 : s₁.heap = h0 := by rw [← hh, Bd.state]; rfl
  have N0 := Fr.nil n0
  refine Goes.done ?_
  obtain ⟨W, hWd⟩ : ∃ W : State → Prop, W = EndW s below (QSI Z i n vf h0 n0) ({ frames := 1, cells := 0, slots := 0, locals := 14 } : Room).cells ({ frames := 1, cells := 0, slots := 0, locals := 14 } : Room).slots := ⟨_, rfl⟩
  rw [← hWd]
  have hef : entryFrame m #[(.int (Int32.ofNat i)), (.int (Int32.ofNat n))] 2 = (mkF m 0 #[.val (.int (Int32.ofNat i)), .val (.int (Int32.ofNat n))] []) := by first | (simp [entryFrame, mkF, argsToLocals, Value.category]; done) | rfl
  rw [hef]
  refine Goes.on (T' := s₁) (g' := (mkF m 1 #[.val (.int (Int32.ofNat i)), .val (.int (Int32.ofNat n))] [(.int (Int32.ofNat i))])) ?_ (fun t_ k_ => XS.iloadN X0.here hx rfl (hb hby d16_0) rfl k_)
  refine Goes.on (T' := s₁) (g' := (mkF m 2 #[.val (.int (Int32.ofNat i)), .val (.int (Int32.ofNat n))] [(.int (Int32.ofNat n)), (.int (Int32.ofNat i))])) ?_ (fun t_ k_ => XS.iloadN X0.here hx rfl (hb hby d16_1) rfl k_)
  obtain ⟨T1, X1, e1, st1⟩ := getS2 X0 hx hZ hown (host := "") (Or.inl (hw _ (List.mem_of_getElem? (i := 69) rfl))) Via.refl e0 (SO.ext X0_.2) (g := (mkF m 2 #[.val (.int (Int32.ofNat i)), .val (.int (Int32.ofNat n))] [(.int (Int32.ofNat n)), (.int (Int32.ofNat i))])) rfl (hb hby d16_2)
  refine Goes.on (T' := T1) (g' := (mkF m 5 #[.val (.int (Int32.ofNat i)), .val (.int (Int32.ofNat n))] [vf, (.int (Int32.ofNat n)), (.int (Int32.ofNat i))])) ?_ st1
  obtain ⟨_, _, ⟨T2, Lq_2, kq_2, nq_2⟩, -, X2, ⟨Lc2, hQ2, l2, y2, z2⟩, st2⟩ := Jvm.LawKit.callS X1 hx (y := (⟨"jdk/internal/util/Preconditions", "checkIndex", "(IILjava/util/function/BiFunction;)I"⟩ : MethodName)) hown (mvT hZ (hw _ (List.mem_of_getElem? (i := 71) rfl))) (mvT hZ (hw _ (List.mem_of_getElem? (i := 72) rfl))) (mvT hZ (hw _ (List.mem_of_getElem? (i := 70) rfl))) (mvT hZ (hw _ (List.mem_of_getElem? (i := 73) rfl))) (by decide) (backOf (W := 0) (rmPI l Z a0 hw [] i n vf h0 n0 Z0 hin hn rG) hZ (hw _ (List.mem_of_getElem? (i := 73) rfl)) (hw _ (List.mem_of_getElem? (i := 70) rfl)) (by decide) (by decide)) (g := (mkF m 5 #[.val (.int (Int32.ofNat i)), .val (.int (Int32.ofNat n))] [vf, (.int (Int32.ofNat n)), (.int (Int32.ofNat i))])) rfl (by rw [hml]; rfl) (argsL := [(.int (Int32.ofNat i)), (.int (Int32.ofNat n)), vf]) (rest := []) (lenOf pd_8 rfl) rfl (by show 2 * 0 + _ ≤ _; exact Nat.le_of_eq rfl) (hb hby d16_5) (fun _ _ => ⟨rfl, e1, (by decide : 0 + 0 ≤ _), (by decide : 0 + 0 ≤ _)⟩)
  dsimp only [Pt.U, Pt.locs, Pt.cells, Pt.slots] at X2 l2 y2 z2 st2 hQ2
  rw [l2, y2, z2] at X2
  change Stand p l e _ _ m _ below meth c T2 _ 0 0 at X2
  obtain ⟨rfl, N2q, eh2⟩ := hQ2
  have N2 := Fr.app N0 N2q
  refine Goes.on (T' := T2) (g' := (mkF m 8 #[.val (.int (Int32.ofNat i)), .val (.int (Int32.ofNat n))] [(.int (Int32.ofNat i))])) ?_ st2
  refine Goes.on (T' := T2) (g' := (mkF m 9 #[.val (.int (Int32.ofNat i)), .val (.int (Int32.ofNat n))] [])) ?_ (fun t_ k_ => XS.pop X2.here hx rfl (hb hby d16_8) rfl rfl k_)
  rw [hWd]
  exact Goes.retn X2 (v := none) (fun fs hr => X2.returnOut hx Bd.returns (hb hby d16_9) hr) (fun _ => rfl) Bd.notSynchronized (by decide) (by decide) (by rw [eh2]; exact ⟨rfl, N2, rfl⟩)
def QLC (Z : State) (t : Addr) (kt : ClassId) (cs : List Int32) (i : Nat) (vf : Value) (h0 : Heap) (n0 : Nat) (v : Option Value) (h : Heap) (L : List Loc) : Prop := v = some (.int (cs.getD i 0)) ∧ Fr n0 L ∧ h = h0
set_option maxRecDepth 65536 in
set_option maxHeartbeats 40000000 in
theorem rmLC (l : Launch) (Z : State) (a0 : Array Value) (hw : ∀ d ∈ tables_1, d.before a0 Z = true) (ws : List Jvm.Cond) (t : Addr) (kt : ClassId) (cs : List Int32) (i : Nat) (vf : Value) (h0 : Heap) (n0 : Nat) (Z0 : n0 ≤ h0.size) (hfit : own_fit cs = cs.length) (B : Arv Z h0 t kt .byte (Int32.ofNat cs.length) ((cs.map own_lo).map Value.int) (.int 0)) (hin : i < cs.length) (hp : ∀ c ∈ cs, ¬ c < 0 ∧ ¬ (65535 : Int32) < c) (hl : cs.length ≤ 16) (SO : Sta Z Z.heap "jdk/internal/util/Preconditions" "SIOOBE_FORMATTER" "Ljava/util/function/BiFunction;" vf) (rG : vf.isRef = true) (X0_ : Old Z n0 h0) :
    MetFree l (⟨"java/lang/StringLatin1", "charAt", "([BI)C"⟩ : MethodName) (head1 (Jvm.Cond.code (⟨"java/lang/StringLatin1", "charAt", "([BI)C"⟩ : MethodName) jdk_43_method_2_code 2 (some .char) :: ws) ({ frames := 2, cells := 0, slots := 0, locals := 28 } : Room)) (fun a_ U => a_ = #[(.ref t), (.int (Int32.ofNat i))] ∧ Z.Warmed39 U.vm ∧ U.heap = h0) (fun _ _ _ _ _ => True) (fun _ U o U' => ∃ v L, o = .returned v ∧ QLC Z t kt cs i vf h0 n0 v U'.heap L ∧ FrameEnd U o U' L ({ frames := 2, cells := 0, slots := 0, locals := 28 } : Room).cells ({ frames := 2, cells := 0, slots := 0, locals := 28 } : Room).slots) := by
  refine MetFree.of_bodySF (plainFor_of_name pn_3) hisR ?_
  intro p e s m args below meth c s₁ Bd hml0 hP hK
  obtain ⟨rfl, hZ, hh⟩ := hP
  have hx := Bd.exec
  have hby := Bd.bytes
  have hml : c.maxLocals = 2 := hml0
  have hown : s.vm.findClass "java/lang/StringLatin1" = some m.cls := findClass_of_methodNamed Bd.named
  have hnm := (name_of_methodNamed Bd.named Bd.method).1
  have X0 : Stand p l e ({ frames := 2, cells := 0, slots := 0, locals := 28 } : Room) s m #[(.ref t), (.int (Int32.ofNat i))] below meth c s₁ [] 0 0 := Stand.of_body Bd
  have e0 : s₁.heap = h0 := by rw [← hh, Bd.state]; rfl
  have N0 := Fr.nil n0
  refine Goes.done ?_
  obtain ⟨W, hWd⟩ : ∃ W : State → Prop, W = EndW s below (QLC Z t kt cs i vf h0 n0) ({ frames := 2, cells := 0, slots := 0, locals := 28 } : Room).cells ({ frames := 2, cells := 0, slots := 0, locals := 28 } : Room).slots := ⟨_, rfl⟩
  rw [← hWd]
  have hef : entryFrame m #[(.ref t), (.int (Int32.ofNat i))] 2 = (mkF m 0 #[.val (.ref t), .val (.int (Int32.ofNat i))] []) := by first | (simp [entryFrame, mkF, argsToLocals, Value.category]; done) | rfl
  rw [hef]
  obtain ⟨c1, A1, -, S1, M1, H1, -⟩ := id B
  have hcl : (Int32.ofNat i).toNatClampNeg = i := own_clamp (by omega)
  have S1n : c1.slots.size = cs.length := by rw [S1, own_clamp (by omega)]
  have in1 : ¬ ((Int32.ofNat i) < 0 ∨ c1.slots.size ≤ (Int32.ofNat i).toNatClampNeg) := by rw [hcl, S1n]; intro q; rcases q with q | q; exact own_nn (by omega) q; omega
  have at1 : c1.slots[(Int32.ofNat i).toNatClampNeg]? = some (.int (own_lo (cs.getD i 0))) := by rw [hcl, H1 i (by omega), own_bget, own_logetD cs i hin]
  refine Goes.on (T' := s₁) (g' := (mkF m 1 #[.val (.ref t), .val (.int (Int32.ofNat i))] [(.int (Int32.ofNat i))])) ?_ (fun t_ k_ => XS.iloadN X0.here hx rfl (hb hby d15_0) rfl k_)
  refine Goes.on (T' := s₁) (g' := (mkF m 2 #[.val (.ref t), .val (.int (Int32.ofNat i))] [(.ref t), (.int (Int32.ofNat i))])) ?_ (fun t_ k_ => XS.aloadN X0.here hx rfl (hb hby d15_1) rfl rfl k_)
  refine Goes.on (T' := s₁) (g' := (mkF m 3 #[.val (.ref t), .val (.int (Int32.ofNat i))] [(.int c1.slots.size.toInt32), (.int (Int32.ofNat i))])) ?_ (X0.arraylength hx (by rw [e0]; exact A1.1) (State.isArrayOf_alike hZ.alike A1.2.1) (g := (mkF m 2 #[.val (.ref t), .val (.int (Int32.ofNat i))] [(.ref t), (.int (Int32.ofNat i))])) rfl rfl (hb hby d15_2))
  rw [len_of S1 M1]
  obtain ⟨_, _, ⟨T1, Lq_1, kq_1, nq_1⟩, -, X1, ⟨Lc1, hQ1, l1, y1, z1⟩, st1⟩ := Jvm.LawKit.callS X0 hx (y := (⟨"java/lang/String", "checkIndex", "(II)V"⟩ : MethodName)) hown (mvT hZ (hw _ (List.mem_of_getElem? (i := 66) rfl))) (mvT hZ (hw _ (List.mem_of_getElem? (i := 67) rfl))) (mvT hZ (hw _ (List.mem_of_getElem? (i := 8) rfl))) (mvT hZ (hw _ (List.mem_of_getElem? (i := 68) rfl))) (by decide) (backOf (W := 0) (rmSI l Z a0 hw [] i cs.length vf h0 n0 Z0 hin (by omega) SO rG X0_) hZ (hw _ (List.mem_of_getElem? (i := 68) rfl)) (hw _ (List.mem_of_getElem? (i := 8) rfl)) (by decide) (by decide)) (g := (mkF m 3 #[.val (.ref t), .val (.int (Int32.ofNat i))] [(.int (Int32.ofNat cs.length)), (.int (Int32.ofNat i))])) rfl (by rw [hml]; rfl) (argsL := [(.int (Int32.ofNat i)), (.int (Int32.ofNat cs.length))]) (rest := []) (lenOf pd_9 rfl) rfl (by show 2 * 0 + _ ≤ _; exact Nat.le_of_eq rfl) (hb hby d15_3) (fun _ _ => ⟨rfl, e0, (by decide : 0 + 0 ≤ _), (by decide : 0 + 0 ≤ _)⟩)
  dsimp only [Pt.U, Pt.locs, Pt.cells, Pt.slots] at X1 l1 y1 z1 st1 hQ1
  rw [l1, y1, z1] at X1
  change Stand p l e _ _ m _ below meth c T1 _ 0 0 at X1
  obtain ⟨rfl, N1q, eh1⟩ := hQ1
  have N1 := Fr.app N0 N1q
  refine Goes.on (T' := T1) (g' := (mkF m 6 #[.val (.ref t), .val (.int (Int32.ofNat i))] [])) ?_ st1
  refine Goes.on (T' := T1) (g' := (mkF m 7 #[.val (.ref t), .val (.int (Int32.ofNat i))] [(.ref t)])) ?_ (fun t_ k_ => XS.aloadN X1.here hx rfl (hb hby d15_6) rfl rfl k_)
  refine Goes.on (T' := T1) (g' := (mkF m 8 #[.val (.ref t), .val (.int (Int32.ofNat i))] [(.int (Int32.ofNat i)), (.ref t)])) ?_ (fun t_ k_ => XS.iloadN X1.here hx rfl (hb hby d15_7) rfl k_)
  refine Goes.on (T' := T1) (g' := (mkF m 9 #[.val (.ref t), .val (.int (Int32.ofNat i))] [(.int (own_lo (cs.getD i 0)))])) ?_ (X1.baloadBytes hx (j := (Int32.ofNat i)) (v := (.int (own_lo (cs.getD i 0)))) (by rw [eh1]; exact A1.1) (State.isArrayOf_alike hZ.alike A1.2.1) A1.2.2 in1 at1 (g := (mkF m 8 #[.val (.ref t), .val (.int (Int32.ofNat i))] [(.int (Int32.ofNat i)), (.ref t)])) rfl rfl (hb hby d15_8))
  refine Goes.on (T' := T1) (g' := (mkF m 12 #[.val (.ref t), .val (.int (Int32.ofNat i))] [(.int (255 : Int32)), (.int (own_lo (cs.getD i 0)))])) ?_ (fun t_ k_ => XS.sipush X1.here hx rfl (hb hby d15_9) k_)
  refine Goes.on (T' := T1) (g' := (mkF m 13 #[.val (.ref t), .val (.int (Int32.ofNat i))] [(.int ((own_lo (cs.getD i 0)) &&& (255 : Int32)))])) ?_ (fun t_ k_ => XS.iand X1.here hx rfl (hb hby d15_12) rfl k_)
  refine Goes.on (T' := T1) (g' := (mkF m 14 #[.val (.ref t), .val (.int (Int32.ofNat i))] [(.int (((own_lo (cs.getD i 0)) &&& (255 : Int32)).toUInt32.toUInt16.toUInt32.toInt32))])) ?_ (fun t_ k_ => XS.i2c X1.here hx rfl (hb hby d15_13) rfl k_)
  rw [hWd]
  exact Goes.retn X1 (v := some (.int (nar .char (((own_lo (cs.getD i 0)) &&& (255 : Int32)).toUInt32.toUInt16.toUInt32.toInt32)))) (fun fs hr => retN X1 hx (t := .char) Bd.returns (by simp) (hb hby d15_14) hr) (fun h => by rw [Bd.returns] at h; cases h) Bd.notSynchronized (by decide) (by decide) (by rw [eh1]; exact ⟨by rw [own_l1 (hp _ (own_mem cs i hin)) (own_fit_all cs hfit _ (own_mem cs i hin))], N1, rfl⟩)
def QUI (Z : State) (t : Addr) (kt : ClassId) (cs : List Int32) (i : Nat) (vf : Value) (h0 : Heap) (n0 : Nat) (v : Option Value) (h : Heap) (L : List Loc) : Prop := v = none ∧ Fr n0 L ∧ h = h0
set_option maxRecDepth 65536 in
set_option maxHeartbeats 40000000 in
theorem rmUI (l : Launch) (Z : State) (a0 : Array Value) (hw : ∀ d ∈ tables_1, d.before a0 Z = true) (ws : List Jvm.Cond) (t : Addr) (kt : ClassId) (cs : List Int32) (i : Nat) (vf : Value) (h0 : Heap) (n0 : Nat) (Z0 : n0 ≤ h0.size) (B : Arv Z h0 t kt .byte (Int32.ofNat (2 * cs.length)) ((own_u16 cs).map Value.int) (.int 0)) (hin : i < cs.length) (hp : ∀ c ∈ cs, ¬ c < 0 ∧ ¬ (65535 : Int32) < c) (hl : cs.length ≤ 16) (SO : Sta Z Z.heap "jdk/internal/util/Preconditions" "SIOOBE_FORMATTER" "Ljava/util/function/BiFunction;" vf) (rG : vf.isRef = true) (X0_ : Old Z n0 h0) :
    MetFree l (⟨"java/lang/StringUTF16", "checkIndex", "(I[B)V"⟩ : MethodName) (head1 (Jvm.Cond.code (⟨"java/lang/StringUTF16", "checkIndex", "(I[B)V"⟩ : MethodName) jdk_52_method_91_code 2 none :: ws) ({ frames := 2, cells := 0, slots := 0, locals := 28 } : Room)) (fun a_ U => a_ = #[(.int (Int32.ofNat i)), (.ref t)] ∧ Z.Warmed39 U.vm ∧ U.heap = h0) (fun _ _ _ _ _ => True) (fun _ U o U' => ∃ v L, o = .returned v ∧ QUI Z t kt cs i vf h0 n0 v U'.heap L ∧ FrameEnd U o U' L ({ frames := 2, cells := 0, slots := 0, locals := 28 } : Room).cells ({ frames := 2, cells := 0, slots := 0, locals := 28 } : Room).slots) := by
  refine MetFree.of_bodySF (plainFor_of_name pn_0) hisR ?_
  intro p e s m args below meth c s₁ Bd hml0 hP hK
  obtain ⟨rfl, hZ, hh⟩ := hP
  have hx := Bd.exec
  have hby := Bd.bytes
  have hml : c.maxLocals = 2 := hml0
  have hown : s.vm.findClass "java/lang/StringUTF16" = some m.cls := findClass_of_methodNamed Bd.named
  have hnm := (name_of_methodNamed Bd.named Bd.method).1
  have X0 : Stand p l e ({ frames := 2, cells := 0, slots := 0, locals := 28 } : Room) s m #[(.int (Int32.ofNat i)), (.ref t)] below meth c s₁ [] 0 0 := Stand.of_body Bd
  have e0 : s₁.heap = h0 := by rw [← hh, Bd.state]; rfl
  have N0 := Fr.nil n0
  refine Goes.done ?_
  obtain ⟨W, hWd⟩ : ∃ W : State → Prop, W = EndW s below (QUI Z t kt cs i vf h0 n0) ({ frames := 2, cells := 0, slots := 0, locals := 28 } : Room).cells ({ frames := 2, cells := 0, slots := 0, locals := 28 } : Room).slots := ⟨_, rfl⟩
  rw [← hWd]
  have hef : entryFrame m #[(.int (Int32.ofNat i)), (.ref t)] 2 = (mkF m 0 #[.val (.int (Int32.ofNat i)), .val (.ref t)] []) := by first | (simp [entryFrame, mkF, argsToLocals, Value.category]; done) | rfl
  rw [hef]
  refine Goes.on (T' := s₁) (g' := (mkF m 1 #[.val (.int (Int32.ofNat i)), .val (.ref t)] [(.int (Int32.ofNat i))])) ?_ (fun t_ k_ => XS.iloadN X0.here hx rfl (hb hby d24_0) rfl k_)
  refine Goes.on (T' := s₁) (g' := (mkF m 2 #[.val (.int (Int32.ofNat i)), .val (.ref t)] [(.ref t), (.int (Int32.ofNat i))])) ?_ (fun t_ k_ => XS.aloadN X0.here hx rfl (hb hby d24_1) rfl rfl k_)
  obtain ⟨_, _, ⟨T1, Lq_1, kq_1, nq_1⟩, -, X1, ⟨Lc1, hQ1, l1, y1, z1⟩, st1⟩ := Jvm.LawKit.callS X0 hx (y := (⟨"java/lang/StringUTF16", "length", "([B)I"⟩ : MethodName)) hown (mvT hZ (hw _ (List.mem_of_getElem? (i := 99) rfl))) (mvT hZ (hw _ (List.mem_of_getElem? (i := 100) rfl))) (mvT hZ (hw _ (List.mem_of_getElem? (i := 22) rfl))) (mvT hZ (hw _ (List.mem_of_getElem? (i := 101) rfl))) (by decide) (backOf (W := 1) (rmUL l Z a0 hw [] t kt cs.length (own_u16 cs) h0 n0 Z0 B hl) hZ (hw _ (List.mem_of_getElem? (i := 101) rfl)) (hw _ (List.mem_of_getElem? (i := 22) rfl)) (by decide) (by decide)) (g := (mkF m 2 #[.val (.int (Int32.ofNat i)), .val (.ref t)] [(.ref t), (.int (Int32.ofNat i))])) rfl (by rw [hml]; rfl) (argsL := [(.ref t)]) (rest := [(.int (Int32.ofNat i))]) (lenOf pd_10 rfl) rfl (by show 2 * 0 + _ ≤ _; exact Nat.le_of_eq rfl) (hb hby d24_2) (fun _ _ => ⟨rfl, e0, (by decide : 0 + 0 ≤ _), (by decide : 0 + 0 ≤ _)⟩)
  dsimp only [Pt.U, Pt.locs, Pt.cells, Pt.slots] at X1 l1 y1 z1 st1 hQ1
  rw [l1, y1, z1] at X1
  change Stand p l e _ _ m _ below meth c T1 _ 0 0 at X1
  obtain ⟨rfl, N1q, eh1⟩ := hQ1
  have N1 := Fr.app N0 N1q
  refine Goes.on (T' := T1) (g' := (mkF m 5 #[.val (.int (Int32.ofNat i)), .val (.ref t)] [(.int (Int32.ofNat cs.length)), (.int (Int32.ofNat i))])) ?_ st1
  obtain ⟨_, _, ⟨T2, Lq_2, kq_2, nq_2⟩, -, X2, ⟨Lc2, hQ2, l2, y2, z2⟩, st2⟩ := Jvm.LawKit.callS X1 hx (y := (⟨"java/lang/String", "checkIndex", "(II)V"⟩ : MethodName)) hown (mvT hZ (hw _ (List.mem_of_getElem? (i := 102) rfl))) (mvT hZ (hw _ (List.mem_of_getElem? (i := 67) rfl))) (mvT hZ (hw _ (List.mem_of_getElem? (i := 8) rfl))) (mvT hZ (hw _ (List.mem_of_getElem? (i := 68) rfl))) (by decide) (backOf (W := 0) (rmSI l Z a0 hw [] i cs.length vf h0 n0 Z0 hin (by omega) SO rG X0_) hZ (hw _ (List.mem_of_getElem? (i := 68) rfl)) (hw _ (List.mem_of_getElem? (i := 8) rfl)) (by decide) (by decide)) (g := (mkF m 5 #[.val (.int (Int32.ofNat i)), .val (.ref t)] [(.int (Int32.ofNat cs.length)), (.int (Int32.ofNat i))])) rfl (by rw [hml]; rfl) (argsL := [(.int (Int32.ofNat i)), (.int (Int32.ofNat cs.length))]) (rest := []) (lenOf pd_9 rfl) rfl (by show 2 * 0 + _ ≤ _; exact Nat.le_of_eq rfl) (hb hby d24_5) (fun _ _ => ⟨rfl, eh1, (by decide : 0 + 0 ≤ _), (by decide : 0 + 0 ≤ _)⟩)
  dsimp only [Pt.U, Pt.locs, Pt.cells, Pt.slots] at X2 l2 y2 z2 st2 hQ2
  rw [l2, y2, z2] at X2
  change Stand p l e _ _ m _ below meth c T2 _ 0 0 at X2
  obtain ⟨rfl, N2q, eh2⟩ := hQ2
  have N2 := Fr.app N1 N2q
  refine Goes.on (T' := T2) (g' := (mkF m 8 #[.val (.int (Int32.ofNat i)), .val (.ref t)] [])) ?_ st2
  rw [hWd]
  exact Goes.retn X2 (v := none) (fun fs hr => X2.returnOut hx Bd.returns (hb hby d24_8) hr) (fun _ => rfl) Bd.notSynchronized (by decide) (by decide) (by rw [eh2]; exact ⟨rfl, N2, rfl⟩)
def QUC (Z : State) (t : Addr) (kt : ClassId) (cs : List Int32) (i : Nat) (vf : Value) (h0 : Heap) (n0 : Nat) (v : Option Value) (h : Heap) (L : List Loc) : Prop := v = some (.int (cs.getD i 0)) ∧ Fr n0 L ∧ h = h0
set_option maxRecDepth 65536 in
set_option maxHeartbeats 40000000 in
theorem rmUC (l : Launch) (Z : State) (a0 : Array Value) (hw : ∀ d ∈ tables_1, d.before a0 Z = true) (ws : List Jvm.Cond) (t : Addr) (kt : ClassId) (cs : List Int32) (i : Nat) (vf : Value) (h0 : Heap) (n0 : Nat) (Z0 : n0 ≤ h0.size) (B : Arv Z h0 t kt .byte (Int32.ofNat (2 * cs.length)) ((own_u16 cs).map Value.int) (.int 0)) (AD : Sta Z Z.heap "java/lang/StringUTF16" "$assertionsDisabled" "Z" (.int (1 : Int32))) (HB : Sta Z Z.heap "java/lang/StringUTF16" "HI_BYTE_SHIFT" "I" (.int (0 : Int32))) (LB : Sta Z Z.heap "java/lang/StringUTF16" "LO_BYTE_SHIFT" "I" (.int (8 : Int32)))  (hin : i < cs.length) (hp : ∀ c ∈ cs, ¬ c < 0 ∧ ¬ (65535 : Int32) < c) (hl : cs.length ≤ 16) (SO : Sta Z Z.heap "jdk/internal/util/Preconditions" "SIOOBE_FORMATTER" "Ljava/util/function/BiFunction;" vf) (rG : vf.isRef = true) (X0_ : Old Z n0 h0) :
    MetFree l (⟨"java/lang/StringUTF16", "charAt", "([BI)C"⟩ : MethodName) (head1 (Jvm.Cond.code (⟨"java/lang/StringUTF16", "charAt", "([BI)C"⟩ : MethodName) jdk_52_method_83_code 2 (some .char) :: ws) ({ frames := 3, cells := 0, slots := 0, locals := 41 } : Room)) (fun a_ U => a_ = #[(.ref t), (.int (Int32.ofNat i))] ∧ Z.Warmed39 U.vm ∧ U.heap = h0) (fun _ _ _ _ _ => True) (fun _ U o U' => ∃ v L, o = .returned v ∧ QUC Z t kt cs i vf h0 n0 v U'.heap L ∧ FrameEnd U o U' L ({ frames := 3, cells := 0, slots := 0, locals := 41 } : Room).cells ({ frames := 3, cells := 0, slots := 0, locals := 41 } : Room).slots) := by
  refine MetFree.of_bodySF (plainFor_of_name pn_0) hisR ?_
  intro p e s m args below meth c s₁ Bd hml0 hP hK
  obtain ⟨rfl, hZ, hh⟩ := hP
  have hx := Bd.exec
  have hby := Bd.bytes
  have hml : c.maxLocals = 2 := hml0
  have hown : s.vm.findClass "java/lang/StringUTF16" = some m.cls := findClass_of_methodNamed Bd.named
  have hnm := (name_of_methodNamed Bd.named Bd.method).1
  have X0 : Stand p l e ({ frames := 3, cells := 0, slots := 0, locals := 41 } : Room) s m #[(.ref t), (.int (Int32.ofNat i))] below meth c s₁ [] 0 0 := Stand.of_body Bd
  have e0 : s₁.heap = h0 := by rw [← hh, Bd.state]; rfl
  have N0 := Fr.nil n0
  refine Goes.done ?_
  obtain ⟨W, hWd⟩ : ∃ W : State → Prop, W = EndW s below (QUC Z t kt cs i vf h0 n0) ({ frames := 3, cells := 0, slots := 0, locals := 41 } : Room).cells ({ frames := 3, cells := 0, slots := 0, locals := 41 } : Room).slots := ⟨_, rfl⟩
  rw [← hWd]
  have hef : entryFrame m #[(.ref t), (.int (Int32.ofNat i))] 2 = (mkF m 0 #[.val (.ref t), .val (.int (Int32.ofNat i))] []) := by first | (simp [entryFrame, mkF, argsToLocals, Value.category]; done) | rfl
  rw [hef]
  refine Goes.on (T' := s₁) (g' := (mkF m 1 #[.val (.ref t), .val (.int (Int32.ofNat i))] [(.int (Int32.ofNat i))])) ?_ (fun t_ k_ => XS.iloadN X0.here hx rfl (hb hby d23_0) rfl k_)
  refine Goes.on (T' := s₁) (g' := (mkF m 2 #[.val (.ref t), .val (.int (Int32.ofNat i))] [(.ref t), (.int (Int32.ofNat i))])) ?_ (fun t_ k_ => XS.aloadN X0.here hx rfl (hb hby d23_1) rfl rfl k_)
  obtain ⟨_, _, ⟨T1, Lq_1, kq_1, nq_1⟩, -, X1, ⟨Lc1, hQ1, l1, y1, z1⟩, st1⟩ := Jvm.LawKit.callS X0 hx (y := (⟨"java/lang/StringUTF16", "checkIndex", "(I[B)V"⟩ : MethodName)) hown (mvT hZ (hw _ (List.mem_of_getElem? (i := 96) rfl))) (mvT hZ (hw _ (List.mem_of_getElem? (i := 97) rfl))) (mvT hZ (hw _ (List.mem_of_getElem? (i := 22) rfl))) (mvT hZ (hw _ (List.mem_of_getElem? (i := 98) rfl))) (by decide) (backOf (W := 0) (rmUI l Z a0 hw [] t kt cs i vf h0 n0 Z0 B hin hp hl SO rG X0_) hZ (hw _ (List.mem_of_getElem? (i := 98) rfl)) (hw _ (List.mem_of_getElem? (i := 22) rfl)) (by decide) (by decide)) (g := (mkF m 2 #[.val (.ref t), .val (.int (Int32.ofNat i))] [(.ref t), (.int (Int32.ofNat i))])) rfl (by rw [hml]; rfl) (argsL := [(.int (Int32.ofNat i)), (.ref t)]) (rest := []) (lenOf pd_11 rfl) rfl (by show 2 * 0 + _ ≤ _; exact Nat.le_of_eq rfl) (hb hby d23_2) (fun _ _ => ⟨rfl, e0, (by decide : 0 + 0 ≤ _), (by decide : 0 + 0 ≤ _)⟩)
  dsimp only [Pt.U, Pt.locs, Pt.cells, Pt.slots] at X1 l1 y1 z1 st1 hQ1
  rw [l1, y1, z1] at X1
  change Stand p l e _ _ m _ below meth c T1 _ 0 0 at X1
  obtain ⟨rfl, N1q, eh1⟩ := hQ1
  have N1 := Fr.app N0 N1q
  refine Goes.on (T' := T1) (g' := (mkF m 5 #[.val (.ref t), .val (.int (Int32.ofNat i))] [])) ?_ st1
  refine Goes.on (T' := T1) (g' := (mkF m 6 #[.val (.ref t), .val (.int (Int32.ofNat i))] [(.ref t)])) ?_ (fun t_ k_ => XS.aloadN X1.here hx rfl (hb hby d23_5) rfl rfl k_)
  refine Goes.on (T' := T1) (g' := (mkF m 7 #[.val (.ref t), .val (.int (Int32.ofNat i))] [(.int (Int32.ofNat i)), (.ref t)])) ?_ (fun t_ k_ => XS.iloadN X1.here hx rfl (hb hby d23_6) rfl k_)
  obtain ⟨_, _, ⟨T2, Lq_2, kq_2, nq_2⟩, -, X2, ⟨Lc2, hQ2, l2, y2, z2⟩, st2⟩ := Jvm.LawKit.callS X1 hx (y := (⟨"java/lang/StringUTF16", "getChar", "([BI)C"⟩ : MethodName)) hown (mvT hZ (hw _ (List.mem_of_getElem? (i := 90) rfl))) (mvT hZ (hw _ (List.mem_of_getElem? (i := 91) rfl))) (mvT hZ (hw _ (List.mem_of_getElem? (i := 22) rfl))) (mvT hZ (hw _ (List.mem_of_getElem? (i := 92) rfl))) (by decide) (backOf (W := 0) (rmGC l Z a0 hw [] t kt cs.length i (own_u16 cs) h0 n0 Z0 B hin hl AD HB LB X0_) hZ (hw _ (List.mem_of_getElem? (i := 92) rfl)) (hw _ (List.mem_of_getElem? (i := 22) rfl)) (by decide) (by decide)) (g := (mkF m 7 #[.val (.ref t), .val (.int (Int32.ofNat i))] [(.int (Int32.ofNat i)), (.ref t)])) rfl (by rw [hml]; rfl) (argsL := [(.ref t), (.int (Int32.ofNat i))]) (rest := []) (lenOf pd_5 rfl) rfl (by show 2 * 0 + _ ≤ _; exact Nat.le_of_eq rfl) (hb hby d23_7) (fun _ _ => ⟨rfl, eh1, (by decide : 0 + 0 ≤ _), (by decide : 0 + 0 ≤ _)⟩)
  dsimp only [Pt.U, Pt.locs, Pt.cells, Pt.slots] at X2 l2 y2 z2 st2 hQ2
  rw [l2, y2, z2] at X2
  change Stand p l e _ _ m _ below meth c T2 _ 0 0 at X2
  obtain ⟨rfl, N2q, eh2⟩ := hQ2
  have N2 := Fr.app N1 N2q
  refine Goes.on (T' := T2) (g' := (mkF m 10 #[.val (.ref t), .val (.int (Int32.ofNat i))] [(.int (nar .char (own_pair ((own_u16 cs).getD (2 * i) 0) ((own_u16 cs).getD (2 * i + 1) 0))))])) ?_ st2
  rw [own_u16_ch cs i hin (hp _ (own_mem cs i hin))]
  rw [hWd]
  exact Goes.retn X2 (v := some (.int (nar .char (cs.getD i 0)))) (fun fs hr => retN X2 hx (t := .char) Bd.returns (by simp) (hb hby d23_10) hr) (fun h => by rw [Bd.returns] at h; cases h) Bd.notSynchronized (by decide) (by decide) (by rw [eh2]; exact ⟨by rw [own_narc (hp _ (own_mem cs i hin))], N2, rfl⟩)
def QCA (Z : State) (x t : Addr) (kt : ClassId) (cs : List Int32) (cd : Int32) (i : Nat) (zc : Int32) (vf : Value) (h0 : Heap) (n0 : Nat) (v : Option Value) (h : Heap) (L : List Loc) : Prop := v = some (.int (cs.getD i 0)) ∧ Fr n0 L ∧ h = h0
set_option maxRecDepth 65536 in
set_option maxHeartbeats 40000000 in
theorem rmCA (l : Launch) (Z : State) (a0 : Array Value) (hw : ∀ d ∈ tables_1, d.before a0 Z = true) (ws : List Jvm.Cond) (x t : Addr) (kt : ClassId) (cs : List Int32) (cd : Int32) (i : Nat) (zc : Int32) (vf : Value) (h0 : Heap) (n0 : Nat) (Z0 : n0 ≤ h0.size) (TX : Txt Z h0 x t kt cs cd) (CS : Sta Z Z.heap "java/lang/String" "COMPACT_STRINGS" "Z" (.int zc)) (hzc : ¬ zc = (0 : Int32)) (AD : Sta Z Z.heap "java/lang/StringUTF16" "$assertionsDisabled" "Z" (.int (1 : Int32))) (HB : Sta Z Z.heap "java/lang/StringUTF16" "HI_BYTE_SHIFT" "I" (.int (0 : Int32))) (LB : Sta Z Z.heap "java/lang/StringUTF16" "LO_BYTE_SHIFT" "I" (.int (8 : Int32)))  (hin : i < cs.length) (hp : ∀ c ∈ cs, ¬ c < 0 ∧ ¬ (65535 : Int32) < c) (hl : cs.length ≤ 16) (SO : Sta Z Z.heap "jdk/internal/util/Preconditions" "SIOOBE_FORMATTER" "Ljava/util/function/BiFunction;" vf) (rG : vf.isRef = true) (X0_ : Old Z n0 h0) :
    MetFree l (⟨"java/lang/String", "charAt", "(I)C"⟩ : MethodName) (head1 (Jvm.Cond.code (⟨"java/lang/String", "charAt", "(I)C"⟩ : MethodName) jdk_42_method_56_code 2 (some .char) :: ws) ({ frames := 4, cells := 0, slots := 0, locals := 54 } : Room)) (fun a_ U => a_ = #[(.ref x), (.int (Int32.ofNat i))] ∧ Z.Warmed39 U.vm ∧ U.heap = h0) (fun _ _ _ _ _ => True) (fun _ U o U' => ∃ v L, o = .returned v ∧ QCA Z x t kt cs cd i zc vf h0 n0 v U'.heap L ∧ FrameEnd U o U' L ({ frames := 4, cells := 0, slots := 0, locals := 54 } : Room).cells ({ frames := 4, cells := 0, slots := 0, locals := 54 } : Room).slots) := by
  refine MetFree.of_bodySF (plainFor_of_name pn_1) hisR ?_
  intro p e s m args below meth c s₁ Bd hml0 hP hK
  obtain ⟨rfl, hZ, hh⟩ := hP
  have hx := Bd.exec
  have hby := Bd.bytes
  have hml : c.maxLocals = 2 := hml0
  have hown : s.vm.findClass "java/lang/String" = some m.cls := findClass_of_methodNamed Bd.named
  have hnm := (name_of_methodNamed Bd.named Bd.method).1
  have X0 : Stand p l e ({ frames := 4, cells := 0, slots := 0, locals := 54 } : Room) s m #[(.ref x), (.int (Int32.ofNat i))] below meth c s₁ [] 0 0 := Stand.of_body Bd
  have e0 : s₁.heap = h0 := by rw [← hh, Bd.state]; rfl
  have N0 := Fr.nil n0
  refine Goes.done ?_
  obtain ⟨W, hWd⟩ : ∃ W : State → Prop, W = EndW s below (QCA Z x t kt cs cd i zc vf h0 n0) ({ frames := 4, cells := 0, slots := 0, locals := 54 } : Room).cells ({ frames := 4, cells := 0, slots := 0, locals := 54 } : Room).slots := ⟨_, rfl⟩
  rw [← hWd]
  have hef : entryFrame m #[(.ref x), (.int (Int32.ofNat i))] 2 = (mkF m 0 #[.val (.ref x), .val (.int (Int32.ofNat i))] []) := by first | (simp [entryFrame, mkF, argsToLocals, Value.category]; done) | rfl
  rw [hef]
  obtain ⟨E, FC, FV, BY⟩ := id TX
  refine Goes.on (T' := s₁) (g' := (mkF m 1 #[.val (.ref x), .val (.int (Int32.ofNat i))] [(.ref x)])) ?_ (fun t_ k_ => XS.aloadN X0.here hx rfl (hb hby d13_0) rfl rfl k_)
  obtain ⟨cq1, kq1, q1a, q1b, q1c⟩ := isOf hZ e0 E
  obtain ⟨_, _, ⟨T1, Lq_1, kq_1, nq_1⟩, -, X1, ⟨Lc1, hQ1, l1, y1, z1⟩, st1⟩ := X0.virtualBack hx (y := (⟨"java/lang/String", "isLatin1", "()Z"⟩ : MethodName)) (z := (⟨"java/lang/String", "isLatin1", "()Z"⟩ : MethodName)) hown (mvT hZ (hw _ (List.mem_of_getElem? (i := 57) rfl))) (mvT hZ (hw _ (List.mem_of_getElem? (i := 58) rfl))) (notFace_of_selects (args := #[]) (mvT hZ (hw _ (List.mem_of_getElem? (i := 60) rfl)))) (mvT hZ (hw _ (List.mem_of_getElem? (i := 60) rfl))) (mvT hZ (hw _ (List.mem_of_getElem? (i := 59) rfl))) (by decide) (backOf (W := 0) (rmLA l Z a0 hw [] x cd zc h0 n0 Z0 FC CS hzc X0_) hZ (hw _ (List.mem_of_getElem? (i := 61) rfl)) (hw _ (List.mem_of_getElem? (i := 8) rfl)) (by decide) (by decide)) q1a q1c (g := (mkF m 1 #[.val (.ref x), .val (.int (Int32.ofNat i))] [(.ref x)])) rfl (by rw [hml]; rfl) (Steps.refl _) (argsL := []) (rest := []) (lenOf pd_12 rfl) rfl (by show 2 * 0 + _ ≤ _; exact Nat.le_of_eq rfl) (hb hby d13_1) (fun _ _ => ⟨rfl, e0, (by decide : 0 + 0 ≤ _), (by decide : 0 + 0 ≤ _)⟩)
  dsimp only [Pt.U, Pt.locs, Pt.cells, Pt.slots] at X1 l1 y1 z1 st1 hQ1
  rw [l1, y1, z1] at X1
  change Stand p l e _ _ m _ below meth c T1 _ 0 0 at X1
  obtain ⟨rfl, N1q, eh1⟩ := hQ1
  have N1 := Fr.app N0 N1q
  refine Goes.on (T' := T1) (g' := (mkF m 4 #[.val (.ref x), .val (.int (Int32.ofNat i))] [(.int (if cd = 0 then 1 else 0))])) ?_ (fun t => st1.trans)
  refine Goes.ifP X1 hx rfl (pc0 := 4) (pc' := 16) rfl (hb hby d13_4) rfl (by decide) (by decide) (P := (if cd = 0 then 1 else 0) = (0 : Int32)) (ifc_eq _ _) (fun hc4 => ?_) (fun hc4 => ?_)
  · show Goes p e below W T1 (mkF m 16 #[.val (.ref x), .val (.int (Int32.ofNat i))] [])
    refine Goes.on (T' := T1) (g' := (mkF m 17 #[.val (.ref x), .val (.int (Int32.ofNat i))] [(.ref x)])) ?_ (fun t_ k_ => XS.aloadN X1.here hx rfl (hb hby d13_16) rfl rfl k_)
    obtain ⟨T2, X2, e2, st2⟩ := getF X1 hx hZ hown (host := "") (Or.inl (hw _ (List.mem_of_getElem? (i := 33) rfl))) Via.refl eh1 FV (g := (mkF m 17 #[.val (.ref x), .val (.int (Int32.ofNat i))] [(.ref x)])) rfl rfl (hb hby d13_17)
    refine Goes.on (T' := T2) (g' := (mkF m 20 #[.val (.ref x), .val (.int (Int32.ofNat i))] [(.ref t)])) ?_ st2
    refine Goes.on (T' := T2) (g' := (mkF m 21 #[.val (.ref x), .val (.int (Int32.ofNat i))] [(.int (Int32.ofNat i)), (.ref t)])) ?_ (fun t_ k_ => XS.iloadN X2.here hx rfl (hb hby d13_20) rfl k_)
    obtain ⟨hcd, hfl, B⟩ := BY.resolve_left (fun q => absurd hc4 (by rw [q.1]; decide))
    obtain ⟨_, _, ⟨T3, Lq_3, kq_3, nq_3⟩, -, X3, ⟨Lc3, hQ3, l3, y3, z3⟩, st3⟩ := Jvm.LawKit.callS X2 hx (y := (⟨"java/lang/StringUTF16", "charAt", "([BI)C"⟩ : MethodName)) hown (mvT hZ (hw _ (List.mem_of_getElem? (i := 93) rfl))) (mvT hZ (hw _ (List.mem_of_getElem? (i := 94) rfl))) (mvT hZ (hw _ (List.mem_of_getElem? (i := 22) rfl))) (mvT hZ (hw _ (List.mem_of_getElem? (i := 95) rfl))) (by decide) (backOf (W := 0) (rmUC l Z a0 hw [] t kt cs i vf h0 n0 Z0 B AD HB LB hin hp hl SO rG X0_) hZ (hw _ (List.mem_of_getElem? (i := 95) rfl)) (hw _ (List.mem_of_getElem? (i := 22) rfl)) (by decide) (by decide)) (g := (mkF m 21 #[.val (.ref x), .val (.int (Int32.ofNat i))] [(.int (Int32.ofNat i)), (.ref t)])) rfl (by rw [hml]; rfl) (argsL := [(.ref t), (.int (Int32.ofNat i))]) (rest := []) (lenOf pd_5 rfl) rfl (by show 2 * 0 + _ ≤ _; exact Nat.le_of_eq rfl) (hb hby d13_21) (fun _ _ => ⟨rfl, e2, (by decide : 0 + 0 ≤ _), (by decide : 0 + 0 ≤ _)⟩)
    dsimp only [Pt.U, Pt.locs, Pt.cells, Pt.slots] at X3 l3 y3 z3 st3 hQ3
    rw [l3, y3, z3] at X3
    change Stand p l e _ _ m _ below meth c T3 _ 0 0 at X3
    obtain ⟨rfl, N3q, eh3⟩ := hQ3
    have N3 := Fr.app N1 N3q
    refine Goes.on (T' := T3) (g' := (mkF m 24 #[.val (.ref x), .val (.int (Int32.ofNat i))] [(.int (cs.getD i 0))])) ?_ st3
    rw [hWd]
    exact Goes.retn X3 (v := some (.int (nar .char (cs.getD i 0)))) (fun fs hr => retN X3 hx (t := .char) Bd.returns (by simp) (hb hby d13_24) hr) (fun h => by rw [Bd.returns] at h; cases h) Bd.notSynchronized (by decide) (by decide) (by rw [eh3]; exact ⟨by rw [own_narc (hp _ (own_mem cs i hin))], N3, rfl⟩)
  · show Goes p e below W T1 (mkF m 7 #[.val (.ref x), .val (.int (Int32.ofNat i))] [])
    refine Goes.on (T' := T1) (g' := (mkF m 8 #[.val (.ref x), .val (.int (Int32.ofNat i))] [(.ref x)])) ?_ (fun t_ k_ => XS.aloadN X1.here hx rfl (hb hby d13_7) rfl rfl k_)
    obtain ⟨T4, X4, e4, st4⟩ := getF X1 hx hZ hown (host := "") (Or.inl (hw _ (List.mem_of_getElem? (i := 33) rfl))) Via.refl eh1 FV (g := (mkF m 8 #[.val (.ref x), .val (.int (Int32.ofNat i))] [(.ref x)])) rfl rfl (hb hby d13_8)
    refine Goes.on (T' := T4) (g' := (mkF m 11 #[.val (.ref x), .val (.int (Int32.ofNat i))] [(.ref t)])) ?_ st4
    refine Goes.on (T' := T4) (g' := (mkF m 12 #[.val (.ref x), .val (.int (Int32.ofNat i))] [(.int (Int32.ofNat i)), (.ref t)])) ?_ (fun t_ k_ => XS.iloadN X4.here hx rfl (hb hby d13_11) rfl k_)
    obtain ⟨hcd, hfit, B⟩ := BY.resolve_right (fun q => hc4 (by rw [q.1]; rfl))
    obtain ⟨_, _, ⟨T5, Lq_5, kq_5, nq_5⟩, -, X5, ⟨Lc5, hQ5, l5, y5, z5⟩, st5⟩ := Jvm.LawKit.callS X4 hx (y := (⟨"java/lang/StringLatin1", "charAt", "([BI)C"⟩ : MethodName)) hown (mvT hZ (hw _ (List.mem_of_getElem? (i := 62) rfl))) (mvT hZ (hw _ (List.mem_of_getElem? (i := 63) rfl))) (mvT hZ (hw _ (List.mem_of_getElem? (i := 64) rfl))) (mvT hZ (hw _ (List.mem_of_getElem? (i := 65) rfl))) (by decide) (backOf (W := 0) (rmLC l Z a0 hw [] t kt cs i vf h0 n0 Z0 hfit B hin hp hl SO rG X0_) hZ (hw _ (List.mem_of_getElem? (i := 65) rfl)) (hw _ (List.mem_of_getElem? (i := 64) rfl)) (by decide) (by decide)) (g := (mkF m 12 #[.val (.ref x), .val (.int (Int32.ofNat i))] [(.int (Int32.ofNat i)), (.ref t)])) rfl (by rw [hml]; rfl) (argsL := [(.ref t), (.int (Int32.ofNat i))]) (rest := []) (lenOf pd_5 rfl) rfl (by show 2 * 0 + _ ≤ _; exact Nat.le_of_eq rfl) (hb hby d13_12) (fun _ _ => ⟨rfl, e4, (by decide : 0 + 0 ≤ _), (by decide : 0 + 0 ≤ _)⟩)
    dsimp only [Pt.U, Pt.locs, Pt.cells, Pt.slots] at X5 l5 y5 z5 st5 hQ5
    rw [l5, y5, z5] at X5
    change Stand p l e _ _ m _ below meth c T5 _ 0 0 at X5
    obtain ⟨rfl, N5q, eh5⟩ := hQ5
    have N5 := Fr.app N1 N5q
    refine Goes.on (T' := T5) (g' := (mkF m 15 #[.val (.ref x), .val (.int (Int32.ofNat i))] [(.int (cs.getD i 0))])) ?_ st5
    rw [hWd]
    exact Goes.retn X5 (v := some (.int (nar .char (cs.getD i 0)))) (fun fs hr => retN X5 hx (t := .char) Bd.returns (by simp) (hb hby d13_15) hr) (fun h => by rw [Bd.returns] at h; cases h) Bd.notSynchronized (by decide) (by decide) (by rw [eh5]; exact ⟨by rw [own_narc (hp _ (own_mem cs i hin))], N5, rfl⟩)
def QPK (Z : State) (y : Int32) (h0 : Heap) (n0 : Nat) (v : Option Value) (h : Heap) (L : List Loc) : Prop := ∃ c, v = some (.int c) ∧ Fr n0 L ∧ h = h0 ∧ ¬ c < 0 ∧ ¬ (65535 : Int32) < c
set_option maxRecDepth 65536 in
set_option maxHeartbeats 40000000 in
theorem rmPK (l : Launch) (Z : State) (a0 : Array Value) (hw : ∀ d ∈ tables_1, d.before a0 Z = true) (ws : List Jvm.Cond) (y : Int32) (h0 : Heap) (n0 : Nat) (Z0 : n0 ≤ h0.size)  :
    MetFree l (⟨"com/example/syndic/syndic/input/AmountsIsWrittenPinLaw", "pick", "(I)C"⟩ : MethodName) (head1 (Jvm.Cond.code (⟨"com/example/syndic/syndic/input/AmountsIsWrittenPinLaw", "pick", "(I)C"⟩ : MethodName) method_2_code 3 (some .char) :: ws) ({ frames := 0, cells := 0, slots := 0, locals := 0 } : Room)) (fun a_ U => a_ = #[(.int y)] ∧ Z.Warmed39 U.vm ∧ U.heap = h0) (fun _ _ _ _ _ => True) (fun _ U o U' => ∃ v L, o = .returned v ∧ QPK Z y h0 n0 v U'.heap L ∧ FrameEnd U o U' L ({ frames := 0, cells := 0, slots := 0, locals := 0 } : Room).cells ({ frames := 0, cells := 0, slots := 0, locals := 0 } : Room).slots) := by
  refine MetFree.of_bodySF (plainFor_of_name pn_4) hisR ?_
  intro p e s m args below meth c s₁ Bd hml0 hP hK
  obtain ⟨rfl, hZ, hh⟩ := hP
  have hx := Bd.exec
  have hby := Bd.bytes
  have hml : c.maxLocals = 3 := hml0
  have hown : s.vm.findClass "com/example/syndic/syndic/input/AmountsIsWrittenPinLaw" = some m.cls := findClass_of_methodNamed Bd.named
  have hnm := (name_of_methodNamed Bd.named Bd.method).1
  have X0 : Stand p l e ({ frames := 0, cells := 0, slots := 0, locals := 0 } : Room) s m #[(.int y)] below meth c s₁ [] 0 0 := Stand.of_body Bd
  have e0 : s₁.heap = h0 := by rw [← hh, Bd.state]; rfl
  have N0 := Fr.nil n0
  refine Goes.done ?_
  obtain ⟨W, hWd⟩ : ∃ W : State → Prop, W = EndW s below (QPK Z y h0 n0) ({ frames := 0, cells := 0, slots := 0, locals := 0 } : Room).cells ({ frames := 0, cells := 0, slots := 0, locals := 0 } : Room).slots := ⟨_, rfl⟩
  rw [← hWd]
  have hef : entryFrame m #[(.int y)] 3 = (mkF m 0 #[.val (.int y), .unset, .unset] []) := by first | (simp [entryFrame, mkF, argsToLocals, Value.category]; done) | rfl
  rw [hef]
  refine Goes.on (T' := s₁) (g' := (mkF m 1 #[.val (.int y), .unset, .unset] [(.int y)])) ?_ (fun t_ k_ => XS.iloadN X0.here hx rfl (hb hby d1_0) rfl k_)
  refine Goes.on (T' := s₁) (g' := (mkF m 2 #[.val (.int y), .unset, .unset] [(.int (3 : Int32)), (.int y)])) ?_ (fun t_ k_ => XS.iconst X0.here hx rfl (hb hby d1_1) k_)
  refine Goes.on (T' := s₁) (g' := (mkF m 3 #[.val (.int y), .unset, .unset] [(.int (y &&& (3 : Int32)))])) ?_ (fun t_ k_ => XS.iand X0.here hx rfl (hb hby d1_2) rfl k_)
  refine Goes.on (T' := s₁) (g' := (mkF m 4 #[.val (.int y), .val (.int (y &&& (3 : Int32))), .unset] [])) ?_ (fun t_ k_ => XS.istoreN X0.here hx rfl (hb hby d1_3) rfl (l' := #[.val (.int y), .val (.int (y &&& (3 : Int32))), .unset]) rfl k_)
  refine Goes.on (T' := s₁) (g' := (mkF m 5 #[.val (.int y), .val (.int (y &&& (3 : Int32))), .unset] [(.int y)])) ?_ (fun t_ k_ => XS.iloadN X0.here hx rfl (hb hby d1_4) rfl k_)
  refine Goes.on (T' := s₁) (g' := (mkF m 6 #[.val (.int y), .val (.int (y &&& (3 : Int32))), .unset] [(.int (2 : Int32)), (.int y)])) ?_ (fun t_ k_ => XS.iconst X0.here hx rfl (hb hby d1_5) k_)
  refine Goes.on (T' := s₁) (g' := (mkF m 7 #[.val (.int y), .val (.int (y &&& (3 : Int32))), .unset] [(.int ((y.toUInt32 >>> ((2 : Int32) &&& 31).toUInt32).toInt32))])) ?_ (fun t_ k_ => XS.iushr X0.here hx rfl (hb hby d1_6) rfl k_)
  refine Goes.on (T' := s₁) (g' := (mkF m 8 #[.val (.int y), .val (.int (y &&& (3 : Int32))), .val (.int ((y.toUInt32 >>> ((2 : Int32) &&& 31).toUInt32).toInt32))] [])) ?_ (fun t_ k_ => XS.istoreN X0.here hx rfl (hb hby d1_7) rfl (l' := #[.val (.int y), .val (.int (y &&& (3 : Int32))), .val (.int ((y.toUInt32 >>> ((2 : Int32) &&& 31).toUInt32).toInt32))]) rfl k_)
  refine Goes.on (T' := s₁) (g' := (mkF m 9 #[.val (.int y), .val (.int (y &&& (3 : Int32))), .val (.int ((y.toUInt32 >>> ((2 : Int32) &&& 31).toUInt32).toInt32))] [(.int (y &&& (3 : Int32)))])) ?_ (fun t_ k_ => XS.iloadN X0.here hx rfl (hb hby d1_8) rfl k_)
  refine Goes.ifN X0 hx rfl (pc0 := 9) (pc' := 21) rfl (hb hby d1_9) rfl (by decide) (by decide) (P := (y &&& (3 : Int32)) = (0 : Int32)) (ifc_ne _ _) (fun hc9 => ?_) (fun hc9 => ?_)
  · show Goes p e below W s₁ (mkF m 21 #[.val (.int y), .val (.int (y &&& (3 : Int32))), .val (.int ((y.toUInt32 >>> ((2 : Int32) &&& 31).toUInt32).toInt32))] [])
    refine Goes.on (T' := s₁) (g' := (mkF m 22 #[.val (.int y), .val (.int (y &&& (3 : Int32))), .val (.int ((y.toUInt32 >>> ((2 : Int32) &&& 31).toUInt32).toInt32))] [(.int (y &&& (3 : Int32)))])) ?_ (fun t_ k_ => XS.iloadN X0.here hx rfl (hb hby d1_21) rfl k_)
    refine Goes.on (T' := s₁) (g' := (mkF m 23 #[.val (.int y), .val (.int (y &&& (3 : Int32))), .val (.int ((y.toUInt32 >>> ((2 : Int32) &&& 31).toUInt32).toInt32))] [(.int (1 : Int32)), (.int (y &&& (3 : Int32)))])) ?_ (fun t_ k_ => XS.iconst X0.here hx rfl (hb hby d1_22) k_)
    refine Goes.icmpN X0 hx rfl (pc0 := 23) (pc' := 29) rfl (hb hby d1_23) rfl (by decide) (by decide) (P := (y &&& (3 : Int32)) = (1 : Int32)) (cmp_ne _ _) (fun hc23 => ?_) (fun hc23 => ?_)
    · show Goes p e below W s₁ (mkF m 29 #[.val (.int y), .val (.int (y &&& (3 : Int32))), .val (.int ((y.toUInt32 >>> ((2 : Int32) &&& 31).toUInt32).toInt32))] [])
      refine Goes.on (T' := s₁) (g' := (mkF m 30 #[.val (.int y), .val (.int (y &&& (3 : Int32))), .val (.int ((y.toUInt32 >>> ((2 : Int32) &&& 31).toUInt32).toInt32))] [(.int (y &&& (3 : Int32)))])) ?_ (fun t_ k_ => XS.iloadN X0.here hx rfl (hb hby d1_29) rfl k_)
      refine Goes.on (T' := s₁) (g' := (mkF m 31 #[.val (.int y), .val (.int (y &&& (3 : Int32))), .val (.int ((y.toUInt32 >>> ((2 : Int32) &&& 31).toUInt32).toInt32))] [(.int (3 : Int32)), (.int (y &&& (3 : Int32)))])) ?_ (fun t_ k_ => XS.iconst X0.here hx rfl (hb hby d1_30) k_)
      refine Goes.icmpN X0 hx rfl (pc0 := 31) (pc' := 48) rfl (hb hby d1_31) rfl (by decide) (by decide) (P := (y &&& (3 : Int32)) = (3 : Int32)) (cmp_ne _ _) (fun hc31 => ?_) (fun hc31 => ?_)
      · show Goes p e below W s₁ (mkF m 48 #[.val (.int y), .val (.int (y &&& (3 : Int32))), .val (.int ((y.toUInt32 >>> ((2 : Int32) &&& 31).toUInt32).toInt32))] [])
        refine Goes.on (T' := s₁) (g' := (mkF m 49 #[.val (.int y), .val (.int (y &&& (3 : Int32))), .val (.int ((y.toUInt32 >>> ((2 : Int32) &&& 31).toUInt32).toInt32))] [(.int ((y.toUInt32 >>> ((2 : Int32) &&& 31).toUInt32).toInt32))])) ?_ (fun t_ k_ => XS.iloadN X0.here hx rfl (hb hby d1_48) rfl k_)
        refine Goes.on (T' := s₁) (g' := (mkF m 51 #[.val (.int y), .val (.int (y &&& (3 : Int32))), .val (.int ((y.toUInt32 >>> ((2 : Int32) &&& 31).toUInt32).toInt32))] [(.int (65535 : Int32)), (.int ((y.toUInt32 >>> ((2 : Int32) &&& 31).toUInt32).toInt32))])) ?_ (X0.ldcInt hx hown (mvT hZ (hw _ (List.mem_of_getElem? (i := 5) rfl))) (g := (mkF m 49 #[.val (.int y), .val (.int (y &&& (3 : Int32))), .val (.int ((y.toUInt32 >>> ((2 : Int32) &&& 31).toUInt32).toInt32))] [(.int ((y.toUInt32 >>> ((2 : Int32) &&& 31).toUInt32).toInt32))])) rfl (hb hby d1_49))
        refine Goes.on (T' := s₁) (g' := (mkF m 52 #[.val (.int y), .val (.int (y &&& (3 : Int32))), .val (.int ((y.toUInt32 >>> ((2 : Int32) &&& 31).toUInt32).toInt32))] [(.int (((y.toUInt32 >>> ((2 : Int32) &&& 31).toUInt32).toInt32) &&& (65535 : Int32)))])) ?_ (fun t_ k_ => XS.iand X0.here hx rfl (hb hby d1_51) rfl k_)
        refine Goes.on (T' := s₁) (g' := (mkF m 53 #[.val (.int y), .val (.int (y &&& (3 : Int32))), .val (.int ((y.toUInt32 >>> ((2 : Int32) &&& 31).toUInt32).toInt32))] [(.int ((((y.toUInt32 >>> ((2 : Int32) &&& 31).toUInt32).toInt32) &&& (65535 : Int32)).toUInt32.toUInt16.toUInt32.toInt32))])) ?_ (fun t_ k_ => XS.i2c X0.here hx rfl (hb hby d1_52) rfl k_)
        rw [hWd]
        exact Goes.retn X0 (v := some (.int (nar .char ((((y.toUInt32 >>> ((2 : Int32) &&& 31).toUInt32).toInt32) &&& (65535 : Int32)).toUInt32.toUInt16.toUInt32.toInt32)))) (fun fs hr => retN X0 hx (t := .char) Bd.returns (by simp) (hb hby d1_53) hr) (fun h => by rw [Bd.returns] at h; cases h) Bd.notSynchronized (by decide) (by decide) (by rw [e0]; exact ⟨_, rfl, N0, rfl, own_ncb _⟩)
      · show Goes p e below W s₁ (mkF m 34 #[.val (.int y), .val (.int (y &&& (3 : Int32))), .val (.int ((y.toUInt32 >>> ((2 : Int32) &&& 31).toUInt32).toInt32))] [])
        refine Goes.on (T' := s₁) (g' := (mkF m 35 #[.val (.int y), .val (.int (y &&& (3 : Int32))), .val (.int ((y.toUInt32 >>> ((2 : Int32) &&& 31).toUInt32).toInt32))] [(.int ((y.toUInt32 >>> ((2 : Int32) &&& 31).toUInt32).toInt32))])) ?_ (fun t_ k_ => XS.iloadN X0.here hx rfl (hb hby d1_34) rfl k_)
        refine Goes.on (T' := s₁) (g' := (mkF m 36 #[.val (.int y), .val (.int (y &&& (3 : Int32))), .val (.int ((y.toUInt32 >>> ((2 : Int32) &&& 31).toUInt32).toInt32))] [(.int (1 : Int32)), (.int ((y.toUInt32 >>> ((2 : Int32) &&& 31).toUInt32).toInt32))])) ?_ (fun t_ k_ => XS.iconst X0.here hx rfl (hb hby d1_35) k_)
        refine Goes.on (T' := s₁) (g' := (mkF m 37 #[.val (.int y), .val (.int (y &&& (3 : Int32))), .val (.int ((y.toUInt32 >>> ((2 : Int32) &&& 31).toUInt32).toInt32))] [(.int (((y.toUInt32 >>> ((2 : Int32) &&& 31).toUInt32).toInt32) &&& (1 : Int32)))])) ?_ (fun t_ k_ => XS.iand X0.here hx rfl (hb hby d1_36) rfl k_)
        refine Goes.ifN X0 hx rfl (pc0 := 37) (pc' := 45) rfl (hb hby d1_37) rfl (by decide) (by decide) (P := (((y.toUInt32 >>> ((2 : Int32) &&& 31).toUInt32).toInt32) &&& (1 : Int32)) = (0 : Int32)) (ifc_ne _ _) (fun hc37 => ?_) (fun hc37 => ?_)
        · show Goes p e below W s₁ (mkF m 45 #[.val (.int y), .val (.int (y &&& (3 : Int32))), .val (.int ((y.toUInt32 >>> ((2 : Int32) &&& 31).toUInt32).toInt32))] [])
          refine Goes.on (T' := s₁) (g' := (mkF m 47 #[.val (.int y), .val (.int (y &&& (3 : Int32))), .val (.int ((y.toUInt32 >>> ((2 : Int32) &&& 31).toUInt32).toInt32))] [(.int (58 : Int32))])) ?_ (fun t_ k_ => XS.bipush X0.here hx rfl (hb hby d1_45) k_)
          rw [hWd]
          exact Goes.retn X0 (v := some (.int (nar .char (58 : Int32)))) (fun fs hr => retN X0 hx (t := .char) Bd.returns (by simp) (hb hby d1_47) hr) (fun h => by rw [Bd.returns] at h; cases h) Bd.notSynchronized (by decide) (by decide) (by rw [e0]; exact ⟨_, rfl, N0, rfl, own_ncb _⟩)
        · show Goes p e below W s₁ (mkF m 40 #[.val (.int y), .val (.int (y &&& (3 : Int32))), .val (.int ((y.toUInt32 >>> ((2 : Int32) &&& 31).toUInt32).toInt32))] [])
          refine Goes.on (T' := s₁) (g' := (mkF m 42 #[.val (.int y), .val (.int (y &&& (3 : Int32))), .val (.int ((y.toUInt32 >>> ((2 : Int32) &&& 31).toUInt32).toInt32))] [(.int (47 : Int32))])) ?_ (fun t_ k_ => XS.bipush X0.here hx rfl (hb hby d1_40) k_)
          refine Goes.on (T' := s₁) (g' := (mkF m 47 #[.val (.int y), .val (.int (y &&& (3 : Int32))), .val (.int ((y.toUInt32 >>> ((2 : Int32) &&& 31).toUInt32).toInt32))] [(.int (47 : Int32))])) ?_ (fun t_ k_ => XS.goto X0.here hx rfl (pc0 := 42) (pc' := 47) rfl (hb hby d1_42) (by decide) (by decide) k_)
          rw [hWd]
          exact Goes.retn X0 (v := some (.int (nar .char (47 : Int32)))) (fun fs hr => retN X0 hx (t := .char) Bd.returns (by simp) (hb hby d1_47) hr) (fun h => by rw [Bd.returns] at h; cases h) Bd.notSynchronized (by decide) (by decide) (by rw [e0]; exact ⟨_, rfl, N0, rfl, own_ncb _⟩)
    · show Goes p e below W s₁ (mkF m 26 #[.val (.int y), .val (.int (y &&& (3 : Int32))), .val (.int ((y.toUInt32 >>> ((2 : Int32) &&& 31).toUInt32).toInt32))] [])
      refine Goes.on (T' := s₁) (g' := (mkF m 28 #[.val (.int y), .val (.int (y &&& (3 : Int32))), .val (.int ((y.toUInt32 >>> ((2 : Int32) &&& 31).toUInt32).toInt32))] [(.int (46 : Int32))])) ?_ (fun t_ k_ => XS.bipush X0.here hx rfl (hb hby d1_26) k_)
      rw [hWd]
      exact Goes.retn X0 (v := some (.int (nar .char (46 : Int32)))) (fun fs hr => retN X0 hx (t := .char) Bd.returns (by simp) (hb hby d1_28) hr) (fun h => by rw [Bd.returns] at h; cases h) Bd.notSynchronized (by decide) (by decide) (by rw [e0]; exact ⟨_, rfl, N0, rfl, own_ncb _⟩)
  · show Goes p e below W s₁ (mkF m 12 #[.val (.int y), .val (.int (y &&& (3 : Int32))), .val (.int ((y.toUInt32 >>> ((2 : Int32) &&& 31).toUInt32).toInt32))] [])
    refine Goes.on (T' := s₁) (g' := (mkF m 14 #[.val (.int y), .val (.int (y &&& (3 : Int32))), .val (.int ((y.toUInt32 >>> ((2 : Int32) &&& 31).toUInt32).toInt32))] [(.int (48 : Int32))])) ?_ (fun t_ k_ => XS.bipush X0.here hx rfl (hb hby d1_12) k_)
    refine Goes.on (T' := s₁) (g' := (mkF m 15 #[.val (.int y), .val (.int (y &&& (3 : Int32))), .val (.int ((y.toUInt32 >>> ((2 : Int32) &&& 31).toUInt32).toInt32))] [(.int ((y.toUInt32 >>> ((2 : Int32) &&& 31).toUInt32).toInt32)), (.int (48 : Int32))])) ?_ (fun t_ k_ => XS.iloadN X0.here hx rfl (hb hby d1_14) rfl k_)
    refine Goes.on (T' := s₁) (g' := (mkF m 17 #[.val (.int y), .val (.int (y &&& (3 : Int32))), .val (.int ((y.toUInt32 >>> ((2 : Int32) &&& 31).toUInt32).toInt32))] [(.int (10 : Int32)), (.int ((y.toUInt32 >>> ((2 : Int32) &&& 31).toUInt32).toInt32)), (.int (48 : Int32))])) ?_ (fun t_ k_ => XS.bipush X0.here hx rfl (hb hby d1_15) k_)
    refine Goes.on (T' := s₁) (g' := (mkF m 18 #[.val (.int y), .val (.int (y &&& (3 : Int32))), .val (.int ((y.toUInt32 >>> ((2 : Int32) &&& 31).toUInt32).toInt32))] [(.int (((y.toUInt32 >>> ((2 : Int32) &&& 31).toUInt32).toInt32) % (10 : Int32))), (.int (48 : Int32))])) ?_ (fun t_ k_ => iremM X0 hx rfl (hb hby d1_17) rfl (by decide) k_)
    refine Goes.on (T' := s₁) (g' := (mkF m 19 #[.val (.int y), .val (.int (y &&& (3 : Int32))), .val (.int ((y.toUInt32 >>> ((2 : Int32) &&& 31).toUInt32).toInt32))] [(.int ((48 : Int32) + (((y.toUInt32 >>> ((2 : Int32) &&& 31).toUInt32).toInt32) % (10 : Int32))))])) ?_ (fun t_ k_ => XS.iadd X0.here hx rfl (hb hby d1_18) rfl k_)
    refine Goes.on (T' := s₁) (g' := (mkF m 20 #[.val (.int y), .val (.int (y &&& (3 : Int32))), .val (.int ((y.toUInt32 >>> ((2 : Int32) &&& 31).toUInt32).toInt32))] [(.int (((48 : Int32) + (((y.toUInt32 >>> ((2 : Int32) &&& 31).toUInt32).toInt32) % (10 : Int32))).toUInt32.toUInt16.toUInt32.toInt32))])) ?_ (fun t_ k_ => XS.i2c X0.here hx rfl (hb hby d1_19) rfl k_)
    rw [hWd]
    exact Goes.retn X0 (v := some (.int (nar .char (((48 : Int32) + (((y.toUInt32 >>> ((2 : Int32) &&& 31).toUInt32).toInt32) % (10 : Int32))).toUInt32.toUInt16.toUInt32.toInt32)))) (fun fs hr => retN X0 hx (t := .char) Bd.returns (by simp) (hb hby d1_20) hr) (fun h => by rw [Bd.returns] at h; cases h) Bd.notSynchronized (by decide) (by decide) (by rw [e0]; exact ⟨_, rfl, N0, rfl, own_ncb _⟩)
def QDG (Z : State) (c_ : Int32) (h0 : Heap) (n0 : Nat) (v : Option Value) (h : Heap) (L : List Loc) : Prop := v = some (.int (own_dig c_)) ∧ Fr n0 L ∧ h = h0
set_option maxRecDepth 65536 in
set_option maxHeartbeats 40000000 in
theorem rmDG (l : Launch) (Z : State) (a0 : Array Value) (hw : ∀ d ∈ tables_1, d.before a0 Z = true) (ws : List Jvm.Cond) (c_ : Int32) (h0 : Heap) (n0 : Nat) (Z0 : n0 ≤ h0.size)  :
    MetFree l (⟨"com/example/syndic/syndic/input/AmountsIsWrittenPinLaw", "digit", "(C)Z"⟩ : MethodName) (head1 (Jvm.Cond.code (⟨"com/example/syndic/syndic/input/AmountsIsWrittenPinLaw", "digit", "(C)Z"⟩ : MethodName) method_3_code 1 (some .boolean) :: ws) ({ frames := 0, cells := 0, slots := 0, locals := 0 } : Room)) (fun a_ U => a_ = #[(.int c_)] ∧ Z.Warmed39 U.vm ∧ U.heap = h0) (fun _ _ _ _ _ => True) (fun _ U o U' => ∃ v L, o = .returned v ∧ QDG Z c_ h0 n0 v U'.heap L ∧ FrameEnd U o U' L ({ frames := 0, cells := 0, slots := 0, locals := 0 } : Room).cells ({ frames := 0, cells := 0, slots := 0, locals := 0 } : Room).slots) := by
  refine MetFree.of_bodySF (plainFor_of_name pn_4) hisR ?_
  intro p e s m args below meth c s₁ Bd hml0 hP hK
  obtain ⟨rfl, hZ, hh⟩ := hP
  have hx := Bd.exec
  have hby := Bd.bytes
  have hml : c.maxLocals = 1 := hml0
  have hown : s.vm.findClass "com/example/syndic/syndic/input/AmountsIsWrittenPinLaw" = some m.cls := findClass_of_methodNamed Bd.named
  have hnm := (name_of_methodNamed Bd.named Bd.method).1
  have X0 : Stand p l e ({ frames := 0, cells := 0, slots := 0, locals := 0 } : Room) s m #[(.int c_)] below meth c s₁ [] 0 0 := Stand.of_body Bd
  have e0 : s₁.heap = h0 := by rw [← hh, Bd.state]; rfl
  have N0 := Fr.nil n0
  refine Goes.done ?_
  obtain ⟨W, hWd⟩ : ∃ W : State → Prop, W = EndW s below (QDG Z c_ h0 n0) ({ frames := 0, cells := 0, slots := 0, locals := 0 } : Room).cells ({ frames := 0, cells := 0, slots := 0, locals := 0 } : Room).slots := ⟨_, rfl⟩
  rw [← hWd]
  have hef : entryFrame m #[(.int c_)] 1 = (mkF m 0 #[.val (.int c_)] []) := by first | (simp [entryFrame, mkF, argsToLocals, Value.category]; done) | rfl
  rw [hef]
  refine Goes.on (T' := s₁) (g' := (mkF m 1 #[.val (.int c_)] [(.int c_)])) ?_ (fun t_ k_ => XS.iloadN X0.here hx rfl (hb hby d9_0) rfl k_)
  refine Goes.on (T' := s₁) (g' := (mkF m 3 #[.val (.int c_)] [(.int (48 : Int32)), (.int c_)])) ?_ (fun t_ k_ => XS.bipush X0.here hx rfl (hb hby d9_1) k_)
  refine Goes.icmpP X0 hx rfl (pc0 := 3) (pc' := 16) rfl (hb hby d9_3) rfl (by decide) (by decide) (P := c_ < (48 : Int32)) (cmp_lt _ _) (fun hc3 => ?_) (fun hc3 => ?_)
  · show Goes p e below W s₁ (mkF m 16 #[.val (.int c_)] [])
    refine Goes.on (T' := s₁) (g' := (mkF m 17 #[.val (.int c_)] [(.int (0 : Int32))])) ?_ (fun t_ k_ => XS.iconst X0.here hx rfl (hb hby d9_16) k_)
    rw [hWd]
    exact Goes.retn X0 (v := some (.int (nar .boolean (0 : Int32)))) (fun fs hr => retN X0 hx (t := .boolean) Bd.returns (by simp) (hb hby d9_17) hr) (fun h => by rw [Bd.returns] at h; cases h) Bd.notSynchronized (by decide) (by decide) (by rw [e0]; exact ⟨(show some (Value.int (0 : Int32)) = some (.int (own_dig c_)) from by simp only [own_dig, eq_true hc3, if_true, if_false, ↓reduceIte, not_true_eq_false, not_false_eq_true, true_and, and_true, false_and, and_false, or_true, true_or, or_false, false_or, and_self, or_self]), N0, rfl⟩)
  · show Goes p e below W s₁ (mkF m 6 #[.val (.int c_)] [])
    refine Goes.on (T' := s₁) (g' := (mkF m 7 #[.val (.int c_)] [(.int c_)])) ?_ (fun t_ k_ => XS.iloadN X0.here hx rfl (hb hby d9_6) rfl k_)
    refine Goes.on (T' := s₁) (g' := (mkF m 9 #[.val (.int c_)] [(.int (57 : Int32)), (.int c_)])) ?_ (fun t_ k_ => XS.bipush X0.here hx rfl (hb hby d9_7) k_)
    refine Goes.icmpP X0 hx rfl (pc0 := 9) (pc' := 16) rfl (hb hby d9_9) rfl (by decide) (by decide) (P := (57 : Int32) < c_) (cmp_gt _ _) (fun hc9 => ?_) (fun hc9 => ?_)
    · show Goes p e below W s₁ (mkF m 16 #[.val (.int c_)] [])
      refine Goes.on (T' := s₁) (g' := (mkF m 17 #[.val (.int c_)] [(.int (0 : Int32))])) ?_ (fun t_ k_ => XS.iconst X0.here hx rfl (hb hby d9_16) k_)
      rw [hWd]
      exact Goes.retn X0 (v := some (.int (nar .boolean (0 : Int32)))) (fun fs hr => retN X0 hx (t := .boolean) Bd.returns (by simp) (hb hby d9_17) hr) (fun h => by rw [Bd.returns] at h; cases h) Bd.notSynchronized (by decide) (by decide) (by rw [e0]; exact ⟨(show some (Value.int (0 : Int32)) = some (.int (own_dig c_)) from by simp only [own_dig, eq_false hc3, eq_true hc9, if_true, if_false, ↓reduceIte, not_true_eq_false, not_false_eq_true, true_and, and_true, false_and, and_false, or_true, true_or, or_false, false_or, and_self, or_self]), N0, rfl⟩)
    · show Goes p e below W s₁ (mkF m 12 #[.val (.int c_)] [])
      refine Goes.on (T' := s₁) (g' := (mkF m 13 #[.val (.int c_)] [(.int (1 : Int32))])) ?_ (fun t_ k_ => XS.iconst X0.here hx rfl (hb hby d9_12) k_)
      refine Goes.on (T' := s₁) (g' := (mkF m 17 #[.val (.int c_)] [(.int (1 : Int32))])) ?_ (fun t_ k_ => XS.goto X0.here hx rfl (pc0 := 13) (pc' := 17) rfl (hb hby d9_13) (by decide) (by decide) k_)
      rw [hWd]
      exact Goes.retn X0 (v := some (.int (nar .boolean (1 : Int32)))) (fun fs hr => retN X0 hx (t := .boolean) Bd.returns (by simp) (hb hby d9_17) hr) (fun h => by rw [Bd.returns] at h; cases h) Bd.notSynchronized (by decide) (by decide) (by rw [e0]; exact ⟨(show some (Value.int (1 : Int32)) = some (.int (own_dig c_)) from by simp only [own_dig, eq_false hc3, eq_false hc9, if_true, if_false, ↓reduceIte, not_true_eq_false, not_false_eq_true, true_and, and_true, false_and, and_false, or_true, true_or, or_false, false_or, and_self, or_self]), N0, rfl⟩)
def QAL (Z : State) (c_ i_ n_ : Int32) (h0 : Heap) (n0 : Nat) (v : Option Value) (h : Heap) (L : List Loc) : Prop := v = some (.int (own_alw c_ i_ n_)) ∧ Fr n0 L ∧ h = h0
set_option maxRecDepth 65536 in
set_option maxHeartbeats 40000000 in
theorem rmAL (l : Launch) (Z : State) (a0 : Array Value) (hw : ∀ d ∈ tables_1, d.before a0 Z = true) (ws : List Jvm.Cond) (c_ i_ n_ : Int32) (h0 : Heap) (n0 : Nat) (Z0 : n0 ≤ h0.size)  :
    MetFree l (⟨"com/example/syndic/syndic/input/AmountsIsWrittenPinLaw", "allowed", "(CII)Z"⟩ : MethodName) (head1 (Jvm.Cond.code (⟨"com/example/syndic/syndic/input/AmountsIsWrittenPinLaw", "allowed", "(CII)Z"⟩ : MethodName) method_4_code 3 (some .boolean) :: ws) ({ frames := 1, cells := 0, slots := 0, locals := 12 } : Room)) (fun a_ U => a_ = #[(.int c_), (.int i_), (.int n_)] ∧ Z.Warmed39 U.vm ∧ U.heap = h0) (fun _ _ _ _ _ => True) (fun _ U o U' => ∃ v L, o = .returned v ∧ QAL Z c_ i_ n_ h0 n0 v U'.heap L ∧ FrameEnd U o U' L ({ frames := 1, cells := 0, slots := 0, locals := 12 } : Room).cells ({ frames := 1, cells := 0, slots := 0, locals := 12 } : Room).slots) := by
  refine MetFree.of_bodySF (plainFor_of_name pn_4) hisR ?_
  intro p e s m args below meth c s₁ Bd hml0 hP hK
  obtain ⟨rfl, hZ, hh⟩ := hP
  have hx := Bd.exec
  have hby := Bd.bytes
  have hml : c.maxLocals = 3 := hml0
  have hown : s.vm.findClass "com/example/syndic/syndic/input/AmountsIsWrittenPinLaw" = some m.cls := findClass_of_methodNamed Bd.named
  have hnm := (name_of_methodNamed Bd.named Bd.method).1
  have X0 : Stand p l e ({ frames := 1, cells := 0, slots := 0, locals := 12 } : Room) s m #[(.int c_), (.int i_), (.int n_)] below meth c s₁ [] 0 0 := Stand.of_body Bd
  have e0 : s₁.heap = h0 := by rw [← hh, Bd.state]; rfl
  have N0 := Fr.nil n0
  refine Goes.done ?_
  obtain ⟨W, hWd⟩ : ∃ W : State → Prop, W = EndW s below (QAL Z c_ i_ n_ h0 n0) ({ frames := 1, cells := 0, slots := 0, locals := 12 } : Room).cells ({ frames := 1, cells := 0, slots := 0, locals := 12 } : Room).slots := ⟨_, rfl⟩
  rw [← hWd]
  have hef : entryFrame m #[(.int c_), (.int i_), (.int n_)] 3 = (mkF m 0 #[.val (.int c_), .val (.int i_), .val (.int n_)] []) := by first | (simp [entryFrame, mkF, argsToLocals, Value.category]; done) | rfl
  rw [hef]
  refine Goes.on (T' := s₁) (g' := (mkF m 1 #[.val (.int c_), .val (.int i_), .val (.int n_)] [(.int i_)])) ?_ (fun t_ k_ => XS.iloadN X0.here hx rfl (hb hby d8_0) rfl k_)
  refine Goes.on (T' := s₁) (g' := (mkF m 2 #[.val (.int c_), .val (.int i_), .val (.int n_)] [(.int n_), (.int i_)])) ?_ (fun t_ k_ => XS.iloadN X0.here hx rfl (hb hby d8_1) rfl k_)
  refine Goes.icmpN X0 hx rfl (pc0 := 2) (pc' := 18) rfl (hb hby d8_2) rfl (by decide) (by decide) (P := i_ < n_) (cmp_ge _ _) (fun hc2 => ?_) (fun hc2 => ?_)
  · show Goes p e below W s₁ (mkF m 18 #[.val (.int c_), .val (.int i_), .val (.int n_)] [])
    refine Goes.on (T' := s₁) (g' := (mkF m 19 #[.val (.int c_), .val (.int i_), .val (.int n_)] [(.int (1 : Int32))])) ?_ (fun t_ k_ => XS.iconst X0.here hx rfl (hb hby d8_18) k_)
    refine Goes.on (T' := s₁) (g' := (mkF m 23 #[.val (.int c_), .val (.int i_), .val (.int n_)] [(.int (1 : Int32))])) ?_ (fun t_ k_ => XS.goto X0.here hx rfl (pc0 := 19) (pc' := 23) rfl (hb hby d8_19) (by decide) (by decide) k_)
    rw [hWd]
    exact Goes.retn X0 (v := some (.int (nar .boolean (1 : Int32)))) (fun fs hr => retN X0 hx (t := .boolean) Bd.returns (by simp) (hb hby d8_23) hr) (fun h => by rw [Bd.returns] at h; cases h) Bd.notSynchronized (by decide) (by decide) (by rw [e0]; exact ⟨(show some (Value.int (1 : Int32)) = some (.int (own_alw c_ i_ n_)) from by simp only [own_alw, eq_false hc2, if_true, if_false, ↓reduceIte, not_true_eq_false, not_false_eq_true, true_and, and_true, false_and, and_false, or_true, true_or, or_false, false_or, and_self, or_self]), N0, rfl⟩)
  · show Goes p e below W s₁ (mkF m 5 #[.val (.int c_), .val (.int i_), .val (.int n_)] [])
    refine Goes.on (T' := s₁) (g' := (mkF m 6 #[.val (.int c_), .val (.int i_), .val (.int n_)] [(.int c_)])) ?_ (fun t_ k_ => XS.iloadN X0.here hx rfl (hb hby d8_5) rfl k_)
    obtain ⟨_, _, ⟨T1, Lq_1, kq_1, nq_1⟩, -, X1, ⟨Lc1, hQ1, l1, y1, z1⟩, st1⟩ := Jvm.LawKit.callS X0 hx (y := (⟨"com/example/syndic/syndic/input/AmountsIsWrittenPinLaw", "digit", "(C)Z"⟩ : MethodName)) hown (mvT hZ (hw _ (List.mem_of_getElem? (i := 39) rfl))) (mvT hZ (hw _ (List.mem_of_getElem? (i := 40) rfl))) (mvT hZ (hw _ (List.mem_of_getElem? (i := 3) rfl))) (mvT hZ (hw _ (List.mem_of_getElem? (i := 41) rfl))) (by decide) (backOf (W := 0) (rmDG l Z a0 hw [] c_ h0 n0 Z0) hZ (hw _ (List.mem_of_getElem? (i := 41) rfl)) (hw _ (List.mem_of_getElem? (i := 3) rfl)) (by decide) (by decide)) (g := (mkF m 6 #[.val (.int c_), .val (.int i_), .val (.int n_)] [(.int c_)])) rfl (by rw [hml]; rfl) (argsL := [(.int c_)]) (rest := []) (lenOf pd_13 rfl) rfl (by show 2 * 0 + _ ≤ _; exact Nat.le_of_eq rfl) (hb hby d8_6) (fun _ _ => ⟨rfl, e0, (by decide : 0 + 0 ≤ _), (by decide : 0 + 0 ≤ _)⟩)
    dsimp only [Pt.U, Pt.locs, Pt.cells, Pt.slots] at X1 l1 y1 z1 st1 hQ1
    rw [l1, y1, z1] at X1
    change Stand p l e _ _ m _ below meth c T1 _ 0 0 at X1
    obtain ⟨rfl, N1q, eh1⟩ := hQ1
    have N1 := Fr.app N0 N1q
    refine Goes.on (T' := T1) (g' := (mkF m 9 #[.val (.int c_), .val (.int i_), .val (.int n_)] [(.int (own_dig c_))])) ?_ st1
    refine Goes.ifN X1 hx rfl (pc0 := 9) (pc' := 18) rfl (hb hby d8_9) rfl (by decide) (by decide) (P := (own_dig c_) = (0 : Int32)) (ifc_ne _ _) (fun hc9 => ?_) (fun hc9 => ?_)
    · show Goes p e below W T1 (mkF m 18 #[.val (.int c_), .val (.int i_), .val (.int n_)] [])
      refine Goes.on (T' := T1) (g' := (mkF m 19 #[.val (.int c_), .val (.int i_), .val (.int n_)] [(.int (1 : Int32))])) ?_ (fun t_ k_ => XS.iconst X1.here hx rfl (hb hby d8_18) k_)
      refine Goes.on (T' := T1) (g' := (mkF m 23 #[.val (.int c_), .val (.int i_), .val (.int n_)] [(.int (1 : Int32))])) ?_ (fun t_ k_ => XS.goto X1.here hx rfl (pc0 := 19) (pc' := 23) rfl (hb hby d8_19) (by decide) (by decide) k_)
      rw [hWd]
      exact Goes.retn X1 (v := some (.int (nar .boolean (1 : Int32)))) (fun fs hr => retN X1 hx (t := .boolean) Bd.returns (by simp) (hb hby d8_23) hr) (fun h => by rw [Bd.returns] at h; cases h) Bd.notSynchronized (by decide) (by decide) (by rw [eh1]; exact ⟨(show some (Value.int (1 : Int32)) = some (.int (own_alw c_ i_ n_)) from by simp only [own_alw, eq_true hc2, eq_false hc9, if_true, if_false, ↓reduceIte, not_true_eq_false, not_false_eq_true, true_and, and_true, false_and, and_false, or_true, true_or, or_false, false_or, and_self, or_self]), N1, rfl⟩)
    · show Goes p e below W T1 (mkF m 12 #[.val (.int c_), .val (.int i_), .val (.int n_)] [])
      refine Goes.on (T' := T1) (g' := (mkF m 13 #[.val (.int c_), .val (.int i_), .val (.int n_)] [(.int c_)])) ?_ (fun t_ k_ => XS.iloadN X1.here hx rfl (hb hby d8_12) rfl k_)
      refine Goes.on (T' := T1) (g' := (mkF m 15 #[.val (.int c_), .val (.int i_), .val (.int n_)] [(.int (46 : Int32)), (.int c_)])) ?_ (fun t_ k_ => XS.bipush X1.here hx rfl (hb hby d8_13) k_)
      refine Goes.icmpN X1 hx rfl (pc0 := 15) (pc' := 22) rfl (hb hby d8_15) rfl (by decide) (by decide) (P := c_ = (46 : Int32)) (cmp_ne _ _) (fun hc15 => ?_) (fun hc15 => ?_)
      · show Goes p e below W T1 (mkF m 22 #[.val (.int c_), .val (.int i_), .val (.int n_)] [])
        refine Goes.on (T' := T1) (g' := (mkF m 23 #[.val (.int c_), .val (.int i_), .val (.int n_)] [(.int (0 : Int32))])) ?_ (fun t_ k_ => XS.iconst X1.here hx rfl (hb hby d8_22) k_)
        rw [hWd]
        exact Goes.retn X1 (v := some (.int (nar .boolean (0 : Int32)))) (fun fs hr => retN X1 hx (t := .boolean) Bd.returns (by simp) (hb hby d8_23) hr) (fun h => by rw [Bd.returns] at h; cases h) Bd.notSynchronized (by decide) (by decide) (by rw [eh1]; exact ⟨(show some (Value.int (0 : Int32)) = some (.int (own_alw c_ i_ n_)) from by simp only [own_alw, eq_true hc2, eq_true hc9, eq_false hc15, if_true, if_false, ↓reduceIte, not_true_eq_false, not_false_eq_true, true_and, and_true, false_and, and_false, or_true, true_or, or_false, false_or, and_self, or_self]), N1, rfl⟩)
      · show Goes p e below W T1 (mkF m 18 #[.val (.int c_), .val (.int i_), .val (.int n_)] [])
        refine Goes.on (T' := T1) (g' := (mkF m 19 #[.val (.int c_), .val (.int i_), .val (.int n_)] [(.int (1 : Int32))])) ?_ (fun t_ k_ => XS.iconst X1.here hx rfl (hb hby d8_18) k_)
        refine Goes.on (T' := T1) (g' := (mkF m 23 #[.val (.int c_), .val (.int i_), .val (.int n_)] [(.int (1 : Int32))])) ?_ (fun t_ k_ => XS.goto X1.here hx rfl (pc0 := 19) (pc' := 23) rfl (hb hby d8_19) (by decide) (by decide) k_)
        rw [hWd]
        exact Goes.retn X1 (v := some (.int (nar .boolean (1 : Int32)))) (fun fs hr => retN X1 hx (t := .boolean) Bd.returns (by simp) (hb hby d8_23) hr) (fun h => by rw [Bd.returns] at h; cases h) Bd.notSynchronized (by decide) (by decide) (by rw [eh1]; exact ⟨(show some (Value.int (1 : Int32)) = some (.int (own_alw c_ i_ n_)) from by simp only [own_alw, eq_true hc2, eq_true hc9, eq_true hc15, if_true, if_false, ↓reduceIte, not_true_eq_false, not_false_eq_true, true_and, and_true, false_and, and_false, or_true, true_or, or_false, false_or, and_self, or_self]), N1, rfl⟩)
def QDT (Z : State) (c_ i_ n_ : Int32) (h0 : Heap) (n0 : Nat) (v : Option Value) (h : Heap) (L : List Loc) : Prop := v = some (.int (own_dot c_ i_ n_)) ∧ Fr n0 L ∧ h = h0
set_option maxRecDepth 65536 in
set_option maxHeartbeats 40000000 in
theorem rmDT (l : Launch) (Z : State) (a0 : Array Value) (hw : ∀ d ∈ tables_1, d.before a0 Z = true) (ws : List Jvm.Cond) (c_ i_ n_ : Int32) (h0 : Heap) (n0 : Nat) (Z0 : n0 ≤ h0.size)  :
    MetFree l (⟨"com/example/syndic/syndic/input/AmountsIsWrittenPinLaw", "dot", "(CII)I"⟩ : MethodName) (head1 (Jvm.Cond.code (⟨"com/example/syndic/syndic/input/AmountsIsWrittenPinLaw", "dot", "(CII)I"⟩ : MethodName) method_5_code 3 (some .int) :: ws) ({ frames := 0, cells := 0, slots := 0, locals := 0 } : Room)) (fun a_ U => a_ = #[(.int c_), (.int i_), (.int n_)] ∧ Z.Warmed39 U.vm ∧ U.heap = h0) (fun _ _ _ _ _ => True) (fun _ U o U' => ∃ v L, o = .returned v ∧ QDT Z c_ i_ n_ h0 n0 v U'.heap L ∧ FrameEnd U o U' L ({ frames := 0, cells := 0, slots := 0, locals := 0 } : Room).cells ({ frames := 0, cells := 0, slots := 0, locals := 0 } : Room).slots) := by
  refine MetFree.of_bodySF (plainFor_of_name pn_4) hisR ?_
  intro p e s m args below meth c s₁ Bd hml0 hP hK
  obtain ⟨rfl, hZ, hh⟩ := hP
  have hx := Bd.exec
  have hby := Bd.bytes
  have hml : c.maxLocals = 3 := hml0
  have hown : s.vm.findClass "com/example/syndic/syndic/input/AmountsIsWrittenPinLaw" = some m.cls := findClass_of_methodNamed Bd.named
  have hnm := (name_of_methodNamed Bd.named Bd.method).1
  have X0 : Stand p l e ({ frames := 0, cells := 0, slots := 0, locals := 0 } : Room) s m #[(.int c_), (.int i_), (.int n_)] below meth c s₁ [] 0 0 := Stand.of_body Bd
  have e0 : s₁.heap = h0 := by rw [← hh, Bd.state]; rfl
  have N0 := Fr.nil n0
  refine Goes.done ?_
  obtain ⟨W, hWd⟩ : ∃ W : State → Prop, W = EndW s below (QDT Z c_ i_ n_ h0 n0) ({ frames := 0, cells := 0, slots := 0, locals := 0 } : Room).cells ({ frames := 0, cells := 0, slots := 0, locals := 0 } : Room).slots := ⟨_, rfl⟩
  rw [← hWd]
  have hef : entryFrame m #[(.int c_), (.int i_), (.int n_)] 3 = (mkF m 0 #[.val (.int c_), .val (.int i_), .val (.int n_)] []) := by first | (simp [entryFrame, mkF, argsToLocals, Value.category]; done) | rfl
  rw [hef]
  refine Goes.on (T' := s₁) (g' := (mkF m 1 #[.val (.int c_), .val (.int i_), .val (.int n_)] [(.int i_)])) ?_ (fun t_ k_ => XS.iloadN X0.here hx rfl (hb hby d10_0) rfl k_)
  refine Goes.on (T' := s₁) (g' := (mkF m 2 #[.val (.int c_), .val (.int i_), .val (.int n_)] [(.int n_), (.int i_)])) ?_ (fun t_ k_ => XS.iloadN X0.here hx rfl (hb hby d10_1) rfl k_)
  refine Goes.icmpN X0 hx rfl (pc0 := 2) (pc' := 15) rfl (hb hby d10_2) rfl (by decide) (by decide) (P := i_ < n_) (cmp_ge _ _) (fun hc2 => ?_) (fun hc2 => ?_)
  · show Goes p e below W s₁ (mkF m 15 #[.val (.int c_), .val (.int i_), .val (.int n_)] [])
    refine Goes.on (T' := s₁) (g' := (mkF m 16 #[.val (.int c_), .val (.int i_), .val (.int n_)] [(.int (0 : Int32))])) ?_ (fun t_ k_ => XS.iconst X0.here hx rfl (hb hby d10_15) k_)
    rw [hWd]
    exact Goes.retn X0 (v := some (.int (0 : Int32))) (fun fs hr => retI X0 hx Bd.returns (hb hby d10_16) hr) (fun h => by rw [Bd.returns] at h; cases h) Bd.notSynchronized (by decide) (by decide) (by rw [e0]; exact ⟨(show some (Value.int (0 : Int32)) = some (.int (own_dot c_ i_ n_)) from by simp only [own_dot, eq_false hc2, if_true, if_false, ↓reduceIte, not_true_eq_false, not_false_eq_true, true_and, and_true, false_and, and_false, or_true, true_or, or_false, false_or, and_self, or_self]), N0, rfl⟩)
  · show Goes p e below W s₁ (mkF m 5 #[.val (.int c_), .val (.int i_), .val (.int n_)] [])
    refine Goes.on (T' := s₁) (g' := (mkF m 6 #[.val (.int c_), .val (.int i_), .val (.int n_)] [(.int c_)])) ?_ (fun t_ k_ => XS.iloadN X0.here hx rfl (hb hby d10_5) rfl k_)
    refine Goes.on (T' := s₁) (g' := (mkF m 8 #[.val (.int c_), .val (.int i_), .val (.int n_)] [(.int (46 : Int32)), (.int c_)])) ?_ (fun t_ k_ => XS.bipush X0.here hx rfl (hb hby d10_6) k_)
    refine Goes.icmpN X0 hx rfl (pc0 := 8) (pc' := 15) rfl (hb hby d10_8) rfl (by decide) (by decide) (P := c_ = (46 : Int32)) (cmp_ne _ _) (fun hc8 => ?_) (fun hc8 => ?_)
    · show Goes p e below W s₁ (mkF m 15 #[.val (.int c_), .val (.int i_), .val (.int n_)] [])
      refine Goes.on (T' := s₁) (g' := (mkF m 16 #[.val (.int c_), .val (.int i_), .val (.int n_)] [(.int (0 : Int32))])) ?_ (fun t_ k_ => XS.iconst X0.here hx rfl (hb hby d10_15) k_)
      rw [hWd]
      exact Goes.retn X0 (v := some (.int (0 : Int32))) (fun fs hr => retI X0 hx Bd.returns (hb hby d10_16) hr) (fun h => by rw [Bd.returns] at h; cases h) Bd.notSynchronized (by decide) (by decide) (by rw [e0]; exact ⟨(show some (Value.int (0 : Int32)) = some (.int (own_dot c_ i_ n_)) from by simp only [own_dot, eq_true hc2, eq_false hc8, if_true, if_false, ↓reduceIte, not_true_eq_false, not_false_eq_true, true_and, and_true, false_and, and_false, or_true, true_or, or_false, false_or, and_self, or_self]), N0, rfl⟩)
    · show Goes p e below W s₁ (mkF m 11 #[.val (.int c_), .val (.int i_), .val (.int n_)] [])
      refine Goes.on (T' := s₁) (g' := (mkF m 12 #[.val (.int c_), .val (.int i_), .val (.int n_)] [(.int (1 : Int32))])) ?_ (fun t_ k_ => XS.iconst X0.here hx rfl (hb hby d10_11) k_)
      refine Goes.on (T' := s₁) (g' := (mkF m 16 #[.val (.int c_), .val (.int i_), .val (.int n_)] [(.int (1 : Int32))])) ?_ (fun t_ k_ => XS.goto X0.here hx rfl (pc0 := 12) (pc' := 16) rfl (hb hby d10_12) (by decide) (by decide) k_)
      rw [hWd]
      exact Goes.retn X0 (v := some (.int (1 : Int32))) (fun fs hr => retI X0 hx Bd.returns (hb hby d10_16) hr) (fun h => by rw [Bd.returns] at h; cases h) Bd.notSynchronized (by decide) (by decide) (by rw [e0]; exact ⟨(show some (Value.int (1 : Int32)) = some (.int (own_dot c_ i_ n_)) from by simp only [own_dot, eq_true hc2, eq_true hc8, if_true, if_false, ↓reduceIte, not_true_eq_false, not_false_eq_true, true_and, and_true, false_and, and_false, or_true, true_or, or_false, false_or, and_self, or_self]), N0, rfl⟩)
def QDF (Z : State) (x t : Addr) (kt : ClassId) (cs : List Int32) (cd : Int32) (zc : Int32) (vf : Value) (f n : Nat) (h0 : Heap) (n0 : Nat) (v : Option Value) (h : Heap) (L : List Loc) : Prop := v = some (.int (Int32.ofNat (own_df cs (n - f) f))) ∧ Fr n0 L ∧ h = h0
set_option maxRecDepth 65536 in
set_option maxHeartbeats 40000000 in
theorem rmDF (l : Launch) (Z : State) (a0 : Array Value) (hw : ∀ d ∈ tables_1, d.before a0 Z = true) (ws : List Jvm.Cond) (x t : Addr) (kt : ClassId) (cs : List Int32) (cd : Int32) (zc : Int32) (vf : Value) (f n : Nat) (h0 : Heap) (n0 : Nat) (Z0 : n0 ≤ h0.size) (TX : Txt Z h0 x t kt cs cd) (CS : Sta Z Z.heap "java/lang/String" "COMPACT_STRINGS" "Z" (.int zc)) (hzc : ¬ zc = (0 : Int32)) (AD : Sta Z Z.heap "java/lang/StringUTF16" "$assertionsDisabled" "Z" (.int (1 : Int32))) (HB : Sta Z Z.heap "java/lang/StringUTF16" "HI_BYTE_SHIFT" "I" (.int (0 : Int32))) (LB : Sta Z Z.heap "java/lang/StringUTF16" "LO_BYTE_SHIFT" "I" (.int (8 : Int32)))  (hp : ∀ c ∈ cs, ¬ c < 0 ∧ ¬ (65535 : Int32) < c) (hl : cs.length ≤ 16) (SO : Sta Z Z.heap "jdk/internal/util/Preconditions" "SIOOBE_FORMATTER" "Ljava/util/function/BiFunction;" vf) (rG : vf.isRef = true) (X0_ : Old Z n0 h0) (hfn : f ≤ n) (hn : n ≤ cs.length) :
    MetFree l (⟨"com/example/syndic/syndic/input/Amounts", "digitsFrom", "(Ljava/lang/String;II)I"⟩ : MethodName) (head1 (Jvm.Cond.code (⟨"com/example/syndic/syndic/input/Amounts", "digitsFrom", "(Ljava/lang/String;II)I"⟩ : MethodName) prog_25_method_6_code 4 (some .int) :: ws) ({ frames := 5, cells := 0, slots := 0, locals := 67 } : Room)) (fun a_ U => a_ = #[(.ref x), (.int (Int32.ofNat f)), (.int (Int32.ofNat n))] ∧ Z.Warmed39 U.vm ∧ U.heap = h0) (fun _ _ _ _ _ => True) (fun _ U o U' => ∃ v L, o = .returned v ∧ QDF Z x t kt cs cd zc vf f n h0 n0 v U'.heap L ∧ FrameEnd U o U' L ({ frames := 5, cells := 0, slots := 0, locals := 67 } : Room).cells ({ frames := 5, cells := 0, slots := 0, locals := 67 } : Room).slots) := by
  refine MetFree.of_bodySF (plainFor_of_name pn_5) hisR ?_
  intro p e s m args below meth c s₁ Bd hml0 hP hK
  obtain ⟨rfl, hZ, hh⟩ := hP
  have hx := Bd.exec
  have hby := Bd.bytes
  have hml : c.maxLocals = 4 := hml0
  have hown : s.vm.findClass "com/example/syndic/syndic/input/Amounts" = some m.cls := findClass_of_methodNamed Bd.named
  have hnm := (name_of_methodNamed Bd.named Bd.method).1
  have X0 : Stand p l e ({ frames := 5, cells := 0, slots := 0, locals := 67 } : Room) s m #[(.ref x), (.int (Int32.ofNat f)), (.int (Int32.ofNat n))] below meth c s₁ [] 0 0 := Stand.of_body Bd
  have e0 : s₁.heap = h0 := by rw [← hh, Bd.state]; rfl
  have N0 := Fr.nil n0
  refine Goes.done ?_
  obtain ⟨W, hWd⟩ : ∃ W : State → Prop, W = EndW s below (QDF Z x t kt cs cd zc vf f n h0 n0) ({ frames := 5, cells := 0, slots := 0, locals := 67 } : Room).cells ({ frames := 5, cells := 0, slots := 0, locals := 67 } : Room).slots := ⟨_, rfl⟩
  rw [← hWd]
  have hef : entryFrame m #[(.ref x), (.int (Int32.ofNat f)), (.int (Int32.ofNat n))] 4 = (mkF m 0 #[.val (.ref x), .val (.int (Int32.ofNat f)), .val (.int (Int32.ofNat n)), .unset] []) := by first | (simp [entryFrame, mkF, argsToLocals, Value.category]; done) | rfl
  rw [hef]
  obtain ⟨RR, hRR⟩ : ∃ z, z = own_df cs (n - f) f := ⟨_, rfl⟩
  have K2 : ∀ (k i : Nat) (T : State) (locs : List Loc), Stand p l e ({ frames := 5, cells := 0, slots := 0, locals := 67 } : Room) s m #[(.ref x), (.int (Int32.ofNat f)), (.int (Int32.ofNat n))] below meth c T locs 0 0 → T.heap = h0 → Fr n0 locs → i + k = n → own_df cs k i = RR → Goes p e below W T (mkF m 2 #[.val (.ref x), .val (.int (Int32.ofNat f)), .val (.int (Int32.ofNat n)), .val (.int (Int32.ofNat i))] []) := by
    intro k
    induction k with
    | zero =>
      intro i T locs X eT N hi hR
      have hge : ¬ ((Int32.ofNat i) < Int32.ofNat n) := by rw [own_nlt (by omega) (by omega)]; omega
      refine Goes.on (T' := T) (g' := (mkF m 3 #[.val (.ref x), .val (.int (Int32.ofNat f)), .val (.int (Int32.ofNat n)), .val (.int (Int32.ofNat i))] [(.int (Int32.ofNat i))])) ?_ (fun t_ k_ => XS.iloadN X.here hx rfl (hb hby d12_2) rfl k_)
      refine Goes.on (T' := T) (g' := (mkF m 4 #[.val (.ref x), .val (.int (Int32.ofNat f)), .val (.int (Int32.ofNat n)), .val (.int (Int32.ofNat i))] [(.int (Int32.ofNat n)), (.int (Int32.ofNat i))])) ?_ (fun t_ k_ => XS.iloadN X.here hx rfl (hb hby d12_3) rfl k_)
      refine Goes.on (T' := T) (g' := (mkF m 33 #[.val (.ref x), .val (.int (Int32.ofNat f)), .val (.int (Int32.ofNat n)), .val (.int (Int32.ofNat i))] [])) ?_ (fun t_ k_ => XS.icmpYes X.here hx rfl (pc0 := 4) (pc' := 33) rfl (hb hby d12_4) rfl (flt hge).2.1 (by decide) (by decide) k_)
      refine Goes.on (T' := T) (g' := (mkF m 34 #[.val (.ref x), .val (.int (Int32.ofNat f)), .val (.int (Int32.ofNat n)), .val (.int (Int32.ofNat i))] [(.int (Int32.ofNat i))])) ?_ (fun t_ k_ => XS.iloadN X.here hx rfl (hb hby d12_33) rfl k_)
      rw [hWd]
      exact Goes.retn X (v := some (.int (Int32.ofNat i))) (fun fs hr => retI X hx Bd.returns (hb hby d12_34) hr) (fun h => by rw [Bd.returns] at h; cases h) Bd.notSynchronized (by decide) (by decide) (by rw [eT]; exact ⟨by rw [← hRR, ← hR]; rfl, N, rfl⟩)
    | succ k ih =>
      intro i T locs X eT N hi hR
      have hlt : (Int32.ofNat i) < Int32.ofNat n := by rw [own_nlt (by omega) (by omega)]; omega
      unfold own_df at hR
      refine Goes.on (T' := T) (g' := (mkF m 3 #[.val (.ref x), .val (.int (Int32.ofNat f)), .val (.int (Int32.ofNat n)), .val (.int (Int32.ofNat i))] [(.int (Int32.ofNat i))])) ?_ (fun t_ k_ => XS.iloadN X.here hx rfl (hb hby d12_2) rfl k_)
      refine Goes.on (T' := T) (g' := (mkF m 4 #[.val (.ref x), .val (.int (Int32.ofNat f)), .val (.int (Int32.ofNat n)), .val (.int (Int32.ofNat i))] [(.int (Int32.ofNat n)), (.int (Int32.ofNat i))])) ?_ (fun t_ k_ => XS.iloadN X.here hx rfl (hb hby d12_3) rfl k_)
      refine Goes.on (T' := T) (g' := (mkF m 7 #[.val (.ref x), .val (.int (Int32.ofNat f)), .val (.int (Int32.ofNat n)), .val (.int (Int32.ofNat i))] [])) ?_ (fun t_ k_ => XS.icmpNo X.here hx rfl (hb hby d12_4) rfl (tlt hlt).2.1 k_)
      refine Goes.on (T' := T) (g' := (mkF m 8 #[.val (.ref x), .val (.int (Int32.ofNat f)), .val (.int (Int32.ofNat n)), .val (.int (Int32.ofNat i))] [(.ref x)])) ?_ (fun t_ k_ => XS.aloadN X.here hx rfl (hb hby d12_7) rfl rfl k_)
      refine Goes.on (T' := T) (g' := (mkF m 9 #[.val (.ref x), .val (.int (Int32.ofNat f)), .val (.int (Int32.ofNat n)), .val (.int (Int32.ofNat i))] [(.int (Int32.ofNat i)), (.ref x)])) ?_ (fun t_ k_ => XS.iloadN X.here hx rfl (hb hby d12_8) rfl k_)
      obtain ⟨cq1, kq1, q1a, q1b, q1c⟩ := isOf hZ eT TX.1
      obtain ⟨_, _, ⟨T1, Lq_1, kq_1, nq_1⟩, -, X1, ⟨Lc1, hQ1, l1, y1, z1⟩, st1⟩ := X.virtualBack hx (y := (⟨"java/lang/String", "charAt", "(I)C"⟩ : MethodName)) (z := (⟨"java/lang/String", "charAt", "(I)C"⟩ : MethodName)) hown (mvT hZ (hw _ (List.mem_of_getElem? (i := 52) rfl))) (mvT hZ (hw _ (List.mem_of_getElem? (i := 53) rfl))) (notFace_of_selects (args := #[]) (mvT hZ (hw _ (List.mem_of_getElem? (i := 55) rfl)))) (mvT hZ (hw _ (List.mem_of_getElem? (i := 55) rfl))) (mvT hZ (hw _ (List.mem_of_getElem? (i := 54) rfl))) (by decide) (backOf (W := 0) (rmCA l Z a0 hw [] x t kt cs cd i zc vf h0 n0 Z0 TX CS hzc AD HB LB (by omega) hp hl SO rG X0_) hZ (hw _ (List.mem_of_getElem? (i := 56) rfl)) (hw _ (List.mem_of_getElem? (i := 8) rfl)) (by decide) (by decide)) q1a q1c (g := (mkF m 9 #[.val (.ref x), .val (.int (Int32.ofNat f)), .val (.int (Int32.ofNat n)), .val (.int (Int32.ofNat i))] [(.int (Int32.ofNat i)), (.ref x)])) rfl (by rw [hml]; rfl) (Steps.refl _) (argsL := [(.int (Int32.ofNat i))]) (rest := []) (lenOf pd_14 rfl) rfl (by show 2 * 0 + _ ≤ _; exact Nat.le_of_eq rfl) (hb hby d12_9) (fun _ _ => ⟨rfl, eT, (by decide : 0 + 0 ≤ _), (by decide : 0 + 0 ≤ _)⟩)
      dsimp only [Pt.U, Pt.locs, Pt.cells, Pt.slots] at X1 l1 y1 z1 st1 hQ1
      rw [l1, y1, z1] at X1
      change Stand p l e _ _ m _ below meth c T1 _ 0 0 at X1
      obtain ⟨rfl, N1q, eh1⟩ := hQ1
      have N1 := Fr.app N N1q
      refine Goes.on (T' := T1) (g' := (mkF m 12 #[.val (.ref x), .val (.int (Int32.ofNat f)), .val (.int (Int32.ofNat n)), .val (.int (Int32.ofNat i))] [(.int (cs.getD i 0))])) ?_ (fun t => st1.trans)
      refine Goes.on (T' := T1) (g' := (mkF m 14 #[.val (.ref x), .val (.int (Int32.ofNat f)), .val (.int (Int32.ofNat n)), .val (.int (Int32.ofNat i))] [(.int (48 : Int32)), (.int (cs.getD i 0))])) ?_ (fun t_ k_ => XS.bipush X1.here hx rfl (hb hby d12_12) k_)
      refine Goes.icmpP X1 hx rfl (pc0 := 14) (pc' := 33) rfl (hb hby d12_14) rfl (by decide) (by decide) (P := (cs.getD i 0) < (48 : Int32)) (cmp_lt _ _) (fun hc14 => ?_) (fun hc14 => ?_)
      · show Goes p e below W T1 (mkF m 33 #[.val (.ref x), .val (.int (Int32.ofNat f)), .val (.int (Int32.ofNat n)), .val (.int (Int32.ofNat i))] [])
        refine Goes.on (T' := T1) (g' := (mkF m 34 #[.val (.ref x), .val (.int (Int32.ofNat f)), .val (.int (Int32.ofNat n)), .val (.int (Int32.ofNat i))] [(.int (Int32.ofNat i))])) ?_ (fun t_ k_ => XS.iloadN X1.here hx rfl (hb hby d12_33) rfl k_)
        rw [hWd]
        exact Goes.retn X1 (v := some (.int (Int32.ofNat i))) (fun fs hr => retI X1 hx Bd.returns (hb hby d12_34) hr) (fun h => by rw [Bd.returns] at h; cases h) Bd.notSynchronized (by decide) (by decide) (by rw [eh1]; exact ⟨by rw [← hRR, ← hR, if_pos hc14], N1, rfl⟩)
      · show Goes p e below W T1 (mkF m 17 #[.val (.ref x), .val (.int (Int32.ofNat f)), .val (.int (Int32.ofNat n)), .val (.int (Int32.ofNat i))] [])
        refine Goes.on (T' := T1) (g' := (mkF m 18 #[.val (.ref x), .val (.int (Int32.ofNat f)), .val (.int (Int32.ofNat n)), .val (.int (Int32.ofNat i))] [(.ref x)])) ?_ (fun t_ k_ => XS.aloadN X1.here hx rfl (hb hby d12_17) rfl rfl k_)
        refine Goes.on (T' := T1) (g' := (mkF m 19 #[.val (.ref x), .val (.int (Int32.ofNat f)), .val (.int (Int32.ofNat n)), .val (.int (Int32.ofNat i))] [(.int (Int32.ofNat i)), (.ref x)])) ?_ (fun t_ k_ => XS.iloadN X1.here hx rfl (hb hby d12_18) rfl k_)
        obtain ⟨cq2, kq2, q2a, q2b, q2c⟩ := isOf hZ eh1 TX.1
        obtain ⟨_, _, ⟨T2, Lq_2, kq_2, nq_2⟩, -, X2, ⟨Lc2, hQ2, l2, y2, z2⟩, st2⟩ := X1.virtualBack hx (y := (⟨"java/lang/String", "charAt", "(I)C"⟩ : MethodName)) (z := (⟨"java/lang/String", "charAt", "(I)C"⟩ : MethodName)) hown (mvT hZ (hw _ (List.mem_of_getElem? (i := 52) rfl))) (mvT hZ (hw _ (List.mem_of_getElem? (i := 53) rfl))) (notFace_of_selects (args := #[]) (mvT hZ (hw _ (List.mem_of_getElem? (i := 55) rfl)))) (mvT hZ (hw _ (List.mem_of_getElem? (i := 55) rfl))) (mvT hZ (hw _ (List.mem_of_getElem? (i := 54) rfl))) (by decide) (backOf (W := 0) (rmCA l Z a0 hw [] x t kt cs cd i zc vf h0 n0 Z0 TX CS hzc AD HB LB (by omega) hp hl SO rG X0_) hZ (hw _ (List.mem_of_getElem? (i := 56) rfl)) (hw _ (List.mem_of_getElem? (i := 8) rfl)) (by decide) (by decide)) q2a q2c (g := (mkF m 19 #[.val (.ref x), .val (.int (Int32.ofNat f)), .val (.int (Int32.ofNat n)), .val (.int (Int32.ofNat i))] [(.int (Int32.ofNat i)), (.ref x)])) rfl (by rw [hml]; rfl) (Steps.refl _) (argsL := [(.int (Int32.ofNat i))]) (rest := []) (lenOf pd_14 rfl) rfl (by show 2 * 0 + _ ≤ _; exact Nat.le_of_eq rfl) (hb hby d12_19) (fun _ _ => ⟨rfl, eh1, (by decide : 0 + 0 ≤ _), (by decide : 0 + 0 ≤ _)⟩)
        dsimp only [Pt.U, Pt.locs, Pt.cells, Pt.slots] at X2 l2 y2 z2 st2 hQ2
        rw [l2, y2, z2] at X2
        change Stand p l e _ _ m _ below meth c T2 _ 0 0 at X2
        obtain ⟨rfl, N2q, eh2⟩ := hQ2
        have N2 := Fr.app N1 N2q
        refine Goes.on (T' := T2) (g' := (mkF m 22 #[.val (.ref x), .val (.int (Int32.ofNat f)), .val (.int (Int32.ofNat n)), .val (.int (Int32.ofNat i))] [(.int (cs.getD i 0))])) ?_ (fun t => st2.trans)
        refine Goes.on (T' := T2) (g' := (mkF m 24 #[.val (.ref x), .val (.int (Int32.ofNat f)), .val (.int (Int32.ofNat n)), .val (.int (Int32.ofNat i))] [(.int (57 : Int32)), (.int (cs.getD i 0))])) ?_ (fun t_ k_ => XS.bipush X2.here hx rfl (hb hby d12_22) k_)
        refine Goes.icmpP X2 hx rfl (pc0 := 24) (pc' := 33) rfl (hb hby d12_24) rfl (by decide) (by decide) (P := (57 : Int32) < (cs.getD i 0)) (cmp_gt _ _) (fun hc24 => ?_) (fun hc24 => ?_)
        · show Goes p e below W T2 (mkF m 33 #[.val (.ref x), .val (.int (Int32.ofNat f)), .val (.int (Int32.ofNat n)), .val (.int (Int32.ofNat i))] [])
          refine Goes.on (T' := T2) (g' := (mkF m 34 #[.val (.ref x), .val (.int (Int32.ofNat f)), .val (.int (Int32.ofNat n)), .val (.int (Int32.ofNat i))] [(.int (Int32.ofNat i))])) ?_ (fun t_ k_ => XS.iloadN X2.here hx rfl (hb hby d12_33) rfl k_)
          rw [hWd]
          exact Goes.retn X2 (v := some (.int (Int32.ofNat i))) (fun fs hr => retI X2 hx Bd.returns (hb hby d12_34) hr) (fun h => by rw [Bd.returns] at h; cases h) Bd.notSynchronized (by decide) (by decide) (by rw [eh2]; exact ⟨by rw [← hRR, ← hR, if_neg hc14, if_pos hc24], N2, rfl⟩)
        · show Goes p e below W T2 (mkF m 27 #[.val (.ref x), .val (.int (Int32.ofNat f)), .val (.int (Int32.ofNat n)), .val (.int (Int32.ofNat i))] [])
          refine Goes.on (T' := T2) (g' := (mkF m 30 #[.val (.ref x), .val (.int (Int32.ofNat f)), .val (.int (Int32.ofNat n)), .val (.int ((Int32.ofNat i) + (1 : Int32)))] [])) ?_ (fun t_ k_ => XS.iinc X2.here hx rfl (hb hby d12_27) rfl (l' := #[.val (.ref x), .val (.int (Int32.ofNat f)), .val (.int (Int32.ofNat n)), .val (.int ((Int32.ofNat i) + (1 : Int32)))]) rfl k_)
          refine Goes.on (T' := T2) (g' := (mkF m 2 #[.val (.ref x), .val (.int (Int32.ofNat f)), .val (.int (Int32.ofNat n)), .val (.int ((Int32.ofNat i) + (1 : Int32)))] [])) ?_ (fun t_ k_ => XS.goto X2.here hx rfl (pc0 := 30) (pc' := 2) rfl (hb hby d12_30) (by decide) (by decide) k_)
          rw [own_succ]
          exact ih (i + 1) _ _ X2 eh2 N2 (by omega) (by rw [if_neg hc14, if_neg hc24] at hR; exact hR)
  refine Goes.on (T' := s₁) (g' := (mkF m 1 #[.val (.ref x), .val (.int (Int32.ofNat f)), .val (.int (Int32.ofNat n)), .unset] [(.int (Int32.ofNat f))])) ?_ (fun t_ k_ => XS.iloadN X0.here hx rfl (hb hby d12_0) rfl k_)
  refine Goes.on (T' := s₁) (g' := (mkF m 2 #[.val (.ref x), .val (.int (Int32.ofNat f)), .val (.int (Int32.ofNat n)), .val (.int (Int32.ofNat f))] [])) ?_ (fun t_ k_ => XS.istoreN X0.here hx rfl (hb hby d12_1) rfl (l' := #[.val (.ref x), .val (.int (Int32.ofNat f)), .val (.int (Int32.ofNat n)), .val (.int (Int32.ofNat f))]) rfl k_)
  exact K2 (n - f) f _ _ X0 e0 N0 (by omega) hRR.symm
def QIW (Z : State) (x t : Addr) (kt : ClassId) (cs : List Int32) (cd : Int32) (zc : Int32) (vf : Value) (n : Nat) (h0 : Heap) (n0 : Nat) (v : Option Value) (h : Heap) (L : List Loc) : Prop := v = some (.int (own_isw cs n (own_df cs n 0))) ∧ Fr n0 L ∧ h = h0
set_option maxRecDepth 65536 in
set_option maxHeartbeats 40000000 in
theorem rmIW (l : Launch) (Z : State) (a0 : Array Value) (hw : ∀ d ∈ tables_1, d.before a0 Z = true) (ws : List Jvm.Cond) (x t : Addr) (kt : ClassId) (cs : List Int32) (cd : Int32) (zc : Int32) (vf : Value) (n : Nat) (h0 : Heap) (n0 : Nat) (Z0 : n0 ≤ h0.size) (TX : Txt Z h0 x t kt cs cd) (CS : Sta Z Z.heap "java/lang/String" "COMPACT_STRINGS" "Z" (.int zc)) (hzc : ¬ zc = (0 : Int32)) (AD : Sta Z Z.heap "java/lang/StringUTF16" "$assertionsDisabled" "Z" (.int (1 : Int32))) (HB : Sta Z Z.heap "java/lang/StringUTF16" "HI_BYTE_SHIFT" "I" (.int (0 : Int32))) (LB : Sta Z Z.heap "java/lang/StringUTF16" "LO_BYTE_SHIFT" "I" (.int (8 : Int32)))  (hp : ∀ c ∈ cs, ¬ c < 0 ∧ ¬ (65535 : Int32) < c) (hl : cs.length ≤ 16) (SO : Sta Z Z.heap "jdk/internal/util/Preconditions" "SIOOBE_FORMATTER" "Ljava/util/function/BiFunction;" vf) (rG : vf.isRef = true) (X0_ : Old Z n0 h0) (hn : n ≤ cs.length) :
    MetFree l (⟨"com/example/syndic/syndic/input/Amounts", "isWritten", "(Ljava/lang/String;I)Z"⟩ : MethodName) (head1 (Jvm.Cond.code (⟨"com/example/syndic/syndic/input/Amounts", "isWritten", "(Ljava/lang/String;I)Z"⟩ : MethodName) prog_25_method_5_code 3 (some .boolean) :: ws) ({ frames := 6, cells := 0, slots := 0, locals := 82 } : Room)) (fun a_ U => a_ = #[(.ref x), (.int (Int32.ofNat n))] ∧ Z.Warmed39 U.vm ∧ U.heap = h0) (fun _ _ _ _ _ => True) (fun _ U o U' => ∃ v L, o = .returned v ∧ QIW Z x t kt cs cd zc vf n h0 n0 v U'.heap L ∧ FrameEnd U o U' L ({ frames := 6, cells := 0, slots := 0, locals := 82 } : Room).cells ({ frames := 6, cells := 0, slots := 0, locals := 82 } : Room).slots) := by
  refine MetFree.of_bodySF (plainFor_of_name pn_5) hisR ?_
  intro p e s m args below meth c s₁ Bd hml0 hP hK
  obtain ⟨rfl, hZ, hh⟩ := hP
  have hx := Bd.exec
  have hby := Bd.bytes
  have hml : c.maxLocals = 3 := hml0
  have hown : s.vm.findClass "com/example/syndic/syndic/input/Amounts" = some m.cls := findClass_of_methodNamed Bd.named
  have hnm := (name_of_methodNamed Bd.named Bd.method).1
  have X0 : Stand p l e ({ frames := 6, cells := 0, slots := 0, locals := 82 } : Room) s m #[(.ref x), (.int (Int32.ofNat n))] below meth c s₁ [] 0 0 := Stand.of_body Bd
  have e0 : s₁.heap = h0 := by rw [← hh, Bd.state]; rfl
  have N0 := Fr.nil n0
  refine Goes.done ?_
  obtain ⟨W, hWd⟩ : ∃ W : State → Prop, W = EndW s below (QIW Z x t kt cs cd zc vf n h0 n0) ({ frames := 6, cells := 0, slots := 0, locals := 82 } : Room).cells ({ frames := 6, cells := 0, slots := 0, locals := 82 } : Room).slots := ⟨_, rfl⟩
  rw [← hWd]
  have hef : entryFrame m #[(.ref x), (.int (Int32.ofNat n))] 3 = (mkF m 0 #[.val (.ref x), .val (.int (Int32.ofNat n)), .unset] []) := by first | (simp [entryFrame, mkF, argsToLocals, Value.category]; done) | rfl
  rw [hef]
  obtain ⟨q, hq⟩ : ∃ z, z = own_df cs n 0 := ⟨_, rfl⟩
  have hqn : q ≤ n := by have := own_df_le cs n 0; omega
  refine Goes.on (T' := s₁) (g' := (mkF m 1 #[.val (.ref x), .val (.int (Int32.ofNat n)), .unset] [(.ref x)])) ?_ (fun t_ k_ => XS.aloadN X0.here hx rfl (hb hby d11_0) rfl rfl k_)
  refine Goes.on (T' := s₁) (g' := (mkF m 2 #[.val (.ref x), .val (.int (Int32.ofNat n)), .unset] [(.int (0 : Int32)), (.ref x)])) ?_ (fun t_ k_ => XS.iconst X0.here hx rfl (hb hby d11_1) k_)
  refine Goes.on (T' := s₁) (g' := (mkF m 3 #[.val (.ref x), .val (.int (Int32.ofNat n)), .unset] [(.int (Int32.ofNat n)), (.int (0 : Int32)), (.ref x)])) ?_ (fun t_ k_ => XS.iloadN X0.here hx rfl (hb hby d11_2) rfl k_)
  have e00 : (0 : Int32) = Int32.ofNat 0 := rfl
  rw [e00]
  obtain ⟨_, _, ⟨T1, Lq_1, kq_1, nq_1⟩, -, X1, ⟨Lc1, hQ1, l1, y1, z1⟩, st1⟩ := Jvm.LawKit.callS X0 hx (y := (⟨"com/example/syndic/syndic/input/Amounts", "digitsFrom", "(Ljava/lang/String;II)I"⟩ : MethodName)) hown (mvT hZ (hw _ (List.mem_of_getElem? (i := 49) rfl))) (mvT hZ (hw _ (List.mem_of_getElem? (i := 50) rfl))) (mvT hZ (hw _ (List.mem_of_getElem? (i := 47) rfl))) (mvT hZ (hw _ (List.mem_of_getElem? (i := 51) rfl))) (by decide) (backOf (W := 0) (rmDF l Z a0 hw [] x t kt cs cd zc vf 0 n h0 n0 Z0 TX CS hzc AD HB LB hp hl SO rG X0_ (by omega) hn) hZ (hw _ (List.mem_of_getElem? (i := 51) rfl)) (hw _ (List.mem_of_getElem? (i := 47) rfl)) (by decide) (by decide)) (g := (mkF m 3 #[.val (.ref x), .val (.int (Int32.ofNat n)), .unset] [(.int (Int32.ofNat n)), (.int (Int32.ofNat 0)), (.ref x)])) rfl (by rw [hml]; rfl) (argsL := [(.ref x), (.int (Int32.ofNat 0)), (.int (Int32.ofNat n))]) (rest := []) (lenOf pd_15 rfl) rfl (by show 2 * 0 + _ ≤ _; exact Nat.le_of_eq rfl) (hb hby d11_3) (fun _ _ => ⟨rfl, e0, (by decide : 0 + 0 ≤ _), (by decide : 0 + 0 ≤ _)⟩)
  dsimp only [Pt.U, Pt.locs, Pt.cells, Pt.slots] at X1 l1 y1 z1 st1 hQ1
  rw [l1, y1, z1] at X1
  change Stand p l e _ _ m _ below meth c T1 _ 0 0 at X1
  obtain ⟨rfl, N1q, eh1⟩ := hQ1
  have N1 := Fr.app N0 N1q
  refine Goes.on (T' := T1) (g' := (mkF m 6 #[.val (.ref x), .val (.int (Int32.ofNat n)), .unset] [(.int (Int32.ofNat (own_df cs (n - 0) 0)))])) ?_ st1
  rw [Nat.sub_zero, ← hq]
  refine Goes.on (T' := T1) (g' := (mkF m 7 #[.val (.ref x), .val (.int (Int32.ofNat n)), .val (.int (Int32.ofNat q))] [])) ?_ (fun t_ k_ => XS.istoreN X1.here hx rfl (hb hby d11_6) rfl (l' := #[.val (.ref x), .val (.int (Int32.ofNat n)), .val (.int (Int32.ofNat q))]) rfl k_)
  refine Goes.on (T' := T1) (g' := (mkF m 8 #[.val (.ref x), .val (.int (Int32.ofNat n)), .val (.int (Int32.ofNat q))] [(.int (Int32.ofNat q))])) ?_ (fun t_ k_ => XS.iloadN X1.here hx rfl (hb hby d11_7) rfl k_)
  refine Goes.ifN X1 hx rfl (pc0 := 8) (pc' := 13) rfl (hb hby d11_8) rfl (by decide) (by decide) (P := (Int32.ofNat q) = (0 : Int32)) (ifc_ne _ _) (fun hc8 => ?_) (fun hc8 => ?_)
  · show Goes p e below W T1 (mkF m 13 #[.val (.ref x), .val (.int (Int32.ofNat n)), .val (.int (Int32.ofNat q))] [])
    refine Goes.on (T' := T1) (g' := (mkF m 14 #[.val (.ref x), .val (.int (Int32.ofNat n)), .val (.int (Int32.ofNat q))] [(.int (Int32.ofNat q))])) ?_ (fun t_ k_ => XS.iloadN X1.here hx rfl (hb hby d11_13) rfl k_)
    refine Goes.on (T' := T1) (g' := (mkF m 15 #[.val (.ref x), .val (.int (Int32.ofNat n)), .val (.int (Int32.ofNat q))] [(.int (Int32.ofNat n)), (.int (Int32.ofNat q))])) ?_ (fun t_ k_ => XS.iloadN X1.here hx rfl (hb hby d11_14) rfl k_)
    refine Goes.icmpP X1 hx rfl (pc0 := 15) (pc' := 47) rfl (hb hby d11_15) rfl (by decide) (by decide) (P := (Int32.ofNat q) = (Int32.ofNat n)) (cmp_eq _ _) (fun hc15 => ?_) (fun hc15 => ?_)
    · show Goes p e below W T1 (mkF m 47 #[.val (.ref x), .val (.int (Int32.ofNat n)), .val (.int (Int32.ofNat q))] [])
      refine Goes.on (T' := T1) (g' := (mkF m 48 #[.val (.ref x), .val (.int (Int32.ofNat n)), .val (.int (Int32.ofNat q))] [(.int (1 : Int32))])) ?_ (fun t_ k_ => XS.iconst X1.here hx rfl (hb hby d11_47) k_)
      refine Goes.on (T' := T1) (g' := (mkF m 52 #[.val (.ref x), .val (.int (Int32.ofNat n)), .val (.int (Int32.ofNat q))] [(.int (1 : Int32))])) ?_ (fun t_ k_ => XS.goto X1.here hx rfl (pc0 := 48) (pc' := 52) rfl (hb hby d11_48) (by decide) (by decide) k_)
      rw [hWd]
      exact Goes.retn X1 (v := some (.int (nar .boolean (1 : Int32)))) (fun fs hr => retN X1 hx (t := .boolean) Bd.returns (by simp) (hb hby d11_52) hr) (fun h => by rw [Bd.returns] at h; cases h) Bd.notSynchronized (by decide) (by decide) (by rw [eh1]; exact ⟨by rw [← hq]; exact (show some (Value.int (1 : Int32)) = some (.int (own_isw cs n q)) from by simp only [own_isw, eq_false hc8, eq_true hc15, if_true, if_false, ↓reduceIte, not_true_eq_false, not_false_eq_true, true_and, and_true, false_and, and_false, or_true, true_or, or_false, false_or, and_self, or_self]), N1, rfl⟩)
    · show Goes p e below W T1 (mkF m 18 #[.val (.ref x), .val (.int (Int32.ofNat n)), .val (.int (Int32.ofNat q))] [])
      refine Goes.on (T' := T1) (g' := (mkF m 19 #[.val (.ref x), .val (.int (Int32.ofNat n)), .val (.int (Int32.ofNat q))] [(.ref x)])) ?_ (fun t_ k_ => XS.aloadN X1.here hx rfl (hb hby d11_18) rfl rfl k_)
      refine Goes.on (T' := T1) (g' := (mkF m 20 #[.val (.ref x), .val (.int (Int32.ofNat n)), .val (.int (Int32.ofNat q))] [(.int (Int32.ofNat q)), (.ref x)])) ?_ (fun t_ k_ => XS.iloadN X1.here hx rfl (hb hby d11_19) rfl k_)
      have hql : q < n := Nat.lt_of_le_of_ne hqn (fun r => hc15 (by rw [r]))
      obtain ⟨cq2, kq2, q2a, q2b, q2c⟩ := isOf hZ eh1 TX.1
      obtain ⟨_, _, ⟨T2, Lq_2, kq_2, nq_2⟩, -, X2, ⟨Lc2, hQ2, l2, y2, z2⟩, st2⟩ := X1.virtualBack hx (y := (⟨"java/lang/String", "charAt", "(I)C"⟩ : MethodName)) (z := (⟨"java/lang/String", "charAt", "(I)C"⟩ : MethodName)) hown (mvT hZ (hw _ (List.mem_of_getElem? (i := 52) rfl))) (mvT hZ (hw _ (List.mem_of_getElem? (i := 53) rfl))) (notFace_of_selects (args := #[]) (mvT hZ (hw _ (List.mem_of_getElem? (i := 55) rfl)))) (mvT hZ (hw _ (List.mem_of_getElem? (i := 55) rfl))) (mvT hZ (hw _ (List.mem_of_getElem? (i := 54) rfl))) (by decide) (backOf (W := 0) (rmCA l Z a0 hw [] x t kt cs cd q zc vf h0 n0 Z0 TX CS hzc AD HB LB (by omega) hp hl SO rG X0_) hZ (hw _ (List.mem_of_getElem? (i := 56) rfl)) (hw _ (List.mem_of_getElem? (i := 8) rfl)) (by decide) (by decide)) q2a q2c (g := (mkF m 20 #[.val (.ref x), .val (.int (Int32.ofNat n)), .val (.int (Int32.ofNat q))] [(.int (Int32.ofNat q)), (.ref x)])) rfl (by rw [hml]; rfl) (Steps.refl _) (argsL := [(.int (Int32.ofNat q))]) (rest := []) (lenOf pd_14 rfl) rfl (by show 2 * 0 + _ ≤ _; exact Nat.le_of_eq rfl) (hb hby d11_20) (fun _ _ => ⟨rfl, eh1, (by decide : 0 + 0 ≤ _), (by decide : 0 + 0 ≤ _)⟩)
      dsimp only [Pt.U, Pt.locs, Pt.cells, Pt.slots] at X2 l2 y2 z2 st2 hQ2
      rw [l2, y2, z2] at X2
      change Stand p l e _ _ m _ below meth c T2 _ 0 0 at X2
      obtain ⟨rfl, N2q, eh2⟩ := hQ2
      have N2 := Fr.app N1 N2q
      refine Goes.on (T' := T2) (g' := (mkF m 23 #[.val (.ref x), .val (.int (Int32.ofNat n)), .val (.int (Int32.ofNat q))] [(.int (cs.getD q 0))])) ?_ (fun t => st2.trans)
      refine Goes.on (T' := T2) (g' := (mkF m 25 #[.val (.ref x), .val (.int (Int32.ofNat n)), .val (.int (Int32.ofNat q))] [(.int (46 : Int32)), (.int (cs.getD q 0))])) ?_ (fun t_ k_ => XS.bipush X2.here hx rfl (hb hby d11_23) k_)
      refine Goes.icmpN X2 hx rfl (pc0 := 25) (pc' := 51) rfl (hb hby d11_25) rfl (by decide) (by decide) (P := (cs.getD q 0) = (46 : Int32)) (cmp_ne _ _) (fun hc25 => ?_) (fun hc25 => ?_)
      · show Goes p e below W T2 (mkF m 51 #[.val (.ref x), .val (.int (Int32.ofNat n)), .val (.int (Int32.ofNat q))] [])
        refine Goes.on (T' := T2) (g' := (mkF m 52 #[.val (.ref x), .val (.int (Int32.ofNat n)), .val (.int (Int32.ofNat q))] [(.int (0 : Int32))])) ?_ (fun t_ k_ => XS.iconst X2.here hx rfl (hb hby d11_51) k_)
        rw [hWd]
        exact Goes.retn X2 (v := some (.int (nar .boolean (0 : Int32)))) (fun fs hr => retN X2 hx (t := .boolean) Bd.returns (by simp) (hb hby d11_52) hr) (fun h => by rw [Bd.returns] at h; cases h) Bd.notSynchronized (by decide) (by decide) (by rw [eh2]; exact ⟨by rw [← hq]; exact (show some (Value.int (0 : Int32)) = some (.int (own_isw cs n q)) from by simp only [own_isw, eq_false hc8, eq_false hc15, eq_false hc25, if_true, if_false, ↓reduceIte, not_true_eq_false, not_false_eq_true, true_and, and_true, false_and, and_false, or_true, true_or, or_false, false_or, and_self, or_self]), N2, rfl⟩)
      · show Goes p e below W T2 (mkF m 28 #[.val (.ref x), .val (.int (Int32.ofNat n)), .val (.int (Int32.ofNat q))] [])
        refine Goes.on (T' := T2) (g' := (mkF m 29 #[.val (.ref x), .val (.int (Int32.ofNat n)), .val (.int (Int32.ofNat q))] [(.int (Int32.ofNat q))])) ?_ (fun t_ k_ => XS.iloadN X2.here hx rfl (hb hby d11_28) rfl k_)
        refine Goes.on (T' := T2) (g' := (mkF m 30 #[.val (.ref x), .val (.int (Int32.ofNat n)), .val (.int (Int32.ofNat q))] [(.int (1 : Int32)), (.int (Int32.ofNat q))])) ?_ (fun t_ k_ => XS.iconst X2.here hx rfl (hb hby d11_29) k_)
        refine Goes.on (T' := T2) (g' := (mkF m 31 #[.val (.ref x), .val (.int (Int32.ofNat n)), .val (.int (Int32.ofNat q))] [(.int ((Int32.ofNat q) + (1 : Int32)))])) ?_ (fun t_ k_ => XS.iadd X2.here hx rfl (hb hby d11_30) rfl k_)
        refine Goes.on (T' := T2) (g' := (mkF m 32 #[.val (.ref x), .val (.int (Int32.ofNat n)), .val (.int (Int32.ofNat q))] [(.int (Int32.ofNat n)), (.int ((Int32.ofNat q) + (1 : Int32)))])) ?_ (fun t_ k_ => XS.iloadN X2.here hx rfl (hb hby d11_31) rfl k_)
        refine Goes.icmpN X2 hx rfl (pc0 := 32) (pc' := 51) rfl (hb hby d11_32) rfl (by decide) (by decide) (P := ((Int32.ofNat q) + (1 : Int32)) < (Int32.ofNat n)) (cmp_ge _ _) (fun hc32 => ?_) (fun hc32 => ?_)
        · show Goes p e below W T2 (mkF m 51 #[.val (.ref x), .val (.int (Int32.ofNat n)), .val (.int (Int32.ofNat q))] [])
          refine Goes.on (T' := T2) (g' := (mkF m 52 #[.val (.ref x), .val (.int (Int32.ofNat n)), .val (.int (Int32.ofNat q))] [(.int (0 : Int32))])) ?_ (fun t_ k_ => XS.iconst X2.here hx rfl (hb hby d11_51) k_)
          rw [hWd]
          exact Goes.retn X2 (v := some (.int (nar .boolean (0 : Int32)))) (fun fs hr => retN X2 hx (t := .boolean) Bd.returns (by simp) (hb hby d11_52) hr) (fun h => by rw [Bd.returns] at h; cases h) Bd.notSynchronized (by decide) (by decide) (by rw [eh2]; exact ⟨by rw [← hq]; exact (show some (Value.int (0 : Int32)) = some (.int (own_isw cs n q)) from by simp only [own_isw, eq_false hc8, eq_false hc15, eq_true hc25, eq_false hc32, if_true, if_false, ↓reduceIte, not_true_eq_false, not_false_eq_true, true_and, and_true, false_and, and_false, or_true, true_or, or_false, false_or, and_self, or_self]), N2, rfl⟩)
        · show Goes p e below W T2 (mkF m 35 #[.val (.ref x), .val (.int (Int32.ofNat n)), .val (.int (Int32.ofNat q))] [])
          refine Goes.on (T' := T2) (g' := (mkF m 36 #[.val (.ref x), .val (.int (Int32.ofNat n)), .val (.int (Int32.ofNat q))] [(.ref x)])) ?_ (fun t_ k_ => XS.aloadN X2.here hx rfl (hb hby d11_35) rfl rfl k_)
          refine Goes.on (T' := T2) (g' := (mkF m 37 #[.val (.ref x), .val (.int (Int32.ofNat n)), .val (.int (Int32.ofNat q))] [(.int (Int32.ofNat q)), (.ref x)])) ?_ (fun t_ k_ => XS.iloadN X2.here hx rfl (hb hby d11_36) rfl k_)
          refine Goes.on (T' := T2) (g' := (mkF m 38 #[.val (.ref x), .val (.int (Int32.ofNat n)), .val (.int (Int32.ofNat q))] [(.int (1 : Int32)), (.int (Int32.ofNat q)), (.ref x)])) ?_ (fun t_ k_ => XS.iconst X2.here hx rfl (hb hby d11_37) k_)
          refine Goes.on (T' := T2) (g' := (mkF m 39 #[.val (.ref x), .val (.int (Int32.ofNat n)), .val (.int (Int32.ofNat q))] [(.int ((Int32.ofNat q) + (1 : Int32))), (.ref x)])) ?_ (fun t_ k_ => XS.iadd X2.here hx rfl (hb hby d11_38) rfl k_)
          refine Goes.on (T' := T2) (g' := (mkF m 40 #[.val (.ref x), .val (.int (Int32.ofNat n)), .val (.int (Int32.ofNat q))] [(.int (Int32.ofNat n)), (.int ((Int32.ofNat q) + (1 : Int32))), (.ref x)])) ?_ (fun t_ k_ => XS.iloadN X2.here hx rfl (hb hby d11_39) rfl k_)
          rw [own_succ]
          obtain ⟨_, _, ⟨T3, Lq_3, kq_3, nq_3⟩, -, X3, ⟨Lc3, hQ3, l3, y3, z3⟩, st3⟩ := Jvm.LawKit.callS X2 hx (y := (⟨"com/example/syndic/syndic/input/Amounts", "digitsFrom", "(Ljava/lang/String;II)I"⟩ : MethodName)) hown (mvT hZ (hw _ (List.mem_of_getElem? (i := 49) rfl))) (mvT hZ (hw _ (List.mem_of_getElem? (i := 50) rfl))) (mvT hZ (hw _ (List.mem_of_getElem? (i := 47) rfl))) (mvT hZ (hw _ (List.mem_of_getElem? (i := 51) rfl))) (by decide) (backOf (W := 0) (rmDF l Z a0 hw [] x t kt cs cd zc vf (q + 1) n h0 n0 Z0 TX CS hzc AD HB LB hp hl SO rG X0_ (by omega) hn) hZ (hw _ (List.mem_of_getElem? (i := 51) rfl)) (hw _ (List.mem_of_getElem? (i := 47) rfl)) (by decide) (by decide)) (g := (mkF m 40 #[.val (.ref x), .val (.int (Int32.ofNat n)), .val (.int (Int32.ofNat q))] [(.int (Int32.ofNat n)), (.int (Int32.ofNat (q + 1))), (.ref x)])) rfl (by rw [hml]; rfl) (argsL := [(.ref x), (.int (Int32.ofNat (q + 1))), (.int (Int32.ofNat n))]) (rest := []) (lenOf pd_15 rfl) rfl (by show 2 * 0 + _ ≤ _; exact Nat.le_of_eq rfl) (hb hby d11_40) (fun _ _ => ⟨rfl, eh2, (by decide : 0 + 0 ≤ _), (by decide : 0 + 0 ≤ _)⟩)
          dsimp only [Pt.U, Pt.locs, Pt.cells, Pt.slots] at X3 l3 y3 z3 st3 hQ3
          rw [l3, y3, z3] at X3
          change Stand p l e _ _ m _ below meth c T3 _ 0 0 at X3
          obtain ⟨rfl, N3q, eh3⟩ := hQ3
          have N3 := Fr.app N2 N3q
          refine Goes.on (T' := T3) (g' := (mkF m 43 #[.val (.ref x), .val (.int (Int32.ofNat n)), .val (.int (Int32.ofNat q))] [(.int (Int32.ofNat (own_df cs (n - (q + 1)) (q + 1))))])) ?_ st3
          refine Goes.on (T' := T3) (g' := (mkF m 44 #[.val (.ref x), .val (.int (Int32.ofNat n)), .val (.int (Int32.ofNat q))] [(.int (Int32.ofNat n)), (.int (Int32.ofNat (own_df cs (n - (q + 1)) (q + 1))))])) ?_ (fun t_ k_ => XS.iloadN X3.here hx rfl (hb hby d11_43) rfl k_)
          refine Goes.icmpN X3 hx rfl (pc0 := 44) (pc' := 51) rfl (hb hby d11_44) rfl (by decide) (by decide) (P := (Int32.ofNat (own_df cs (n - (q + 1)) (q + 1))) = (Int32.ofNat n)) (cmp_ne _ _) (fun hc44 => ?_) (fun hc44 => ?_)
          · show Goes p e below W T3 (mkF m 51 #[.val (.ref x), .val (.int (Int32.ofNat n)), .val (.int (Int32.ofNat q))] [])
            refine Goes.on (T' := T3) (g' := (mkF m 52 #[.val (.ref x), .val (.int (Int32.ofNat n)), .val (.int (Int32.ofNat q))] [(.int (0 : Int32))])) ?_ (fun t_ k_ => XS.iconst X3.here hx rfl (hb hby d11_51) k_)
            rw [hWd]
            exact Goes.retn X3 (v := some (.int (nar .boolean (0 : Int32)))) (fun fs hr => retN X3 hx (t := .boolean) Bd.returns (by simp) (hb hby d11_52) hr) (fun h => by rw [Bd.returns] at h; cases h) Bd.notSynchronized (by decide) (by decide) (by rw [eh3]; exact ⟨by rw [← hq]; exact (show some (Value.int (0 : Int32)) = some (.int (own_isw cs n q)) from by simp only [own_isw, eq_false hc8, eq_false hc15, eq_true hc25, eq_true hc32, eq_false hc44, if_true, if_false, ↓reduceIte, not_true_eq_false, not_false_eq_true, true_and, and_true, false_and, and_false, or_true, true_or, or_false, false_or, and_self, or_self]), N3, rfl⟩)
          · show Goes p e below W T3 (mkF m 47 #[.val (.ref x), .val (.int (Int32.ofNat n)), .val (.int (Int32.ofNat q))] [])
            refine Goes.on (T' := T3) (g' := (mkF m 48 #[.val (.ref x), .val (.int (Int32.ofNat n)), .val (.int (Int32.ofNat q))] [(.int (1 : Int32))])) ?_ (fun t_ k_ => XS.iconst X3.here hx rfl (hb hby d11_47) k_)
            refine Goes.on (T' := T3) (g' := (mkF m 52 #[.val (.ref x), .val (.int (Int32.ofNat n)), .val (.int (Int32.ofNat q))] [(.int (1 : Int32))])) ?_ (fun t_ k_ => XS.goto X3.here hx rfl (pc0 := 48) (pc' := 52) rfl (hb hby d11_48) (by decide) (by decide) k_)
            rw [hWd]
            exact Goes.retn X3 (v := some (.int (nar .boolean (1 : Int32)))) (fun fs hr => retN X3 hx (t := .boolean) Bd.returns (by simp) (hb hby d11_52) hr) (fun h => by rw [Bd.returns] at h; cases h) Bd.notSynchronized (by decide) (by decide) (by rw [eh3]; exact ⟨by rw [← hq]; exact (show some (Value.int (1 : Int32)) = some (.int (own_isw cs n q)) from by simp only [own_isw, eq_false hc8, eq_false hc15, eq_true hc25, eq_true hc32, eq_true hc44, if_true, if_false, ↓reduceIte, not_true_eq_false, not_false_eq_true, true_and, and_true, false_and, and_false, or_true, true_or, or_false, false_or, and_self, or_self]), N3, rfl⟩)
  · show Goes p e below W T1 (mkF m 11 #[.val (.ref x), .val (.int (Int32.ofNat n)), .val (.int (Int32.ofNat q))] [])
    refine Goes.on (T' := T1) (g' := (mkF m 12 #[.val (.ref x), .val (.int (Int32.ofNat n)), .val (.int (Int32.ofNat q))] [(.int (0 : Int32))])) ?_ (fun t_ k_ => XS.iconst X1.here hx rfl (hb hby d11_11) k_)
    rw [hWd]
    exact Goes.retn X1 (v := some (.int (nar .boolean (0 : Int32)))) (fun fs hr => retN X1 hx (t := .boolean) Bd.returns (by simp) (hb hby d11_12) hr) (fun h => by rw [Bd.returns] at h; cases h) Bd.notSynchronized (by decide) (by decide) (by rw [eh1]; exact ⟨by rw [← hq]; exact (show some (Value.int (0 : Int32)) = some (.int (own_isw cs n q)) from by simp only [own_isw, eq_true hc8, if_true, if_false, ↓reduceIte, not_true_eq_false, not_false_eq_true, true_and, and_true, false_and, and_false, or_true, true_or, or_false, false_or, and_self, or_self]), N1, rfl⟩)
def Q0 (Z : State) (h0 : Heap) (n0 : Nat) (v : Option Value) (h : Heap) (L : List Loc) : Prop := v = some (.int (1 : Int32)) ∧ Fr n0 L
set_option maxRecDepth 65536 in
set_option maxHeartbeats 40000000 in
theorem rm0 (l : Launch) (Z : State) (a0 : Array Value) (hw : ∀ d ∈ tables_1, d.before a0 Z = true) (ws : List Jvm.Cond) (ya0 ya1 ya2 ya3 ya4 ya5 : Int32) (zc : Int32) (vf : Value) (h0 : Heap) (n0 : Nat) (Z0 : n0 ≤ h0.size) (CS : Sta Z Z.heap "java/lang/String" "COMPACT_STRINGS" "Z" (.int zc)) (hzc : ¬ zc = (0 : Int32)) (AD : Sta Z Z.heap "java/lang/StringUTF16" "$assertionsDisabled" "Z" (.int (1 : Int32))) (HB : Sta Z Z.heap "java/lang/StringUTF16" "HI_BYTE_SHIFT" "I" (.int (0 : Int32))) (LB : Sta Z Z.heap "java/lang/StringUTF16" "LO_BYTE_SHIFT" "I" (.int (8 : Int32)))  (SO : Sta Z Z.heap "jdk/internal/util/Preconditions" "SIOOBE_FORMATTER" "Ljava/util/function/BiFunction;" vf) (rG : vf.isRef = true) (X0_ : Old Z n0 h0) :
    MetFree l x (head1 (Jvm.Cond.code x code maxLocals ret :: ws) room_1) (fun a_ U => a_ = #[(.int ya0), (.int ya1), (.int ya2), (.int ya3), (.int ya4), (.int ya5)] ∧ Z.Warmed39 U.vm ∧ U.heap = h0) (fun _ _ _ _ _ => True) (fun _ U o U' => ∃ v L, o = .returned v ∧ Q0 Z h0 n0 v U'.heap L ∧ FrameEnd U o U' L room_1.cells room_1.slots) := by
  refine MetFree.of_bodySF (plainFor_of_name pn_4) hisR ?_
  intro p e s m args below meth c s₁ Bd hml0 hP hK
  obtain ⟨rfl, hZ, hh⟩ := hP
  have hx := Bd.exec
  have hby := Bd.bytes
  have hml : c.maxLocals = 12 := hml0
  have hown : s.vm.findClass "com/example/syndic/syndic/input/AmountsIsWrittenPinLaw" = some m.cls := findClass_of_methodNamed Bd.named
  have hnm := (name_of_methodNamed Bd.named Bd.method).1
  have X0 : Stand p l e room_1 s m #[(.int ya0), (.int ya1), (.int ya2), (.int ya3), (.int ya4), (.int ya5)] below meth c s₁ [] 0 0 := Stand.of_body Bd
  have e0 : s₁.heap = h0 := by rw [← hh, Bd.state]; rfl
  have N0 := Fr.nil n0
  refine Goes.done ?_
  obtain ⟨W, hWd⟩ : ∃ W : State → Prop, W = EndW s below (Q0 Z h0 n0) room_1.cells room_1.slots := ⟨_, rfl⟩
  rw [← hWd]
  have hef : entryFrame m #[(.int ya0), (.int ya1), (.int ya2), (.int ya3), (.int ya4), (.int ya5)] maxLocals = (mkF m 0 #[.val (.int ya0), .val (.int ya1), .val (.int ya2), .val (.int ya3), .val (.int ya4), .val (.int ya5), .unset, .unset, .unset, .unset, .unset, .unset] []) := by first | (simp [entryFrame, mkF, argsToLocals, Value.category, maxLocals]; done) | rfl
  rw [hef]
  refine Goes.on (T' := s₁) (g' := (mkF m 1 #[.val (.int ya0), .val (.int ya1), .val (.int ya2), .val (.int ya3), .val (.int ya4), .val (.int ya5), .unset, .unset, .unset, .unset, .unset, .unset] [(.int (5 : Int32))])) ?_ (fun t_ k_ => XS.iconst X0.here hx rfl (hb hby at_0) k_)
  obtain ⟨T1, h1, k1, X1, e1, E1, A1, st1⟩ := newP X0 hx hZ (hw _ (List.mem_of_getElem? (i := 0) rfl)) e0 (g := (mkF m 1 #[.val (.int ya0), .val (.int ya1), .val (.int ya2), .val (.int ya3), .val (.int ya4), .val (.int ya5), .unset, .unset, .unset, .unset, .unset, .unset] [(.int (5 : Int32))])) rfl (hb hby at_1) rfl (by decide) (cap := 5) (by decide) (by decide) (by decide) (by decide)
  obtain ⟨b1, gb1⟩ : ∃ z, z = h0.size := ⟨_, rfl⟩
  rw [← gb1] at A1 st1
  have V1 := Arv.new A1 (by decide)
  have Z1 : n0 ≤ h1.size := Nat.le_trans Z0 E1.1
  have g_b1 : n0 ≤ b1 := Nat.le_trans Z0 (Nat.le_of_eq gb1.symm)
  refine Goes.on (T' := T1) (g' := (mkF m 3 #[.val (.int ya0), .val (.int ya1), .val (.int ya2), .val (.int ya3), .val (.int ya4), .val (.int ya5), .unset, .unset, .unset, .unset, .unset, .unset] [(.ref b1)])) ?_ st1
  have VV1 : Arv Z h1 b1 k1 .char (5 : Int32) [.int 0, .int 0, .int 0, .int 0, .int 0] (.int 0) := V1.pad (pad_rep [] (.int 0) 5)
  refine Goes.on (T' := T1) (g' := (mkF m 4 #[.val (.int ya0), .val (.int ya1), .val (.int ya2), .val (.int ya3), .val (.int ya4), .val (.int ya5), .unset, .unset, .unset, .unset, .unset, .unset] [(.ref b1), (.ref b1)])) ?_ (fun t_ k_ => XS.dup X1.here hx rfl (hb hby at_3) rfl rfl k_)
  refine Goes.on (T' := T1) (g' := (mkF m 5 #[.val (.int ya0), .val (.int ya1), .val (.int ya2), .val (.int ya3), .val (.int ya4), .val (.int ya5), .unset, .unset, .unset, .unset, .unset, .unset] [(.int (0 : Int32)), (.ref b1), (.ref b1)])) ?_ (fun t_ k_ => XS.iconst X1.here hx rfl (hb hby at_4) k_)
  refine Goes.on (T' := T1) (g' := (mkF m 6 #[.val (.int ya0), .val (.int ya1), .val (.int ya2), .val (.int ya3), .val (.int ya4), .val (.int ya5), .unset, .unset, .unset, .unset, .unset, .unset] [(.int ya0), (.int (0 : Int32)), (.ref b1), (.ref b1)])) ?_ (fun t_ k_ => XS.iloadN X1.here hx rfl (hb hby at_5) rfl k_)
  obtain ⟨_, _, ⟨T2, Lq_2, kq_2, nq_2⟩, -, X2, ⟨Lc2, hQ2, l2, y2, z2⟩, st2⟩ := Jvm.LawKit.callS X1 hx (y := (⟨"com/example/syndic/syndic/input/AmountsIsWrittenPinLaw", "pick", "(I)C"⟩ : MethodName)) hown (mvT hZ (hw _ (List.mem_of_getElem? (i := 1) rfl))) (mvT hZ (hw _ (List.mem_of_getElem? (i := 2) rfl))) (mvT hZ (hw _ (List.mem_of_getElem? (i := 3) rfl))) (mvT hZ (hw _ (List.mem_of_getElem? (i := 4) rfl))) (by decide) (backOf (W := 3) (rmPK l Z a0 hw [] ya0 h1 n0 Z1) hZ (hw _ (List.mem_of_getElem? (i := 4) rfl)) (hw _ (List.mem_of_getElem? (i := 3) rfl)) (by decide) (by decide)) (g := (mkF m 6 #[.val (.int ya0), .val (.int ya1), .val (.int ya2), .val (.int ya3), .val (.int ya4), .val (.int ya5), .unset, .unset, .unset, .unset, .unset, .unset] [(.int ya0), (.int (0 : Int32)), (.ref b1), (.ref b1)])) rfl (by rw [hml]; rfl) (argsL := [(.int ya0)]) (rest := [(.int (0 : Int32)), (.ref b1), (.ref b1)]) (lenOf pd_14 rfl) rfl (by show 2 * 0 + _ ≤ _; exact Nat.le_of_eq rfl) (hb hby at_6) (fun _ _ => ⟨rfl, e1, (by decide : 1 + 0 ≤ _), (by decide : 5 + 0 ≤ _)⟩)
  dsimp only [Pt.U, Pt.locs, Pt.cells, Pt.slots] at X2 l2 y2 z2 st2 hQ2
  rw [l2, y2, z2] at X2
  change Stand p l e _ _ m _ below meth c T2 _ 1 5 at X2
  obtain ⟨c0, rfl, N2q, eh2, hpa0, hpb0⟩ := hQ2
  have N2 := Fr.app N0 N2q
  refine Goes.on (T' := T2) (g' := (mkF m 9 #[.val (.int ya0), .val (.int ya1), .val (.int ya2), .val (.int ya3), .val (.int ya4), .val (.int ya5), .unset, .unset, .unset, .unset, .unset, .unset] [(.int c0), (.int (0 : Int32)), (.ref b1), (.ref b1)])) ?_ st2
  obtain ⟨cc3, A3, q3, S3, M3, H3, G3⟩ := VV1
  obtain ⟨T4, h4, X4, e4, W4, st4⟩ := stC X2 hx hZ eh2 A3 (j := (0 : Int32)) (inb_of S3 ⟨by decide, by decide⟩) (g := (mkF m 9 #[.val (.int ya0), .val (.int ya1), .val (.int ya2), .val (.int ya3), .val (.int ya4), .val (.int ya5), .unset, .unset, .unset, .unset, .unset, .unset] [(.int c0), (.int (0 : Int32)), (.ref b1), (.ref b1)])) rfl rfl (hb hby at_9)
  have N4 := Fr.snoc X4 N2 g_b1
  have Z4 : n0 ≤ h4.size := Nat.le_trans Z1 (Nat.le_of_eq W4.size.symm)
  refine Goes.on (T' := T4) (g' := (mkF m 10 #[.val (.int ya0), .val (.int ya1), .val (.int ya2), .val (.int ya3), .val (.int ya4), .val (.int ya5), .unset, .unset, .unset, .unset, .unset, .unset] [(.ref b1)])) ?_ st4
  have V4 : Arv Z h4 b1 k1 .char (5 : Int32) [.int c0, .int 0, .int 0, .int 0, .int 0] (.int 0) := by have q := Arv.set A3 q3 S3 M3 H3 G3 (fits_nar_char _) W4 0 rfl (Nat.le_of_ble_eq_true rfl); rw [own_narc ⟨hpa0, hpb0⟩] at q; exact q
  refine Goes.on (T' := T4) (g' := (mkF m 11 #[.val (.int ya0), .val (.int ya1), .val (.int ya2), .val (.int ya3), .val (.int ya4), .val (.int ya5), .unset, .unset, .unset, .unset, .unset, .unset] [(.ref b1), (.ref b1)])) ?_ (fun t_ k_ => XS.dup X4.here hx rfl (hb hby at_10) rfl rfl k_)
  refine Goes.on (T' := T4) (g' := (mkF m 12 #[.val (.int ya0), .val (.int ya1), .val (.int ya2), .val (.int ya3), .val (.int ya4), .val (.int ya5), .unset, .unset, .unset, .unset, .unset, .unset] [(.int (1 : Int32)), (.ref b1), (.ref b1)])) ?_ (fun t_ k_ => XS.iconst X4.here hx rfl (hb hby at_11) k_)
  refine Goes.on (T' := T4) (g' := (mkF m 13 #[.val (.int ya0), .val (.int ya1), .val (.int ya2), .val (.int ya3), .val (.int ya4), .val (.int ya5), .unset, .unset, .unset, .unset, .unset, .unset] [(.int ya1), (.int (1 : Int32)), (.ref b1), (.ref b1)])) ?_ (fun t_ k_ => XS.iloadN X4.here hx rfl (hb hby at_12) rfl k_)
  obtain ⟨_, _, ⟨T5, Lq_5, kq_5, nq_5⟩, -, X5, ⟨Lc5, hQ5, l5, y5, z5⟩, st5⟩ := Jvm.LawKit.callS X4 hx (y := (⟨"com/example/syndic/syndic/input/AmountsIsWrittenPinLaw", "pick", "(I)C"⟩ : MethodName)) hown (mvT hZ (hw _ (List.mem_of_getElem? (i := 1) rfl))) (mvT hZ (hw _ (List.mem_of_getElem? (i := 2) rfl))) (mvT hZ (hw _ (List.mem_of_getElem? (i := 3) rfl))) (mvT hZ (hw _ (List.mem_of_getElem? (i := 4) rfl))) (by decide) (backOf (W := 3) (rmPK l Z a0 hw [] ya1 h4 n0 Z4) hZ (hw _ (List.mem_of_getElem? (i := 4) rfl)) (hw _ (List.mem_of_getElem? (i := 3) rfl)) (by decide) (by decide)) (g := (mkF m 13 #[.val (.int ya0), .val (.int ya1), .val (.int ya2), .val (.int ya3), .val (.int ya4), .val (.int ya5), .unset, .unset, .unset, .unset, .unset, .unset] [(.int ya1), (.int (1 : Int32)), (.ref b1), (.ref b1)])) rfl (by rw [hml]; rfl) (argsL := [(.int ya1)]) (rest := [(.int (1 : Int32)), (.ref b1), (.ref b1)]) (lenOf pd_14 rfl) rfl (by show 2 * 0 + _ ≤ _; exact Nat.le_of_eq rfl) (hb hby at_13) (fun _ _ => ⟨rfl, e4, (by decide : 1 + 0 ≤ _), (by decide : 5 + 0 ≤ _)⟩)
  dsimp only [Pt.U, Pt.locs, Pt.cells, Pt.slots] at X5 l5 y5 z5 st5 hQ5
  rw [l5, y5, z5] at X5
  change Stand p l e _ _ m _ below meth c T5 _ 1 5 at X5
  obtain ⟨c1, rfl, N5q, eh5, hpa1, hpb1⟩ := hQ5
  have N5 := Fr.app N4 N5q
  refine Goes.on (T' := T5) (g' := (mkF m 16 #[.val (.int ya0), .val (.int ya1), .val (.int ya2), .val (.int ya3), .val (.int ya4), .val (.int ya5), .unset, .unset, .unset, .unset, .unset, .unset] [(.int c1), (.int (1 : Int32)), (.ref b1), (.ref b1)])) ?_ st5
  obtain ⟨cc6, A6, q6, S6, M6, H6, G6⟩ := V4
  obtain ⟨T7, h7, X7, e7, W7, st7⟩ := stC X5 hx hZ eh5 A6 (j := (1 : Int32)) (inb_of S6 ⟨by decide, by decide⟩) (g := (mkF m 16 #[.val (.int ya0), .val (.int ya1), .val (.int ya2), .val (.int ya3), .val (.int ya4), .val (.int ya5), .unset, .unset, .unset, .unset, .unset, .unset] [(.int c1), (.int (1 : Int32)), (.ref b1), (.ref b1)])) rfl rfl (hb hby at_16)
  have N7 := Fr.snoc X7 N5 g_b1
  have Z7 : n0 ≤ h7.size := Nat.le_trans Z4 (Nat.le_of_eq W7.size.symm)
  refine Goes.on (T' := T7) (g' := (mkF m 17 #[.val (.int ya0), .val (.int ya1), .val (.int ya2), .val (.int ya3), .val (.int ya4), .val (.int ya5), .unset, .unset, .unset, .unset, .unset, .unset] [(.ref b1)])) ?_ st7
  have V7 : Arv Z h7 b1 k1 .char (5 : Int32) [.int c0, .int c1, .int 0, .int 0, .int 0] (.int 0) := by have q := Arv.set A6 q6 S6 M6 H6 G6 (fits_nar_char _) W7 1 rfl (Nat.le_of_ble_eq_true rfl); rw [own_narc ⟨hpa1, hpb1⟩] at q; exact q
  refine Goes.on (T' := T7) (g' := (mkF m 18 #[.val (.int ya0), .val (.int ya1), .val (.int ya2), .val (.int ya3), .val (.int ya4), .val (.int ya5), .unset, .unset, .unset, .unset, .unset, .unset] [(.ref b1), (.ref b1)])) ?_ (fun t_ k_ => XS.dup X7.here hx rfl (hb hby at_17) rfl rfl k_)
  refine Goes.on (T' := T7) (g' := (mkF m 19 #[.val (.int ya0), .val (.int ya1), .val (.int ya2), .val (.int ya3), .val (.int ya4), .val (.int ya5), .unset, .unset, .unset, .unset, .unset, .unset] [(.int (2 : Int32)), (.ref b1), (.ref b1)])) ?_ (fun t_ k_ => XS.iconst X7.here hx rfl (hb hby at_18) k_)
  refine Goes.on (T' := T7) (g' := (mkF m 20 #[.val (.int ya0), .val (.int ya1), .val (.int ya2), .val (.int ya3), .val (.int ya4), .val (.int ya5), .unset, .unset, .unset, .unset, .unset, .unset] [(.int ya2), (.int (2 : Int32)), (.ref b1), (.ref b1)])) ?_ (fun t_ k_ => XS.iloadN X7.here hx rfl (hb hby at_19) rfl k_)
  obtain ⟨_, _, ⟨T8, Lq_8, kq_8, nq_8⟩, -, X8, ⟨Lc8, hQ8, l8, y8, z8⟩, st8⟩ := Jvm.LawKit.callS X7 hx (y := (⟨"com/example/syndic/syndic/input/AmountsIsWrittenPinLaw", "pick", "(I)C"⟩ : MethodName)) hown (mvT hZ (hw _ (List.mem_of_getElem? (i := 1) rfl))) (mvT hZ (hw _ (List.mem_of_getElem? (i := 2) rfl))) (mvT hZ (hw _ (List.mem_of_getElem? (i := 3) rfl))) (mvT hZ (hw _ (List.mem_of_getElem? (i := 4) rfl))) (by decide) (backOf (W := 3) (rmPK l Z a0 hw [] ya2 h7 n0 Z7) hZ (hw _ (List.mem_of_getElem? (i := 4) rfl)) (hw _ (List.mem_of_getElem? (i := 3) rfl)) (by decide) (by decide)) (g := (mkF m 20 #[.val (.int ya0), .val (.int ya1), .val (.int ya2), .val (.int ya3), .val (.int ya4), .val (.int ya5), .unset, .unset, .unset, .unset, .unset, .unset] [(.int ya2), (.int (2 : Int32)), (.ref b1), (.ref b1)])) rfl (by rw [hml]; rfl) (argsL := [(.int ya2)]) (rest := [(.int (2 : Int32)), (.ref b1), (.ref b1)]) (lenOf pd_14 rfl) rfl (by show 2 * 0 + _ ≤ _; exact Nat.le_of_eq rfl) (hb hby at_20) (fun _ _ => ⟨rfl, e7, (by decide : 1 + 0 ≤ _), (by decide : 5 + 0 ≤ _)⟩)
  dsimp only [Pt.U, Pt.locs, Pt.cells, Pt.slots] at X8 l8 y8 z8 st8 hQ8
  rw [l8, y8, z8] at X8
  change Stand p l e _ _ m _ below meth c T8 _ 1 5 at X8
  obtain ⟨c2, rfl, N8q, eh8, hpa2, hpb2⟩ := hQ8
  have N8 := Fr.app N7 N8q
  refine Goes.on (T' := T8) (g' := (mkF m 23 #[.val (.int ya0), .val (.int ya1), .val (.int ya2), .val (.int ya3), .val (.int ya4), .val (.int ya5), .unset, .unset, .unset, .unset, .unset, .unset] [(.int c2), (.int (2 : Int32)), (.ref b1), (.ref b1)])) ?_ st8
  obtain ⟨cc9, A9, q9, S9, M9, H9, G9⟩ := V7
  obtain ⟨T10, h10, X10, e10, W10, st10⟩ := stC X8 hx hZ eh8 A9 (j := (2 : Int32)) (inb_of S9 ⟨by decide, by decide⟩) (g := (mkF m 23 #[.val (.int ya0), .val (.int ya1), .val (.int ya2), .val (.int ya3), .val (.int ya4), .val (.int ya5), .unset, .unset, .unset, .unset, .unset, .unset] [(.int c2), (.int (2 : Int32)), (.ref b1), (.ref b1)])) rfl rfl (hb hby at_23)
  have N10 := Fr.snoc X10 N8 g_b1
  have Z10 : n0 ≤ h10.size := Nat.le_trans Z7 (Nat.le_of_eq W10.size.symm)
  refine Goes.on (T' := T10) (g' := (mkF m 24 #[.val (.int ya0), .val (.int ya1), .val (.int ya2), .val (.int ya3), .val (.int ya4), .val (.int ya5), .unset, .unset, .unset, .unset, .unset, .unset] [(.ref b1)])) ?_ st10
  have V10 : Arv Z h10 b1 k1 .char (5 : Int32) [.int c0, .int c1, .int c2, .int 0, .int 0] (.int 0) := by have q := Arv.set A9 q9 S9 M9 H9 G9 (fits_nar_char _) W10 2 rfl (Nat.le_of_ble_eq_true rfl); rw [own_narc ⟨hpa2, hpb2⟩] at q; exact q
  refine Goes.on (T' := T10) (g' := (mkF m 25 #[.val (.int ya0), .val (.int ya1), .val (.int ya2), .val (.int ya3), .val (.int ya4), .val (.int ya5), .unset, .unset, .unset, .unset, .unset, .unset] [(.ref b1), (.ref b1)])) ?_ (fun t_ k_ => XS.dup X10.here hx rfl (hb hby at_24) rfl rfl k_)
  refine Goes.on (T' := T10) (g' := (mkF m 26 #[.val (.int ya0), .val (.int ya1), .val (.int ya2), .val (.int ya3), .val (.int ya4), .val (.int ya5), .unset, .unset, .unset, .unset, .unset, .unset] [(.int (3 : Int32)), (.ref b1), (.ref b1)])) ?_ (fun t_ k_ => XS.iconst X10.here hx rfl (hb hby at_25) k_)
  refine Goes.on (T' := T10) (g' := (mkF m 27 #[.val (.int ya0), .val (.int ya1), .val (.int ya2), .val (.int ya3), .val (.int ya4), .val (.int ya5), .unset, .unset, .unset, .unset, .unset, .unset] [(.int ya3), (.int (3 : Int32)), (.ref b1), (.ref b1)])) ?_ (fun t_ k_ => XS.iloadN X10.here hx rfl (hb hby at_26) rfl k_)
  obtain ⟨_, _, ⟨T11, Lq_11, kq_11, nq_11⟩, -, X11, ⟨Lc11, hQ11, l11, y11, z11⟩, st11⟩ := Jvm.LawKit.callS X10 hx (y := (⟨"com/example/syndic/syndic/input/AmountsIsWrittenPinLaw", "pick", "(I)C"⟩ : MethodName)) hown (mvT hZ (hw _ (List.mem_of_getElem? (i := 1) rfl))) (mvT hZ (hw _ (List.mem_of_getElem? (i := 2) rfl))) (mvT hZ (hw _ (List.mem_of_getElem? (i := 3) rfl))) (mvT hZ (hw _ (List.mem_of_getElem? (i := 4) rfl))) (by decide) (backOf (W := 3) (rmPK l Z a0 hw [] ya3 h10 n0 Z10) hZ (hw _ (List.mem_of_getElem? (i := 4) rfl)) (hw _ (List.mem_of_getElem? (i := 3) rfl)) (by decide) (by decide)) (g := (mkF m 27 #[.val (.int ya0), .val (.int ya1), .val (.int ya2), .val (.int ya3), .val (.int ya4), .val (.int ya5), .unset, .unset, .unset, .unset, .unset, .unset] [(.int ya3), (.int (3 : Int32)), (.ref b1), (.ref b1)])) rfl (by rw [hml]; rfl) (argsL := [(.int ya3)]) (rest := [(.int (3 : Int32)), (.ref b1), (.ref b1)]) (lenOf pd_14 rfl) rfl (by show 2 * 0 + _ ≤ _; exact Nat.le_of_eq rfl) (hb hby at_27) (fun _ _ => ⟨rfl, e10, (by decide : 1 + 0 ≤ _), (by decide : 5 + 0 ≤ _)⟩)
  dsimp only [Pt.U, Pt.locs, Pt.cells, Pt.slots] at X11 l11 y11 z11 st11 hQ11
  rw [l11, y11, z11] at X11
  change Stand p l e _ _ m _ below meth c T11 _ 1 5 at X11
  obtain ⟨c3, rfl, N11q, eh11, hpa3, hpb3⟩ := hQ11
  have N11 := Fr.app N10 N11q
  refine Goes.on (T' := T11) (g' := (mkF m 30 #[.val (.int ya0), .val (.int ya1), .val (.int ya2), .val (.int ya3), .val (.int ya4), .val (.int ya5), .unset, .unset, .unset, .unset, .unset, .unset] [(.int c3), (.int (3 : Int32)), (.ref b1), (.ref b1)])) ?_ st11
  obtain ⟨cc12, A12, q12, S12, M12, H12, G12⟩ := V10
  obtain ⟨T13, h13, X13, e13, W13, st13⟩ := stC X11 hx hZ eh11 A12 (j := (3 : Int32)) (inb_of S12 ⟨by decide, by decide⟩) (g := (mkF m 30 #[.val (.int ya0), .val (.int ya1), .val (.int ya2), .val (.int ya3), .val (.int ya4), .val (.int ya5), .unset, .unset, .unset, .unset, .unset, .unset] [(.int c3), (.int (3 : Int32)), (.ref b1), (.ref b1)])) rfl rfl (hb hby at_30)
  have N13 := Fr.snoc X13 N11 g_b1
  have Z13 : n0 ≤ h13.size := Nat.le_trans Z10 (Nat.le_of_eq W13.size.symm)
  refine Goes.on (T' := T13) (g' := (mkF m 31 #[.val (.int ya0), .val (.int ya1), .val (.int ya2), .val (.int ya3), .val (.int ya4), .val (.int ya5), .unset, .unset, .unset, .unset, .unset, .unset] [(.ref b1)])) ?_ st13
  have V13 : Arv Z h13 b1 k1 .char (5 : Int32) [.int c0, .int c1, .int c2, .int c3, .int 0] (.int 0) := by have q := Arv.set A12 q12 S12 M12 H12 G12 (fits_nar_char _) W13 3 rfl (Nat.le_of_ble_eq_true rfl); rw [own_narc ⟨hpa3, hpb3⟩] at q; exact q
  refine Goes.on (T' := T13) (g' := (mkF m 32 #[.val (.int ya0), .val (.int ya1), .val (.int ya2), .val (.int ya3), .val (.int ya4), .val (.int ya5), .unset, .unset, .unset, .unset, .unset, .unset] [(.ref b1), (.ref b1)])) ?_ (fun t_ k_ => XS.dup X13.here hx rfl (hb hby at_31) rfl rfl k_)
  refine Goes.on (T' := T13) (g' := (mkF m 33 #[.val (.int ya0), .val (.int ya1), .val (.int ya2), .val (.int ya3), .val (.int ya4), .val (.int ya5), .unset, .unset, .unset, .unset, .unset, .unset] [(.int (4 : Int32)), (.ref b1), (.ref b1)])) ?_ (fun t_ k_ => XS.iconst X13.here hx rfl (hb hby at_32) k_)
  refine Goes.on (T' := T13) (g' := (mkF m 35 #[.val (.int ya0), .val (.int ya1), .val (.int ya2), .val (.int ya3), .val (.int ya4), .val (.int ya5), .unset, .unset, .unset, .unset, .unset, .unset] [(.int ya4), (.int (4 : Int32)), (.ref b1), (.ref b1)])) ?_ (fun t_ k_ => XS.iload X13.here hx rfl (hb hby at_33) rfl k_)
  obtain ⟨_, _, ⟨T14, Lq_14, kq_14, nq_14⟩, -, X14, ⟨Lc14, hQ14, l14, y14, z14⟩, st14⟩ := Jvm.LawKit.callS X13 hx (y := (⟨"com/example/syndic/syndic/input/AmountsIsWrittenPinLaw", "pick", "(I)C"⟩ : MethodName)) hown (mvT hZ (hw _ (List.mem_of_getElem? (i := 1) rfl))) (mvT hZ (hw _ (List.mem_of_getElem? (i := 2) rfl))) (mvT hZ (hw _ (List.mem_of_getElem? (i := 3) rfl))) (mvT hZ (hw _ (List.mem_of_getElem? (i := 4) rfl))) (by decide) (backOf (W := 3) (rmPK l Z a0 hw [] ya4 h13 n0 Z13) hZ (hw _ (List.mem_of_getElem? (i := 4) rfl)) (hw _ (List.mem_of_getElem? (i := 3) rfl)) (by decide) (by decide)) (g := (mkF m 35 #[.val (.int ya0), .val (.int ya1), .val (.int ya2), .val (.int ya3), .val (.int ya4), .val (.int ya5), .unset, .unset, .unset, .unset, .unset, .unset] [(.int ya4), (.int (4 : Int32)), (.ref b1), (.ref b1)])) rfl (by rw [hml]; rfl) (argsL := [(.int ya4)]) (rest := [(.int (4 : Int32)), (.ref b1), (.ref b1)]) (lenOf pd_14 rfl) rfl (by show 2 * 0 + _ ≤ _; exact Nat.le_of_eq rfl) (hb hby at_35) (fun _ _ => ⟨rfl, e13, (by decide : 1 + 0 ≤ _), (by decide : 5 + 0 ≤ _)⟩)
  dsimp only [Pt.U, Pt.locs, Pt.cells, Pt.slots] at X14 l14 y14 z14 st14 hQ14
  rw [l14, y14, z14] at X14
  change Stand p l e _ _ m _ below meth c T14 _ 1 5 at X14
  obtain ⟨c4, rfl, N14q, eh14, hpa4, hpb4⟩ := hQ14
  have N14 := Fr.app N13 N14q
  refine Goes.on (T' := T14) (g' := (mkF m 38 #[.val (.int ya0), .val (.int ya1), .val (.int ya2), .val (.int ya3), .val (.int ya4), .val (.int ya5), .unset, .unset, .unset, .unset, .unset, .unset] [(.int c4), (.int (4 : Int32)), (.ref b1), (.ref b1)])) ?_ st14
  obtain ⟨cc15, A15, q15, S15, M15, H15, G15⟩ := V13
  obtain ⟨T16, h16, X16, e16, W16, st16⟩ := stC X14 hx hZ eh14 A15 (j := (4 : Int32)) (inb_of S15 ⟨by decide, by decide⟩) (g := (mkF m 38 #[.val (.int ya0), .val (.int ya1), .val (.int ya2), .val (.int ya3), .val (.int ya4), .val (.int ya5), .unset, .unset, .unset, .unset, .unset, .unset] [(.int c4), (.int (4 : Int32)), (.ref b1), (.ref b1)])) rfl rfl (hb hby at_38)
  have N16 := Fr.snoc X16 N14 g_b1
  have Z16 : n0 ≤ h16.size := Nat.le_trans Z13 (Nat.le_of_eq W16.size.symm)
  refine Goes.on (T' := T16) (g' := (mkF m 39 #[.val (.int ya0), .val (.int ya1), .val (.int ya2), .val (.int ya3), .val (.int ya4), .val (.int ya5), .unset, .unset, .unset, .unset, .unset, .unset] [(.ref b1)])) ?_ st16
  have V16 : Arv Z h16 b1 k1 .char (5 : Int32) [.int c0, .int c1, .int c2, .int c3, .int c4] (.int 0) := by have q := Arv.set A15 q15 S15 M15 H15 G15 (fits_nar_char _) W16 4 rfl (Nat.le_of_ble_eq_true rfl); rw [own_narc ⟨hpa4, hpb4⟩] at q; exact q
  refine Goes.on (T' := T16) (g' := (mkF m 41 #[.val (.int ya0), .val (.int ya1), .val (.int ya2), .val (.int ya3), .val (.int ya4), .val (.int ya5), .val (.ref b1), .unset, .unset, .unset, .unset, .unset] [])) ?_ (fun t_ k_ => XS.astore X16.here hx rfl (hb hby at_39) rfl rfl (l' := #[.val (.int ya0), .val (.int ya1), .val (.int ya2), .val (.int ya3), .val (.int ya4), .val (.int ya5), .val (.ref b1), .unset, .unset, .unset, .unset, .unset]) rfl k_)
  obtain ⟨T17, h17, X17, e17, E17, A17, D17, -, st17⟩ := newO X16 hx hZ hown (hw _ (List.mem_of_getElem? (i := 6) rfl)) (hw _ (List.mem_of_getElem? (i := 7) rfl)) (hw _ (List.mem_of_getElem? (i := 8) rfl)) e16 (g := (mkF m 41 #[.val (.int ya0), .val (.int ya1), .val (.int ya2), .val (.int ya3), .val (.int ya4), .val (.int ya5), .val (.ref b1), .unset, .unset, .unset, .unset, .unset] [])) rfl (hb hby at_41) (by decide) (by decide)
  obtain ⟨b17, gb17⟩ : ∃ z, z = h16.size := ⟨_, rfl⟩
  rw [← gb17] at A17 D17 st17
  have Z17 : n0 ≤ h17.size := Nat.le_trans Z16 E17.1
  have g_b17 : n0 ≤ b17 := Nat.le_trans Z16 (Nat.le_of_eq gb17.symm)
  refine Goes.on (T' := T17) (g' := (mkF m 44 #[.val (.int ya0), .val (.int ya1), .val (.int ya2), .val (.int ya3), .val (.int ya4), .val (.int ya5), .val (.ref b1), .unset, .unset, .unset, .unset, .unset] [(.ref b17)])) ?_ st17
  have F17_value : Fld Z h17 b17 "java/lang/String" "value" "[B" .null := D17 (Or.inr (hw _ (List.mem_of_getElem? (i := 34) rfl))) (ty := (.array .byte)) (by decide)
  have F17_coder : Fld Z h17 b17 "java/lang/String" "coder" "B" (.int (0 : Int32)) := D17 (Or.inr (hw _ (List.mem_of_getElem? (i := 32) rfl))) (ty := .byte) (by decide)
  have nex : b1 ≠ b17 := Nat.ne_of_lt (Nat.lt_of_lt_of_le V16.lt (Nat.le_of_eq gb17.symm))
  have VX : Arv Z h17 b1 k1 .char (Int32.ofNat [c0, c1, c2, c3, c4].length) ([c0, c1, c2, c3, c4].map Value.int) (.int 0) := V16.ext E17
  have XO : Old Z n0 h17 := ((((((X0_.ext E1).wr W4 g_b1).wr W7 g_b1).wr W10 g_b1).wr W13 g_b1).wr W16 g_b1).ext E17
  refine Goes.on (T' := T17) (g' := (mkF m 45 #[.val (.int ya0), .val (.int ya1), .val (.int ya2), .val (.int ya3), .val (.int ya4), .val (.int ya5), .val (.ref b1), .unset, .unset, .unset, .unset, .unset] [(.ref b17), (.ref b17)])) ?_ (fun t_ k_ => XS.dup X17.here hx rfl (hb hby at_44) rfl rfl k_)
  refine Goes.on (T' := T17) (g' := (mkF m 47 #[.val (.int ya0), .val (.int ya1), .val (.int ya2), .val (.int ya3), .val (.int ya4), .val (.int ya5), .val (.ref b1), .unset, .unset, .unset, .unset, .unset] [(.ref b1), (.ref b17), (.ref b17)])) ?_ (fun t_ k_ => XS.aload X17.here hx rfl (hb hby at_45) rfl rfl k_)
  have hp : ∀ c ∈ ([c0, c1, c2, c3, c4] : List Int32), ¬ c < 0 ∧ ¬ (65535 : Int32) < c := by intro c hc; simp only [List.mem_cons, List.not_mem_nil, or_false] at hc; rcases hc with rfl | rfl | rfl | rfl | rfl <;> exact ⟨by assumption, by assumption⟩
  have hl : ([c0, c1, c2, c3, c4] : List Int32).length ≤ 16 := by show (5 : Nat) ≤ 16; decide
  obtain ⟨_, _, ⟨T18, Lq_18, kq_18, nq_18⟩, -, X18, ⟨Lc18, hQ18, l18, y18, z18⟩, st18⟩ := X17.specialBack hx (y := (⟨"java/lang/String", "<init>", "([C)V"⟩ : MethodName)) rfl hown (mvT hZ (hw _ (List.mem_of_getElem? (i := 9) rfl))) (mvT hZ (hw _ (List.mem_of_getElem? (i := 10) rfl))) (mvT hZ (hw _ (List.mem_of_getElem? (i := 11) rfl))) (by decide) (backOf (W := 1) (rmI1 l Z a0 hw [] b17 b1 k1 [c0, c1, c2, c3, c4] zc h17 n0 Z17 A17 F17_value F17_coder g_b17 VX hp hl (Nat.succ_pos _) CS hzc AD HB LB XO) hZ (hw _ (List.mem_of_getElem? (i := 11) rfl)) (hw _ (List.mem_of_getElem? (i := 8) rfl)) (by decide) (by decide)) (g := (mkF m 47 #[.val (.int ya0), .val (.int ya1), .val (.int ya2), .val (.int ya3), .val (.int ya4), .val (.int ya5), .val (.ref b1), .unset, .unset, .unset, .unset, .unset] [(.ref b1), (.ref b17), (.ref b17)])) rfl (by rw [hml]; rfl) (Steps.refl _) (a := b17) (argsL := [(.ref b1)]) (rest := [(.ref b17)]) (lenOf pd_16 rfl) rfl (by show 2 * 0 + _ ≤ _; exact Nat.le_of_eq rfl) (hb hby at_47) (fun _ _ => ⟨rfl, e17, (by decide : 2 + 2 ≤ _), (by decide : 9 + 48 ≤ _)⟩)
  dsimp only [Pt.U, Pt.locs, Pt.cells, Pt.slots] at X18 l18 y18 z18 st18 hQ18
  rw [l18, y18, z18] at X18
  change Stand p l e _ _ m _ below meth c T18 _ 4 57 at X18
  obtain ⟨rfl, N18q, K18, ⟨tt, kt, cd, szt, TX⟩⟩ := hQ18
  have N18 := Fr.app N16 N18q
  refine Goes.on (T' := T18) (g' := (mkF m 50 #[.val (.int ya0), .val (.int ya1), .val (.int ya2), .val (.int ya3), .val (.int ya4), .val (.int ya5), .val (.ref b1), .unset, .unset, .unset, .unset, .unset] [(.ref b17)])) ?_ (fun t => st18.trans)
  have ZS : n0 ≤ T18.heap.size := Nat.le_trans Z17 K18.1
  have XS_ : Old Z n0 T18.heap := XO.keep K18 (allS g_b17 all0)
  have VS := VX.keep K18 (ninS nex nin0)
  obtain ⟨hS, ehS⟩ : ∃ z, z = T18.heap := ⟨_, rfl⟩
  rw [← ehS] at ZS XS_ VS TX
  have VS5 : Arv Z hS b1 k1 .char (5 : Int32) [.int c0, .int c1, .int c2, .int c3, .int c4] (.int 0) := VS
  obtain ⟨cA, A1, -, S1, M1, H1, -⟩ := id VS5
  refine Goes.on (T' := T18) (g' := (mkF m 52 #[.val (.int ya0), .val (.int ya1), .val (.int ya2), .val (.int ya3), .val (.int ya4), .val (.int ya5), .val (.ref b1), .val (.ref b17), .unset, .unset, .unset, .unset] [])) ?_ (fun t_ k_ => XS.astore X18.here hx rfl (hb hby at_50) rfl rfl (l' := #[.val (.int ya0), .val (.int ya1), .val (.int ya2), .val (.int ya3), .val (.int ya4), .val (.int ya5), .val (.ref b1), .val (.ref b17), .unset, .unset, .unset, .unset]) rfl k_)
  refine Goes.on (T' := T18) (g' := (mkF m 54 #[.val (.int ya0), .val (.int ya1), .val (.int ya2), .val (.int ya3), .val (.int ya4), .val (.int ya5), .val (.ref b1), .val (.ref b17), .unset, .unset, .unset, .unset] [(.int ya5)])) ?_ (fun t_ k_ => XS.iload X18.here hx rfl (hb hby at_52) rfl k_)
  refine Goes.on (T' := T18) (g' := (mkF m 56 #[.val (.int ya0), .val (.int ya1), .val (.int ya2), .val (.int ya3), .val (.int ya4), .val (.int ya5), .val (.ref b1), .val (.ref b17), .unset, .unset, .unset, .unset] [(.int (2147483647 : Int32)), (.int ya5)])) ?_ (X18.ldcInt hx hown (mvT hZ (hw _ (List.mem_of_getElem? (i := 35) rfl))) (g := (mkF m 54 #[.val (.int ya0), .val (.int ya1), .val (.int ya2), .val (.int ya3), .val (.int ya4), .val (.int ya5), .val (.ref b1), .val (.ref b17), .unset, .unset, .unset, .unset] [(.int ya5)])) rfl (hb hby at_54))
  refine Goes.on (T' := T18) (g' := (mkF m 57 #[.val (.int ya0), .val (.int ya1), .val (.int ya2), .val (.int ya3), .val (.int ya4), .val (.int ya5), .val (.ref b1), .val (.ref b17), .unset, .unset, .unset, .unset] [(.int (ya5 &&& (2147483647 : Int32)))])) ?_ (fun t_ k_ => XS.iand X18.here hx rfl (hb hby at_56) rfl k_)
  refine Goes.on (T' := T18) (g' := (mkF m 59 #[.val (.int ya0), .val (.int ya1), .val (.int ya2), .val (.int ya3), .val (.int ya4), .val (.int ya5), .val (.ref b1), .val (.ref b17), .unset, .unset, .unset, .unset] [(.int (6 : Int32)), (.int (ya5 &&& (2147483647 : Int32)))])) ?_ (fun t_ k_ => XS.bipush X18.here hx rfl (hb hby at_57) k_)
  refine Goes.on (T' := T18) (g' := (mkF m 60 #[.val (.int ya0), .val (.int ya1), .val (.int ya2), .val (.int ya3), .val (.int ya4), .val (.int ya5), .val (.ref b1), .val (.ref b17), .unset, .unset, .unset, .unset] [(.int ((ya5 &&& (2147483647 : Int32)) % (6 : Int32)))])) ?_ (fun t_ k_ => iremM X18 hx rfl (hb hby at_59) rfl (by decide) k_)
  obtain ⟨n, hn5, en⟩ := own_from ya5
  rw [en]
  refine Goes.on (T' := T18) (g' := (mkF m 62 #[.val (.int ya0), .val (.int ya1), .val (.int ya2), .val (.int ya3), .val (.int ya4), .val (.int ya5), .val (.ref b1), .val (.ref b17), .val (.int (Int32.ofNat n)), .unset, .unset, .unset] [])) ?_ (fun t_ k_ => XS.istore X18.here hx rfl (hb hby at_60) rfl (l' := #[.val (.int ya0), .val (.int ya1), .val (.int ya2), .val (.int ya3), .val (.int ya4), .val (.int ya5), .val (.ref b1), .val (.ref b17), .val (.int (Int32.ofNat n)), .unset, .unset, .unset]) rfl k_)
  have K242 : ∀ (ex : Int32) (s10 s11 : Slot) (T : State) (locs : List Loc), Stand p l e room_1 s m #[.int ya0, .int ya1, .int ya2, .int ya3, .int ya4, .int ya5] below meth c T locs 4 57 → T.heap = hS → Fr n0 locs → ex = (own_exp (Int32.ofNat n) (own_allok (own_alw c0 (0 : Int32) (Int32.ofNat n)) (own_alw c1 (1 : Int32) (Int32.ofNat n)) (own_alw c2 (2 : Int32) (Int32.ofNat n)) (own_alw c3 (3 : Int32) (Int32.ofNat n)) (own_alw c4 (4 : Int32) (Int32.ofNat n))) ((((own_dot c0 (0 : Int32) (Int32.ofNat n) + own_dot c1 (1 : Int32) (Int32.ofNat n)) + own_dot c2 (2 : Int32) (Int32.ofNat n)) + own_dot c3 (3 : Int32) (Int32.ofNat n)) + own_dot c4 (4 : Int32) (Int32.ofNat n)) (own_dig c0) (own_dig ([c0, c1, c2, c3, c4].getD (n - 1) 0))) → Goes p e below W T (mkF m 242 #[.val (.int ya0), .val (.int ya1), .val (.int ya2), .val (.int ya3), .val (.int ya4), .val (.int ya5), .val (.ref b1), .val (.ref b17), .val (.int (Int32.ofNat n)), .val (.int ex), s10, s11] []) := by
    intro ex s10 s11 T locs X eT N hex
    refine Goes.on (T' := T) (g' := (mkF m 244 #[.val (.int ya0), .val (.int ya1), .val (.int ya2), .val (.int ya3), .val (.int ya4), .val (.int ya5), .val (.ref b1), .val (.ref b17), .val (.int (Int32.ofNat n)), .val (.int ex), s10, s11] [(.ref b17)])) ?_ (fun t_ k_ => XS.aload X.here hx rfl (hb hby at_242) rfl rfl k_)
    refine Goes.on (T' := T) (g' := (mkF m 246 #[.val (.int ya0), .val (.int ya1), .val (.int ya2), .val (.int ya3), .val (.int ya4), .val (.int ya5), .val (.ref b1), .val (.ref b17), .val (.int (Int32.ofNat n)), .val (.int ex), s10, s11] [(.int (Int32.ofNat n)), (.ref b17)])) ?_ (fun t_ k_ => XS.iload X.here hx rfl (hb hby at_244) rfl k_)
    obtain ⟨_, _, ⟨T19, Lq_19, kq_19, nq_19⟩, -, X19, ⟨Lc19, hQ19, l19, y19, z19⟩, st19⟩ := Jvm.LawKit.callS X hx (y := (⟨"com/example/syndic/syndic/input/Amounts", "isWritten", "(Ljava/lang/String;I)Z"⟩ : MethodName)) hown (mvT hZ (hw _ (List.mem_of_getElem? (i := 45) rfl))) (mvT hZ (hw _ (List.mem_of_getElem? (i := 46) rfl))) (mvT hZ (hw _ (List.mem_of_getElem? (i := 47) rfl))) (mvT hZ (hw _ (List.mem_of_getElem? (i := 48) rfl))) (by decide) (backOf (W := 0) (rmIW l Z a0 hw [] b17 tt kt [c0, c1, c2, c3, c4] cd zc vf n hS n0 ZS TX CS hzc AD HB LB hp hl SO rG XS_ hn5) hZ (hw _ (List.mem_of_getElem? (i := 48) rfl)) (hw _ (List.mem_of_getElem? (i := 47) rfl)) (by decide) (by decide)) (g := (mkF m 246 #[.val (.int ya0), .val (.int ya1), .val (.int ya2), .val (.int ya3), .val (.int ya4), .val (.int ya5), .val (.ref b1), .val (.ref b17), .val (.int (Int32.ofNat n)), .val (.int ex), s10, s11] [(.int (Int32.ofNat n)), (.ref b17)])) rfl (by rw [hml]; rfl) (argsL := [(.ref b17), (.int (Int32.ofNat n))]) (rest := []) (lenOf pd_17 rfl) rfl (by show 2 * 0 + _ ≤ _; exact Nat.le_of_eq rfl) (hb hby at_246) (fun _ _ => ⟨rfl, eT, (by decide : 4 + 0 ≤ _), (by decide : 57 + 0 ≤ _)⟩)
    dsimp only [Pt.U, Pt.locs, Pt.cells, Pt.slots] at X19 l19 y19 z19 st19 hQ19
    rw [l19, y19, z19] at X19
    change Stand p l e _ _ m _ below meth c T19 _ 4 57 at X19
    obtain ⟨rfl, N19q, eh19⟩ := hQ19
    have N19 := Fr.app N N19q
    refine Goes.on (T' := T19) (g' := (mkF m 249 #[.val (.int ya0), .val (.int ya1), .val (.int ya2), .val (.int ya3), .val (.int ya4), .val (.int ya5), .val (.ref b1), .val (.ref b17), .val (.int (Int32.ofNat n)), .val (.int ex), s10, s11] [(.int (own_isw [c0, c1, c2, c3, c4] n (own_df [c0, c1, c2, c3, c4] n 0)))])) ?_ st19
    rw [own_all c0 c1 c2 c3 c4 n hn5, ← hex]
    refine Goes.on (T' := T19) (g' := (mkF m 251 #[.val (.int ya0), .val (.int ya1), .val (.int ya2), .val (.int ya3), .val (.int ya4), .val (.int ya5), .val (.ref b1), .val (.ref b17), .val (.int (Int32.ofNat n)), .val (.int ex), s10, s11] [(.int ex), (.int ex)])) ?_ (fun t_ k_ => XS.iload X19.here hx rfl (hb hby at_249) rfl k_)
    refine Goes.on (T' := T19) (g' := (mkF m 254 #[.val (.int ya0), .val (.int ya1), .val (.int ya2), .val (.int ya3), .val (.int ya4), .val (.int ya5), .val (.ref b1), .val (.ref b17), .val (.int (Int32.ofNat n)), .val (.int ex), s10, s11] [])) ?_ (fun t_ k_ => XS.icmpNo X19.here hx rfl (hb hby at_251) rfl (teq rfl).2 k_)
    refine Goes.on (T' := T19) (g' := (mkF m 255 #[.val (.int ya0), .val (.int ya1), .val (.int ya2), .val (.int ya3), .val (.int ya4), .val (.int ya5), .val (.ref b1), .val (.ref b17), .val (.int (Int32.ofNat n)), .val (.int ex), s10, s11] [(.int (1 : Int32))])) ?_ (fun t_ k_ => XS.iconst X19.here hx rfl (hb hby at_254) k_)
    refine Goes.on (T' := T19) (g' := (mkF m 259 #[.val (.int ya0), .val (.int ya1), .val (.int ya2), .val (.int ya3), .val (.int ya4), .val (.int ya5), .val (.ref b1), .val (.ref b17), .val (.int (Int32.ofNat n)), .val (.int ex), s10, s11] [(.int (1 : Int32))])) ?_ (fun t_ k_ => XS.goto X19.here hx rfl (pc0 := 255) (pc' := 259) rfl (hb hby at_255) (by decide) (by decide) k_)
    rw [hWd]
    exact Goes.retn X19 (v := some (.int (nar .boolean (1 : Int32)))) (fun fs hr => retN X19 hx (t := .boolean) Bd.returns (by simp) (hb hby at_259) hr) (fun h => by rw [Bd.returns] at h; cases h) Bd.notSynchronized (by decide) (by decide) (by rw [eh19]; exact ⟨rfl, N19⟩)
  have K143 : ¬ ((Int32.ofNat n) = (0 : Int32)) → ∀ (ok : Int32) (T : State) (locs : List Loc), Stand p l e room_1 s m #[.int ya0, .int ya1, .int ya2, .int ya3, .int ya4, .int ya5] below meth c T locs 4 57 → T.heap = hS → Fr n0 locs → ok = (own_allok (own_alw c0 (0 : Int32) (Int32.ofNat n)) (own_alw c1 (1 : Int32) (Int32.ofNat n)) (own_alw c2 (2 : Int32) (Int32.ofNat n)) (own_alw c3 (3 : Int32) (Int32.ofNat n)) (own_alw c4 (4 : Int32) (Int32.ofNat n))) → Goes p e below W T (mkF m 143 #[.val (.int ya0), .val (.int ya1), .val (.int ya2), .val (.int ya3), .val (.int ya4), .val (.int ya5), .val (.ref b1), .val (.ref b17), .val (.int (Int32.ofNat n)), .unset, .unset, .unset] [(.int ok)]) := by
    intro hc64 ok T locs X eT N hok
    refine Goes.on (T' := T) (g' := (mkF m 145 #[.val (.int ya0), .val (.int ya1), .val (.int ya2), .val (.int ya3), .val (.int ya4), .val (.int ya5), .val (.ref b1), .val (.ref b17), .val (.int (Int32.ofNat n)), .unset, .val (.int ok), .unset] [])) ?_ (fun t_ k_ => XS.istore X.here hx rfl (hb hby at_143) rfl (l' := #[.val (.int ya0), .val (.int ya1), .val (.int ya2), .val (.int ya3), .val (.int ya4), .val (.int ya5), .val (.ref b1), .val (.ref b17), .val (.int (Int32.ofNat n)), .unset, .val (.int ok), .unset]) rfl k_)
    refine Goes.on (T' := T) (g' := (mkF m 147 #[.val (.int ya0), .val (.int ya1), .val (.int ya2), .val (.int ya3), .val (.int ya4), .val (.int ya5), .val (.ref b1), .val (.ref b17), .val (.int (Int32.ofNat n)), .unset, .val (.int ok), .unset] [(.ref b1)])) ?_ (fun t_ k_ => XS.aload X.here hx rfl (hb hby at_145) rfl rfl k_)
    refine Goes.on (T' := T) (g' := (mkF m 148 #[.val (.int ya0), .val (.int ya1), .val (.int ya2), .val (.int ya3), .val (.int ya4), .val (.int ya5), .val (.ref b1), .val (.ref b17), .val (.int (Int32.ofNat n)), .unset, .val (.int ok), .unset] [(.int (0 : Int32)), (.ref b1)])) ?_ (fun t_ k_ => XS.iconst X.here hx rfl (hb hby at_147) k_)
    refine Goes.on (T' := T) (g' := (mkF m 149 #[.val (.int ya0), .val (.int ya1), .val (.int ya2), .val (.int ya3), .val (.int ya4), .val (.int ya5), .val (.ref b1), .val (.ref b17), .val (.int (Int32.ofNat n)), .unset, .val (.int ok), .unset] [(.int c0)])) ?_ (X.caload hx (j := (0 : Int32)) (v := (.int c0)) (by rw [eT]; exact A1.1) (State.isArrayOf_alike hZ.alike A1.2.1) A1.2.2 (inb_of S1 ⟨by decide, by decide⟩) (by have q := H1 0 (by rw [S1]; decide); exact q) (g := (mkF m 148 #[.val (.int ya0), .val (.int ya1), .val (.int ya2), .val (.int ya3), .val (.int ya4), .val (.int ya5), .val (.ref b1), .val (.ref b17), .val (.int (Int32.ofNat n)), .unset, .val (.int ok), .unset] [(.int (0 : Int32)), (.ref b1)])) rfl rfl (hb hby at_148))
    refine Goes.on (T' := T) (g' := (mkF m 150 #[.val (.int ya0), .val (.int ya1), .val (.int ya2), .val (.int ya3), .val (.int ya4), .val (.int ya5), .val (.ref b1), .val (.ref b17), .val (.int (Int32.ofNat n)), .unset, .val (.int ok), .unset] [(.int (0 : Int32)), (.int c0)])) ?_ (fun t_ k_ => XS.iconst X.here hx rfl (hb hby at_149) k_)
    refine Goes.on (T' := T) (g' := (mkF m 152 #[.val (.int ya0), .val (.int ya1), .val (.int ya2), .val (.int ya3), .val (.int ya4), .val (.int ya5), .val (.ref b1), .val (.ref b17), .val (.int (Int32.ofNat n)), .unset, .val (.int ok), .unset] [(.int (Int32.ofNat n)), (.int (0 : Int32)), (.int c0)])) ?_ (fun t_ k_ => XS.iload X.here hx rfl (hb hby at_150) rfl k_)
    obtain ⟨_, _, ⟨T20, Lq_20, kq_20, nq_20⟩, -, X20, ⟨Lc20, hQ20, l20, y20, z20⟩, st20⟩ := Jvm.LawKit.callS X hx (y := (⟨"com/example/syndic/syndic/input/AmountsIsWrittenPinLaw", "dot", "(CII)I"⟩ : MethodName)) hown (mvT hZ (hw _ (List.mem_of_getElem? (i := 42) rfl))) (mvT hZ (hw _ (List.mem_of_getElem? (i := 43) rfl))) (mvT hZ (hw _ (List.mem_of_getElem? (i := 3) rfl))) (mvT hZ (hw _ (List.mem_of_getElem? (i := 44) rfl))) (by decide) (backOf (W := 0) (rmDT l Z a0 hw [] c0 (0 : Int32) (Int32.ofNat n) hS n0 ZS) hZ (hw _ (List.mem_of_getElem? (i := 44) rfl)) (hw _ (List.mem_of_getElem? (i := 3) rfl)) (by decide) (by decide)) (g := (mkF m 152 #[.val (.int ya0), .val (.int ya1), .val (.int ya2), .val (.int ya3), .val (.int ya4), .val (.int ya5), .val (.ref b1), .val (.ref b17), .val (.int (Int32.ofNat n)), .unset, .val (.int ok), .unset] [(.int (Int32.ofNat n)), (.int (0 : Int32)), (.int c0)])) rfl (by rw [hml]; rfl) (argsL := [(.int c0), (.int (0 : Int32)), (.int (Int32.ofNat n))]) (rest := []) (lenOf pd_18 rfl) rfl (by show 2 * 0 + _ ≤ _; exact Nat.le_of_eq rfl) (hb hby at_152) (fun _ _ => ⟨rfl, eT, (by decide : 4 + 0 ≤ _), (by decide : 57 + 0 ≤ _)⟩)
    dsimp only [Pt.U, Pt.locs, Pt.cells, Pt.slots] at X20 l20 y20 z20 st20 hQ20
    rw [l20, y20, z20] at X20
    change Stand p l e _ _ m _ below meth c T20 _ 4 57 at X20
    obtain ⟨rfl, N20q, eh20⟩ := hQ20
    have N20 := Fr.app N N20q
    refine Goes.on (T' := T20) (g' := (mkF m 155 #[.val (.int ya0), .val (.int ya1), .val (.int ya2), .val (.int ya3), .val (.int ya4), .val (.int ya5), .val (.ref b1), .val (.ref b17), .val (.int (Int32.ofNat n)), .unset, .val (.int ok), .unset] [(.int (own_dot c0 (0 : Int32) (Int32.ofNat n)))])) ?_ st20
    refine Goes.on (T' := T20) (g' := (mkF m 157 #[.val (.int ya0), .val (.int ya1), .val (.int ya2), .val (.int ya3), .val (.int ya4), .val (.int ya5), .val (.ref b1), .val (.ref b17), .val (.int (Int32.ofNat n)), .unset, .val (.int ok), .unset] [(.ref b1), (.int (own_dot c0 (0 : Int32) (Int32.ofNat n)))])) ?_ (fun t_ k_ => XS.aload X20.here hx rfl (hb hby at_155) rfl rfl k_)
    refine Goes.on (T' := T20) (g' := (mkF m 158 #[.val (.int ya0), .val (.int ya1), .val (.int ya2), .val (.int ya3), .val (.int ya4), .val (.int ya5), .val (.ref b1), .val (.ref b17), .val (.int (Int32.ofNat n)), .unset, .val (.int ok), .unset] [(.int (1 : Int32)), (.ref b1), (.int (own_dot c0 (0 : Int32) (Int32.ofNat n)))])) ?_ (fun t_ k_ => XS.iconst X20.here hx rfl (hb hby at_157) k_)
    refine Goes.on (T' := T20) (g' := (mkF m 159 #[.val (.int ya0), .val (.int ya1), .val (.int ya2), .val (.int ya3), .val (.int ya4), .val (.int ya5), .val (.ref b1), .val (.ref b17), .val (.int (Int32.ofNat n)), .unset, .val (.int ok), .unset] [(.int c1), (.int (own_dot c0 (0 : Int32) (Int32.ofNat n)))])) ?_ (X20.caload hx (j := (1 : Int32)) (v := (.int c1)) (by rw [eh20]; exact A1.1) (State.isArrayOf_alike hZ.alike A1.2.1) A1.2.2 (inb_of S1 ⟨by decide, by decide⟩) (by have q := H1 1 (by rw [S1]; decide); exact q) (g := (mkF m 158 #[.val (.int ya0), .val (.int ya1), .val (.int ya2), .val (.int ya3), .val (.int ya4), .val (.int ya5), .val (.ref b1), .val (.ref b17), .val (.int (Int32.ofNat n)), .unset, .val (.int ok), .unset] [(.int (1 : Int32)), (.ref b1), (.int (own_dot c0 (0 : Int32) (Int32.ofNat n)))])) rfl rfl (hb hby at_158))
    refine Goes.on (T' := T20) (g' := (mkF m 160 #[.val (.int ya0), .val (.int ya1), .val (.int ya2), .val (.int ya3), .val (.int ya4), .val (.int ya5), .val (.ref b1), .val (.ref b17), .val (.int (Int32.ofNat n)), .unset, .val (.int ok), .unset] [(.int (1 : Int32)), (.int c1), (.int (own_dot c0 (0 : Int32) (Int32.ofNat n)))])) ?_ (fun t_ k_ => XS.iconst X20.here hx rfl (hb hby at_159) k_)
    refine Goes.on (T' := T20) (g' := (mkF m 162 #[.val (.int ya0), .val (.int ya1), .val (.int ya2), .val (.int ya3), .val (.int ya4), .val (.int ya5), .val (.ref b1), .val (.ref b17), .val (.int (Int32.ofNat n)), .unset, .val (.int ok), .unset] [(.int (Int32.ofNat n)), (.int (1 : Int32)), (.int c1), (.int (own_dot c0 (0 : Int32) (Int32.ofNat n)))])) ?_ (fun t_ k_ => XS.iload X20.here hx rfl (hb hby at_160) rfl k_)
    obtain ⟨_, _, ⟨T21, Lq_21, kq_21, nq_21⟩, -, X21, ⟨Lc21, hQ21, l21, y21, z21⟩, st21⟩ := Jvm.LawKit.callS X20 hx (y := (⟨"com/example/syndic/syndic/input/AmountsIsWrittenPinLaw", "dot", "(CII)I"⟩ : MethodName)) hown (mvT hZ (hw _ (List.mem_of_getElem? (i := 42) rfl))) (mvT hZ (hw _ (List.mem_of_getElem? (i := 43) rfl))) (mvT hZ (hw _ (List.mem_of_getElem? (i := 3) rfl))) (mvT hZ (hw _ (List.mem_of_getElem? (i := 44) rfl))) (by decide) (backOf (W := 1) (rmDT l Z a0 hw [] c1 (1 : Int32) (Int32.ofNat n) hS n0 ZS) hZ (hw _ (List.mem_of_getElem? (i := 44) rfl)) (hw _ (List.mem_of_getElem? (i := 3) rfl)) (by decide) (by decide)) (g := (mkF m 162 #[.val (.int ya0), .val (.int ya1), .val (.int ya2), .val (.int ya3), .val (.int ya4), .val (.int ya5), .val (.ref b1), .val (.ref b17), .val (.int (Int32.ofNat n)), .unset, .val (.int ok), .unset] [(.int (Int32.ofNat n)), (.int (1 : Int32)), (.int c1), (.int (own_dot c0 (0 : Int32) (Int32.ofNat n)))])) rfl (by rw [hml]; rfl) (argsL := [(.int c1), (.int (1 : Int32)), (.int (Int32.ofNat n))]) (rest := [(.int (own_dot c0 (0 : Int32) (Int32.ofNat n)))]) (lenOf pd_18 rfl) rfl (by show 2 * 0 + _ ≤ _; exact Nat.le_of_eq rfl) (hb hby at_162) (fun _ _ => ⟨rfl, eh20, (by decide : 4 + 0 ≤ _), (by decide : 57 + 0 ≤ _)⟩)
    dsimp only [Pt.U, Pt.locs, Pt.cells, Pt.slots] at X21 l21 y21 z21 st21 hQ21
    rw [l21, y21, z21] at X21
    change Stand p l e _ _ m _ below meth c T21 _ 4 57 at X21
    obtain ⟨rfl, N21q, eh21⟩ := hQ21
    have N21 := Fr.app N20 N21q
    refine Goes.on (T' := T21) (g' := (mkF m 165 #[.val (.int ya0), .val (.int ya1), .val (.int ya2), .val (.int ya3), .val (.int ya4), .val (.int ya5), .val (.ref b1), .val (.ref b17), .val (.int (Int32.ofNat n)), .unset, .val (.int ok), .unset] [(.int (own_dot c1 (1 : Int32) (Int32.ofNat n))), (.int (own_dot c0 (0 : Int32) (Int32.ofNat n)))])) ?_ st21
    refine Goes.on (T' := T21) (g' := (mkF m 166 #[.val (.int ya0), .val (.int ya1), .val (.int ya2), .val (.int ya3), .val (.int ya4), .val (.int ya5), .val (.ref b1), .val (.ref b17), .val (.int (Int32.ofNat n)), .unset, .val (.int ok), .unset] [(.int ((own_dot c0 (0 : Int32) (Int32.ofNat n)) + (own_dot c1 (1 : Int32) (Int32.ofNat n))))])) ?_ (fun t_ k_ => XS.iadd X21.here hx rfl (hb hby at_165) rfl k_)
    refine Goes.on (T' := T21) (g' := (mkF m 168 #[.val (.int ya0), .val (.int ya1), .val (.int ya2), .val (.int ya3), .val (.int ya4), .val (.int ya5), .val (.ref b1), .val (.ref b17), .val (.int (Int32.ofNat n)), .unset, .val (.int ok), .unset] [(.ref b1), (.int ((own_dot c0 (0 : Int32) (Int32.ofNat n)) + (own_dot c1 (1 : Int32) (Int32.ofNat n))))])) ?_ (fun t_ k_ => XS.aload X21.here hx rfl (hb hby at_166) rfl rfl k_)
    refine Goes.on (T' := T21) (g' := (mkF m 169 #[.val (.int ya0), .val (.int ya1), .val (.int ya2), .val (.int ya3), .val (.int ya4), .val (.int ya5), .val (.ref b1), .val (.ref b17), .val (.int (Int32.ofNat n)), .unset, .val (.int ok), .unset] [(.int (2 : Int32)), (.ref b1), (.int ((own_dot c0 (0 : Int32) (Int32.ofNat n)) + (own_dot c1 (1 : Int32) (Int32.ofNat n))))])) ?_ (fun t_ k_ => XS.iconst X21.here hx rfl (hb hby at_168) k_)
    refine Goes.on (T' := T21) (g' := (mkF m 170 #[.val (.int ya0), .val (.int ya1), .val (.int ya2), .val (.int ya3), .val (.int ya4), .val (.int ya5), .val (.ref b1), .val (.ref b17), .val (.int (Int32.ofNat n)), .unset, .val (.int ok), .unset] [(.int c2), (.int ((own_dot c0 (0 : Int32) (Int32.ofNat n)) + (own_dot c1 (1 : Int32) (Int32.ofNat n))))])) ?_ (X21.caload hx (j := (2 : Int32)) (v := (.int c2)) (by rw [eh21]; exact A1.1) (State.isArrayOf_alike hZ.alike A1.2.1) A1.2.2 (inb_of S1 ⟨by decide, by decide⟩) (by have q := H1 2 (by rw [S1]; decide); exact q) (g := (mkF m 169 #[.val (.int ya0), .val (.int ya1), .val (.int ya2), .val (.int ya3), .val (.int ya4), .val (.int ya5), .val (.ref b1), .val (.ref b17), .val (.int (Int32.ofNat n)), .unset, .val (.int ok), .unset] [(.int (2 : Int32)), (.ref b1), (.int ((own_dot c0 (0 : Int32) (Int32.ofNat n)) + (own_dot c1 (1 : Int32) (Int32.ofNat n))))])) rfl rfl (hb hby at_169))
    refine Goes.on (T' := T21) (g' := (mkF m 171 #[.val (.int ya0), .val (.int ya1), .val (.int ya2), .val (.int ya3), .val (.int ya4), .val (.int ya5), .val (.ref b1), .val (.ref b17), .val (.int (Int32.ofNat n)), .unset, .val (.int ok), .unset] [(.int (2 : Int32)), (.int c2), (.int ((own_dot c0 (0 : Int32) (Int32.ofNat n)) + (own_dot c1 (1 : Int32) (Int32.ofNat n))))])) ?_ (fun t_ k_ => XS.iconst X21.here hx rfl (hb hby at_170) k_)
    refine Goes.on (T' := T21) (g' := (mkF m 173 #[.val (.int ya0), .val (.int ya1), .val (.int ya2), .val (.int ya3), .val (.int ya4), .val (.int ya5), .val (.ref b1), .val (.ref b17), .val (.int (Int32.ofNat n)), .unset, .val (.int ok), .unset] [(.int (Int32.ofNat n)), (.int (2 : Int32)), (.int c2), (.int ((own_dot c0 (0 : Int32) (Int32.ofNat n)) + (own_dot c1 (1 : Int32) (Int32.ofNat n))))])) ?_ (fun t_ k_ => XS.iload X21.here hx rfl (hb hby at_171) rfl k_)
    obtain ⟨_, _, ⟨T22, Lq_22, kq_22, nq_22⟩, -, X22, ⟨Lc22, hQ22, l22, y22, z22⟩, st22⟩ := Jvm.LawKit.callS X21 hx (y := (⟨"com/example/syndic/syndic/input/AmountsIsWrittenPinLaw", "dot", "(CII)I"⟩ : MethodName)) hown (mvT hZ (hw _ (List.mem_of_getElem? (i := 42) rfl))) (mvT hZ (hw _ (List.mem_of_getElem? (i := 43) rfl))) (mvT hZ (hw _ (List.mem_of_getElem? (i := 3) rfl))) (mvT hZ (hw _ (List.mem_of_getElem? (i := 44) rfl))) (by decide) (backOf (W := 1) (rmDT l Z a0 hw [] c2 (2 : Int32) (Int32.ofNat n) hS n0 ZS) hZ (hw _ (List.mem_of_getElem? (i := 44) rfl)) (hw _ (List.mem_of_getElem? (i := 3) rfl)) (by decide) (by decide)) (g := (mkF m 173 #[.val (.int ya0), .val (.int ya1), .val (.int ya2), .val (.int ya3), .val (.int ya4), .val (.int ya5), .val (.ref b1), .val (.ref b17), .val (.int (Int32.ofNat n)), .unset, .val (.int ok), .unset] [(.int (Int32.ofNat n)), (.int (2 : Int32)), (.int c2), (.int ((own_dot c0 (0 : Int32) (Int32.ofNat n)) + (own_dot c1 (1 : Int32) (Int32.ofNat n))))])) rfl (by rw [hml]; rfl) (argsL := [(.int c2), (.int (2 : Int32)), (.int (Int32.ofNat n))]) (rest := [(.int ((own_dot c0 (0 : Int32) (Int32.ofNat n)) + (own_dot c1 (1 : Int32) (Int32.ofNat n))))]) (lenOf pd_18 rfl) rfl (by show 2 * 0 + _ ≤ _; exact Nat.le_of_eq rfl) (hb hby at_173) (fun _ _ => ⟨rfl, eh21, (by decide : 4 + 0 ≤ _), (by decide : 57 + 0 ≤ _)⟩)
    dsimp only [Pt.U, Pt.locs, Pt.cells, Pt.slots] at X22 l22 y22 z22 st22 hQ22
    rw [l22, y22, z22] at X22
    change Stand p l e _ _ m _ below meth c T22 _ 4 57 at X22
    obtain ⟨rfl, N22q, eh22⟩ := hQ22
    have N22 := Fr.app N21 N22q
    refine Goes.on (T' := T22) (g' := (mkF m 176 #[.val (.int ya0), .val (.int ya1), .val (.int ya2), .val (.int ya3), .val (.int ya4), .val (.int ya5), .val (.ref b1), .val (.ref b17), .val (.int (Int32.ofNat n)), .unset, .val (.int ok), .unset] [(.int (own_dot c2 (2 : Int32) (Int32.ofNat n))), (.int ((own_dot c0 (0 : Int32) (Int32.ofNat n)) + (own_dot c1 (1 : Int32) (Int32.ofNat n))))])) ?_ st22
    refine Goes.on (T' := T22) (g' := (mkF m 177 #[.val (.int ya0), .val (.int ya1), .val (.int ya2), .val (.int ya3), .val (.int ya4), .val (.int ya5), .val (.ref b1), .val (.ref b17), .val (.int (Int32.ofNat n)), .unset, .val (.int ok), .unset] [(.int (((own_dot c0 (0 : Int32) (Int32.ofNat n)) + (own_dot c1 (1 : Int32) (Int32.ofNat n))) + (own_dot c2 (2 : Int32) (Int32.ofNat n))))])) ?_ (fun t_ k_ => XS.iadd X22.here hx rfl (hb hby at_176) rfl k_)
    refine Goes.on (T' := T22) (g' := (mkF m 179 #[.val (.int ya0), .val (.int ya1), .val (.int ya2), .val (.int ya3), .val (.int ya4), .val (.int ya5), .val (.ref b1), .val (.ref b17), .val (.int (Int32.ofNat n)), .unset, .val (.int ok), .unset] [(.ref b1), (.int (((own_dot c0 (0 : Int32) (Int32.ofNat n)) + (own_dot c1 (1 : Int32) (Int32.ofNat n))) + (own_dot c2 (2 : Int32) (Int32.ofNat n))))])) ?_ (fun t_ k_ => XS.aload X22.here hx rfl (hb hby at_177) rfl rfl k_)
    refine Goes.on (T' := T22) (g' := (mkF m 180 #[.val (.int ya0), .val (.int ya1), .val (.int ya2), .val (.int ya3), .val (.int ya4), .val (.int ya5), .val (.ref b1), .val (.ref b17), .val (.int (Int32.ofNat n)), .unset, .val (.int ok), .unset] [(.int (3 : Int32)), (.ref b1), (.int (((own_dot c0 (0 : Int32) (Int32.ofNat n)) + (own_dot c1 (1 : Int32) (Int32.ofNat n))) + (own_dot c2 (2 : Int32) (Int32.ofNat n))))])) ?_ (fun t_ k_ => XS.iconst X22.here hx rfl (hb hby at_179) k_)
    refine Goes.on (T' := T22) (g' := (mkF m 181 #[.val (.int ya0), .val (.int ya1), .val (.int ya2), .val (.int ya3), .val (.int ya4), .val (.int ya5), .val (.ref b1), .val (.ref b17), .val (.int (Int32.ofNat n)), .unset, .val (.int ok), .unset] [(.int c3), (.int (((own_dot c0 (0 : Int32) (Int32.ofNat n)) + (own_dot c1 (1 : Int32) (Int32.ofNat n))) + (own_dot c2 (2 : Int32) (Int32.ofNat n))))])) ?_ (X22.caload hx (j := (3 : Int32)) (v := (.int c3)) (by rw [eh22]; exact A1.1) (State.isArrayOf_alike hZ.alike A1.2.1) A1.2.2 (inb_of S1 ⟨by decide, by decide⟩) (by have q := H1 3 (by rw [S1]; decide); exact q) (g := (mkF m 180 #[.val (.int ya0), .val (.int ya1), .val (.int ya2), .val (.int ya3), .val (.int ya4), .val (.int ya5), .val (.ref b1), .val (.ref b17), .val (.int (Int32.ofNat n)), .unset, .val (.int ok), .unset] [(.int (3 : Int32)), (.ref b1), (.int (((own_dot c0 (0 : Int32) (Int32.ofNat n)) + (own_dot c1 (1 : Int32) (Int32.ofNat n))) + (own_dot c2 (2 : Int32) (Int32.ofNat n))))])) rfl rfl (hb hby at_180))
    refine Goes.on (T' := T22) (g' := (mkF m 182 #[.val (.int ya0), .val (.int ya1), .val (.int ya2), .val (.int ya3), .val (.int ya4), .val (.int ya5), .val (.ref b1), .val (.ref b17), .val (.int (Int32.ofNat n)), .unset, .val (.int ok), .unset] [(.int (3 : Int32)), (.int c3), (.int (((own_dot c0 (0 : Int32) (Int32.ofNat n)) + (own_dot c1 (1 : Int32) (Int32.ofNat n))) + (own_dot c2 (2 : Int32) (Int32.ofNat n))))])) ?_ (fun t_ k_ => XS.iconst X22.here hx rfl (hb hby at_181) k_)
    refine Goes.on (T' := T22) (g' := (mkF m 184 #[.val (.int ya0), .val (.int ya1), .val (.int ya2), .val (.int ya3), .val (.int ya4), .val (.int ya5), .val (.ref b1), .val (.ref b17), .val (.int (Int32.ofNat n)), .unset, .val (.int ok), .unset] [(.int (Int32.ofNat n)), (.int (3 : Int32)), (.int c3), (.int (((own_dot c0 (0 : Int32) (Int32.ofNat n)) + (own_dot c1 (1 : Int32) (Int32.ofNat n))) + (own_dot c2 (2 : Int32) (Int32.ofNat n))))])) ?_ (fun t_ k_ => XS.iload X22.here hx rfl (hb hby at_182) rfl k_)
    obtain ⟨_, _, ⟨T23, Lq_23, kq_23, nq_23⟩, -, X23, ⟨Lc23, hQ23, l23, y23, z23⟩, st23⟩ := Jvm.LawKit.callS X22 hx (y := (⟨"com/example/syndic/syndic/input/AmountsIsWrittenPinLaw", "dot", "(CII)I"⟩ : MethodName)) hown (mvT hZ (hw _ (List.mem_of_getElem? (i := 42) rfl))) (mvT hZ (hw _ (List.mem_of_getElem? (i := 43) rfl))) (mvT hZ (hw _ (List.mem_of_getElem? (i := 3) rfl))) (mvT hZ (hw _ (List.mem_of_getElem? (i := 44) rfl))) (by decide) (backOf (W := 1) (rmDT l Z a0 hw [] c3 (3 : Int32) (Int32.ofNat n) hS n0 ZS) hZ (hw _ (List.mem_of_getElem? (i := 44) rfl)) (hw _ (List.mem_of_getElem? (i := 3) rfl)) (by decide) (by decide)) (g := (mkF m 184 #[.val (.int ya0), .val (.int ya1), .val (.int ya2), .val (.int ya3), .val (.int ya4), .val (.int ya5), .val (.ref b1), .val (.ref b17), .val (.int (Int32.ofNat n)), .unset, .val (.int ok), .unset] [(.int (Int32.ofNat n)), (.int (3 : Int32)), (.int c3), (.int (((own_dot c0 (0 : Int32) (Int32.ofNat n)) + (own_dot c1 (1 : Int32) (Int32.ofNat n))) + (own_dot c2 (2 : Int32) (Int32.ofNat n))))])) rfl (by rw [hml]; rfl) (argsL := [(.int c3), (.int (3 : Int32)), (.int (Int32.ofNat n))]) (rest := [(.int (((own_dot c0 (0 : Int32) (Int32.ofNat n)) + (own_dot c1 (1 : Int32) (Int32.ofNat n))) + (own_dot c2 (2 : Int32) (Int32.ofNat n))))]) (lenOf pd_18 rfl) rfl (by show 2 * 0 + _ ≤ _; exact Nat.le_of_eq rfl) (hb hby at_184) (fun _ _ => ⟨rfl, eh22, (by decide : 4 + 0 ≤ _), (by decide : 57 + 0 ≤ _)⟩)
    dsimp only [Pt.U, Pt.locs, Pt.cells, Pt.slots] at X23 l23 y23 z23 st23 hQ23
    rw [l23, y23, z23] at X23
    change Stand p l e _ _ m _ below meth c T23 _ 4 57 at X23
    obtain ⟨rfl, N23q, eh23⟩ := hQ23
    have N23 := Fr.app N22 N23q
    refine Goes.on (T' := T23) (g' := (mkF m 187 #[.val (.int ya0), .val (.int ya1), .val (.int ya2), .val (.int ya3), .val (.int ya4), .val (.int ya5), .val (.ref b1), .val (.ref b17), .val (.int (Int32.ofNat n)), .unset, .val (.int ok), .unset] [(.int (own_dot c3 (3 : Int32) (Int32.ofNat n))), (.int (((own_dot c0 (0 : Int32) (Int32.ofNat n)) + (own_dot c1 (1 : Int32) (Int32.ofNat n))) + (own_dot c2 (2 : Int32) (Int32.ofNat n))))])) ?_ st23
    refine Goes.on (T' := T23) (g' := (mkF m 188 #[.val (.int ya0), .val (.int ya1), .val (.int ya2), .val (.int ya3), .val (.int ya4), .val (.int ya5), .val (.ref b1), .val (.ref b17), .val (.int (Int32.ofNat n)), .unset, .val (.int ok), .unset] [(.int ((((own_dot c0 (0 : Int32) (Int32.ofNat n)) + (own_dot c1 (1 : Int32) (Int32.ofNat n))) + (own_dot c2 (2 : Int32) (Int32.ofNat n))) + (own_dot c3 (3 : Int32) (Int32.ofNat n))))])) ?_ (fun t_ k_ => XS.iadd X23.here hx rfl (hb hby at_187) rfl k_)
    refine Goes.on (T' := T23) (g' := (mkF m 190 #[.val (.int ya0), .val (.int ya1), .val (.int ya2), .val (.int ya3), .val (.int ya4), .val (.int ya5), .val (.ref b1), .val (.ref b17), .val (.int (Int32.ofNat n)), .unset, .val (.int ok), .unset] [(.ref b1), (.int ((((own_dot c0 (0 : Int32) (Int32.ofNat n)) + (own_dot c1 (1 : Int32) (Int32.ofNat n))) + (own_dot c2 (2 : Int32) (Int32.ofNat n))) + (own_dot c3 (3 : Int32) (Int32.ofNat n))))])) ?_ (fun t_ k_ => XS.aload X23.here hx rfl (hb hby at_188) rfl rfl k_)
    refine Goes.on (T' := T23) (g' := (mkF m 191 #[.val (.int ya0), .val (.int ya1), .val (.int ya2), .val (.int ya3), .val (.int ya4), .val (.int ya5), .val (.ref b1), .val (.ref b17), .val (.int (Int32.ofNat n)), .unset, .val (.int ok), .unset] [(.int (4 : Int32)), (.ref b1), (.int ((((own_dot c0 (0 : Int32) (Int32.ofNat n)) + (own_dot c1 (1 : Int32) (Int32.ofNat n))) + (own_dot c2 (2 : Int32) (Int32.ofNat n))) + (own_dot c3 (3 : Int32) (Int32.ofNat n))))])) ?_ (fun t_ k_ => XS.iconst X23.here hx rfl (hb hby at_190) k_)
    refine Goes.on (T' := T23) (g' := (mkF m 192 #[.val (.int ya0), .val (.int ya1), .val (.int ya2), .val (.int ya3), .val (.int ya4), .val (.int ya5), .val (.ref b1), .val (.ref b17), .val (.int (Int32.ofNat n)), .unset, .val (.int ok), .unset] [(.int c4), (.int ((((own_dot c0 (0 : Int32) (Int32.ofNat n)) + (own_dot c1 (1 : Int32) (Int32.ofNat n))) + (own_dot c2 (2 : Int32) (Int32.ofNat n))) + (own_dot c3 (3 : Int32) (Int32.ofNat n))))])) ?_ (X23.caload hx (j := (4 : Int32)) (v := (.int c4)) (by rw [eh23]; exact A1.1) (State.isArrayOf_alike hZ.alike A1.2.1) A1.2.2 (inb_of S1 ⟨by decide, by decide⟩) (by have q := H1 4 (by rw [S1]; decide); exact q) (g := (mkF m 191 #[.val (.int ya0), .val (.int ya1), .val (.int ya2), .val (.int ya3), .val (.int ya4), .val (.int ya5), .val (.ref b1), .val (.ref b17), .val (.int (Int32.ofNat n)), .unset, .val (.int ok), .unset] [(.int (4 : Int32)), (.ref b1), (.int ((((own_dot c0 (0 : Int32) (Int32.ofNat n)) + (own_dot c1 (1 : Int32) (Int32.ofNat n))) + (own_dot c2 (2 : Int32) (Int32.ofNat n))) + (own_dot c3 (3 : Int32) (Int32.ofNat n))))])) rfl rfl (hb hby at_191))
    refine Goes.on (T' := T23) (g' := (mkF m 193 #[.val (.int ya0), .val (.int ya1), .val (.int ya2), .val (.int ya3), .val (.int ya4), .val (.int ya5), .val (.ref b1), .val (.ref b17), .val (.int (Int32.ofNat n)), .unset, .val (.int ok), .unset] [(.int (4 : Int32)), (.int c4), (.int ((((own_dot c0 (0 : Int32) (Int32.ofNat n)) + (own_dot c1 (1 : Int32) (Int32.ofNat n))) + (own_dot c2 (2 : Int32) (Int32.ofNat n))) + (own_dot c3 (3 : Int32) (Int32.ofNat n))))])) ?_ (fun t_ k_ => XS.iconst X23.here hx rfl (hb hby at_192) k_)
    refine Goes.on (T' := T23) (g' := (mkF m 195 #[.val (.int ya0), .val (.int ya1), .val (.int ya2), .val (.int ya3), .val (.int ya4), .val (.int ya5), .val (.ref b1), .val (.ref b17), .val (.int (Int32.ofNat n)), .unset, .val (.int ok), .unset] [(.int (Int32.ofNat n)), (.int (4 : Int32)), (.int c4), (.int ((((own_dot c0 (0 : Int32) (Int32.ofNat n)) + (own_dot c1 (1 : Int32) (Int32.ofNat n))) + (own_dot c2 (2 : Int32) (Int32.ofNat n))) + (own_dot c3 (3 : Int32) (Int32.ofNat n))))])) ?_ (fun t_ k_ => XS.iload X23.here hx rfl (hb hby at_193) rfl k_)
    obtain ⟨_, _, ⟨T24, Lq_24, kq_24, nq_24⟩, -, X24, ⟨Lc24, hQ24, l24, y24, z24⟩, st24⟩ := Jvm.LawKit.callS X23 hx (y := (⟨"com/example/syndic/syndic/input/AmountsIsWrittenPinLaw", "dot", "(CII)I"⟩ : MethodName)) hown (mvT hZ (hw _ (List.mem_of_getElem? (i := 42) rfl))) (mvT hZ (hw _ (List.mem_of_getElem? (i := 43) rfl))) (mvT hZ (hw _ (List.mem_of_getElem? (i := 3) rfl))) (mvT hZ (hw _ (List.mem_of_getElem? (i := 44) rfl))) (by decide) (backOf (W := 1) (rmDT l Z a0 hw [] c4 (4 : Int32) (Int32.ofNat n) hS n0 ZS) hZ (hw _ (List.mem_of_getElem? (i := 44) rfl)) (hw _ (List.mem_of_getElem? (i := 3) rfl)) (by decide) (by decide)) (g := (mkF m 195 #[.val (.int ya0), .val (.int ya1), .val (.int ya2), .val (.int ya3), .val (.int ya4), .val (.int ya5), .val (.ref b1), .val (.ref b17), .val (.int (Int32.ofNat n)), .unset, .val (.int ok), .unset] [(.int (Int32.ofNat n)), (.int (4 : Int32)), (.int c4), (.int ((((own_dot c0 (0 : Int32) (Int32.ofNat n)) + (own_dot c1 (1 : Int32) (Int32.ofNat n))) + (own_dot c2 (2 : Int32) (Int32.ofNat n))) + (own_dot c3 (3 : Int32) (Int32.ofNat n))))])) rfl (by rw [hml]; rfl) (argsL := [(.int c4), (.int (4 : Int32)), (.int (Int32.ofNat n))]) (rest := [(.int ((((own_dot c0 (0 : Int32) (Int32.ofNat n)) + (own_dot c1 (1 : Int32) (Int32.ofNat n))) + (own_dot c2 (2 : Int32) (Int32.ofNat n))) + (own_dot c3 (3 : Int32) (Int32.ofNat n))))]) (lenOf pd_18 rfl) rfl (by show 2 * 0 + _ ≤ _; exact Nat.le_of_eq rfl) (hb hby at_195) (fun _ _ => ⟨rfl, eh23, (by decide : 4 + 0 ≤ _), (by decide : 57 + 0 ≤ _)⟩)
    dsimp only [Pt.U, Pt.locs, Pt.cells, Pt.slots] at X24 l24 y24 z24 st24 hQ24
    rw [l24, y24, z24] at X24
    change Stand p l e _ _ m _ below meth c T24 _ 4 57 at X24
    obtain ⟨rfl, N24q, eh24⟩ := hQ24
    have N24 := Fr.app N23 N24q
    refine Goes.on (T' := T24) (g' := (mkF m 198 #[.val (.int ya0), .val (.int ya1), .val (.int ya2), .val (.int ya3), .val (.int ya4), .val (.int ya5), .val (.ref b1), .val (.ref b17), .val (.int (Int32.ofNat n)), .unset, .val (.int ok), .unset] [(.int (own_dot c4 (4 : Int32) (Int32.ofNat n))), (.int ((((own_dot c0 (0 : Int32) (Int32.ofNat n)) + (own_dot c1 (1 : Int32) (Int32.ofNat n))) + (own_dot c2 (2 : Int32) (Int32.ofNat n))) + (own_dot c3 (3 : Int32) (Int32.ofNat n))))])) ?_ st24
    refine Goes.on (T' := T24) (g' := (mkF m 199 #[.val (.int ya0), .val (.int ya1), .val (.int ya2), .val (.int ya3), .val (.int ya4), .val (.int ya5), .val (.ref b1), .val (.ref b17), .val (.int (Int32.ofNat n)), .unset, .val (.int ok), .unset] [(.int (((((own_dot c0 (0 : Int32) (Int32.ofNat n)) + (own_dot c1 (1 : Int32) (Int32.ofNat n))) + (own_dot c2 (2 : Int32) (Int32.ofNat n))) + (own_dot c3 (3 : Int32) (Int32.ofNat n))) + (own_dot c4 (4 : Int32) (Int32.ofNat n))))])) ?_ (fun t_ k_ => XS.iadd X24.here hx rfl (hb hby at_198) rfl k_)
    refine Goes.on (T' := T24) (g' := (mkF m 201 #[.val (.int ya0), .val (.int ya1), .val (.int ya2), .val (.int ya3), .val (.int ya4), .val (.int ya5), .val (.ref b1), .val (.ref b17), .val (.int (Int32.ofNat n)), .unset, .val (.int ok), .val (.int (((((own_dot c0 (0 : Int32) (Int32.ofNat n)) + (own_dot c1 (1 : Int32) (Int32.ofNat n))) + (own_dot c2 (2 : Int32) (Int32.ofNat n))) + (own_dot c3 (3 : Int32) (Int32.ofNat n))) + (own_dot c4 (4 : Int32) (Int32.ofNat n))))] [])) ?_ (fun t_ k_ => XS.istore X24.here hx rfl (hb hby at_199) rfl (l' := #[.val (.int ya0), .val (.int ya1), .val (.int ya2), .val (.int ya3), .val (.int ya4), .val (.int ya5), .val (.ref b1), .val (.ref b17), .val (.int (Int32.ofNat n)), .unset, .val (.int ok), .val (.int (((((own_dot c0 (0 : Int32) (Int32.ofNat n)) + (own_dot c1 (1 : Int32) (Int32.ofNat n))) + (own_dot c2 (2 : Int32) (Int32.ofNat n))) + (own_dot c3 (3 : Int32) (Int32.ofNat n))) + (own_dot c4 (4 : Int32) (Int32.ofNat n))))]) rfl k_)
    refine Goes.on (T' := T24) (g' := (mkF m 203 #[.val (.int ya0), .val (.int ya1), .val (.int ya2), .val (.int ya3), .val (.int ya4), .val (.int ya5), .val (.ref b1), .val (.ref b17), .val (.int (Int32.ofNat n)), .unset, .val (.int ok), .val (.int (((((own_dot c0 (0 : Int32) (Int32.ofNat n)) + (own_dot c1 (1 : Int32) (Int32.ofNat n))) + (own_dot c2 (2 : Int32) (Int32.ofNat n))) + (own_dot c3 (3 : Int32) (Int32.ofNat n))) + (own_dot c4 (4 : Int32) (Int32.ofNat n))))] [(.int ok)])) ?_ (fun t_ k_ => XS.iload X24.here hx rfl (hb hby at_201) rfl k_)
    refine Goes.ifP X24 hx rfl (pc0 := 203) (pc' := 239) rfl (hb hby at_203) rfl (by decide) (by decide) (P := ok = (0 : Int32)) (ifc_eq _ _) (fun hc203 => ?_) (fun hc203 => ?_)
    · show Goes p e below W T24 (mkF m 239 #[.val (.int ya0), .val (.int ya1), .val (.int ya2), .val (.int ya3), .val (.int ya4), .val (.int ya5), .val (.ref b1), .val (.ref b17), .val (.int (Int32.ofNat n)), .unset, .val (.int ok), .val (.int (((((own_dot c0 (0 : Int32) (Int32.ofNat n)) + (own_dot c1 (1 : Int32) (Int32.ofNat n))) + (own_dot c2 (2 : Int32) (Int32.ofNat n))) + (own_dot c3 (3 : Int32) (Int32.ofNat n))) + (own_dot c4 (4 : Int32) (Int32.ofNat n))))] [])
      refine Goes.on (T' := T24) (g' := (mkF m 240 #[.val (.int ya0), .val (.int ya1), .val (.int ya2), .val (.int ya3), .val (.int ya4), .val (.int ya5), .val (.ref b1), .val (.ref b17), .val (.int (Int32.ofNat n)), .unset, .val (.int ok), .val (.int (((((own_dot c0 (0 : Int32) (Int32.ofNat n)) + (own_dot c1 (1 : Int32) (Int32.ofNat n))) + (own_dot c2 (2 : Int32) (Int32.ofNat n))) + (own_dot c3 (3 : Int32) (Int32.ofNat n))) + (own_dot c4 (4 : Int32) (Int32.ofNat n))))] [(.int (0 : Int32))])) ?_ (fun t_ k_ => XS.iconst X24.here hx rfl (hb hby at_239) k_)
      refine Goes.on (T' := T24) (g' := (mkF m 242 #[.val (.int ya0), .val (.int ya1), .val (.int ya2), .val (.int ya3), .val (.int ya4), .val (.int ya5), .val (.ref b1), .val (.ref b17), .val (.int (Int32.ofNat n)), .val (.int (0 : Int32)), .val (.int ok), .val (.int (((((own_dot c0 (0 : Int32) (Int32.ofNat n)) + (own_dot c1 (1 : Int32) (Int32.ofNat n))) + (own_dot c2 (2 : Int32) (Int32.ofNat n))) + (own_dot c3 (3 : Int32) (Int32.ofNat n))) + (own_dot c4 (4 : Int32) (Int32.ofNat n))))] [])) ?_ (fun t_ k_ => XS.istore X24.here hx rfl (hb hby at_240) rfl (l' := #[.val (.int ya0), .val (.int ya1), .val (.int ya2), .val (.int ya3), .val (.int ya4), .val (.int ya5), .val (.ref b1), .val (.ref b17), .val (.int (Int32.ofNat n)), .val (.int (0 : Int32)), .val (.int ok), .val (.int (((((own_dot c0 (0 : Int32) (Int32.ofNat n)) + (own_dot c1 (1 : Int32) (Int32.ofNat n))) + (own_dot c2 (2 : Int32) (Int32.ofNat n))) + (own_dot c3 (3 : Int32) (Int32.ofNat n))) + (own_dot c4 (4 : Int32) (Int32.ofNat n))))]) rfl k_)
      exact K242 _ _ _ _ _ X24 eh24 N24 (by rw [← hok]; simp only [own_exp, eq_false hc64, eq_true hc203, if_true, if_false, ↓reduceIte, not_true_eq_false, not_false_eq_true, true_and, and_true, false_and, and_false, or_true, true_or, or_false, false_or, and_self, or_self])
    · show Goes p e below W T24 (mkF m 206 #[.val (.int ya0), .val (.int ya1), .val (.int ya2), .val (.int ya3), .val (.int ya4), .val (.int ya5), .val (.ref b1), .val (.ref b17), .val (.int (Int32.ofNat n)), .unset, .val (.int ok), .val (.int (((((own_dot c0 (0 : Int32) (Int32.ofNat n)) + (own_dot c1 (1 : Int32) (Int32.ofNat n))) + (own_dot c2 (2 : Int32) (Int32.ofNat n))) + (own_dot c3 (3 : Int32) (Int32.ofNat n))) + (own_dot c4 (4 : Int32) (Int32.ofNat n))))] [])
      refine Goes.on (T' := T24) (g' := (mkF m 208 #[.val (.int ya0), .val (.int ya1), .val (.int ya2), .val (.int ya3), .val (.int ya4), .val (.int ya5), .val (.ref b1), .val (.ref b17), .val (.int (Int32.ofNat n)), .unset, .val (.int ok), .val (.int (((((own_dot c0 (0 : Int32) (Int32.ofNat n)) + (own_dot c1 (1 : Int32) (Int32.ofNat n))) + (own_dot c2 (2 : Int32) (Int32.ofNat n))) + (own_dot c3 (3 : Int32) (Int32.ofNat n))) + (own_dot c4 (4 : Int32) (Int32.ofNat n))))] [(.int (((((own_dot c0 (0 : Int32) (Int32.ofNat n)) + (own_dot c1 (1 : Int32) (Int32.ofNat n))) + (own_dot c2 (2 : Int32) (Int32.ofNat n))) + (own_dot c3 (3 : Int32) (Int32.ofNat n))) + (own_dot c4 (4 : Int32) (Int32.ofNat n))))])) ?_ (fun t_ k_ => XS.iload X24.here hx rfl (hb hby at_206) rfl k_)
      refine Goes.on (T' := T24) (g' := (mkF m 209 #[.val (.int ya0), .val (.int ya1), .val (.int ya2), .val (.int ya3), .val (.int ya4), .val (.int ya5), .val (.ref b1), .val (.ref b17), .val (.int (Int32.ofNat n)), .unset, .val (.int ok), .val (.int (((((own_dot c0 (0 : Int32) (Int32.ofNat n)) + (own_dot c1 (1 : Int32) (Int32.ofNat n))) + (own_dot c2 (2 : Int32) (Int32.ofNat n))) + (own_dot c3 (3 : Int32) (Int32.ofNat n))) + (own_dot c4 (4 : Int32) (Int32.ofNat n))))] [(.int (1 : Int32)), (.int (((((own_dot c0 (0 : Int32) (Int32.ofNat n)) + (own_dot c1 (1 : Int32) (Int32.ofNat n))) + (own_dot c2 (2 : Int32) (Int32.ofNat n))) + (own_dot c3 (3 : Int32) (Int32.ofNat n))) + (own_dot c4 (4 : Int32) (Int32.ofNat n))))])) ?_ (fun t_ k_ => XS.iconst X24.here hx rfl (hb hby at_208) k_)
      refine Goes.icmpP X24 hx rfl (pc0 := 209) (pc' := 239) rfl (hb hby at_209) rfl (by decide) (by decide) (P := (1 : Int32) < (((((own_dot c0 (0 : Int32) (Int32.ofNat n)) + (own_dot c1 (1 : Int32) (Int32.ofNat n))) + (own_dot c2 (2 : Int32) (Int32.ofNat n))) + (own_dot c3 (3 : Int32) (Int32.ofNat n))) + (own_dot c4 (4 : Int32) (Int32.ofNat n)))) (cmp_gt _ _) (fun hc209 => ?_) (fun hc209 => ?_)
      · show Goes p e below W T24 (mkF m 239 #[.val (.int ya0), .val (.int ya1), .val (.int ya2), .val (.int ya3), .val (.int ya4), .val (.int ya5), .val (.ref b1), .val (.ref b17), .val (.int (Int32.ofNat n)), .unset, .val (.int ok), .val (.int (((((own_dot c0 (0 : Int32) (Int32.ofNat n)) + (own_dot c1 (1 : Int32) (Int32.ofNat n))) + (own_dot c2 (2 : Int32) (Int32.ofNat n))) + (own_dot c3 (3 : Int32) (Int32.ofNat n))) + (own_dot c4 (4 : Int32) (Int32.ofNat n))))] [])
        refine Goes.on (T' := T24) (g' := (mkF m 240 #[.val (.int ya0), .val (.int ya1), .val (.int ya2), .val (.int ya3), .val (.int ya4), .val (.int ya5), .val (.ref b1), .val (.ref b17), .val (.int (Int32.ofNat n)), .unset, .val (.int ok), .val (.int (((((own_dot c0 (0 : Int32) (Int32.ofNat n)) + (own_dot c1 (1 : Int32) (Int32.ofNat n))) + (own_dot c2 (2 : Int32) (Int32.ofNat n))) + (own_dot c3 (3 : Int32) (Int32.ofNat n))) + (own_dot c4 (4 : Int32) (Int32.ofNat n))))] [(.int (0 : Int32))])) ?_ (fun t_ k_ => XS.iconst X24.here hx rfl (hb hby at_239) k_)
        refine Goes.on (T' := T24) (g' := (mkF m 242 #[.val (.int ya0), .val (.int ya1), .val (.int ya2), .val (.int ya3), .val (.int ya4), .val (.int ya5), .val (.ref b1), .val (.ref b17), .val (.int (Int32.ofNat n)), .val (.int (0 : Int32)), .val (.int ok), .val (.int (((((own_dot c0 (0 : Int32) (Int32.ofNat n)) + (own_dot c1 (1 : Int32) (Int32.ofNat n))) + (own_dot c2 (2 : Int32) (Int32.ofNat n))) + (own_dot c3 (3 : Int32) (Int32.ofNat n))) + (own_dot c4 (4 : Int32) (Int32.ofNat n))))] [])) ?_ (fun t_ k_ => XS.istore X24.here hx rfl (hb hby at_240) rfl (l' := #[.val (.int ya0), .val (.int ya1), .val (.int ya2), .val (.int ya3), .val (.int ya4), .val (.int ya5), .val (.ref b1), .val (.ref b17), .val (.int (Int32.ofNat n)), .val (.int (0 : Int32)), .val (.int ok), .val (.int (((((own_dot c0 (0 : Int32) (Int32.ofNat n)) + (own_dot c1 (1 : Int32) (Int32.ofNat n))) + (own_dot c2 (2 : Int32) (Int32.ofNat n))) + (own_dot c3 (3 : Int32) (Int32.ofNat n))) + (own_dot c4 (4 : Int32) (Int32.ofNat n))))]) rfl k_)
        exact K242 _ _ _ _ _ X24 eh24 N24 (by rw [← hok]; simp only [own_exp, eq_false hc64, eq_false hc203, eq_true hc209, if_true, if_false, ↓reduceIte, not_true_eq_false, not_false_eq_true, true_and, and_true, false_and, and_false, or_true, true_or, or_false, false_or, and_self, or_self])
      · show Goes p e below W T24 (mkF m 212 #[.val (.int ya0), .val (.int ya1), .val (.int ya2), .val (.int ya3), .val (.int ya4), .val (.int ya5), .val (.ref b1), .val (.ref b17), .val (.int (Int32.ofNat n)), .unset, .val (.int ok), .val (.int (((((own_dot c0 (0 : Int32) (Int32.ofNat n)) + (own_dot c1 (1 : Int32) (Int32.ofNat n))) + (own_dot c2 (2 : Int32) (Int32.ofNat n))) + (own_dot c3 (3 : Int32) (Int32.ofNat n))) + (own_dot c4 (4 : Int32) (Int32.ofNat n))))] [])
        refine Goes.on (T' := T24) (g' := (mkF m 214 #[.val (.int ya0), .val (.int ya1), .val (.int ya2), .val (.int ya3), .val (.int ya4), .val (.int ya5), .val (.ref b1), .val (.ref b17), .val (.int (Int32.ofNat n)), .unset, .val (.int ok), .val (.int (((((own_dot c0 (0 : Int32) (Int32.ofNat n)) + (own_dot c1 (1 : Int32) (Int32.ofNat n))) + (own_dot c2 (2 : Int32) (Int32.ofNat n))) + (own_dot c3 (3 : Int32) (Int32.ofNat n))) + (own_dot c4 (4 : Int32) (Int32.ofNat n))))] [(.ref b1)])) ?_ (fun t_ k_ => XS.aload X24.here hx rfl (hb hby at_212) rfl rfl k_)
        refine Goes.on (T' := T24) (g' := (mkF m 215 #[.val (.int ya0), .val (.int ya1), .val (.int ya2), .val (.int ya3), .val (.int ya4), .val (.int ya5), .val (.ref b1), .val (.ref b17), .val (.int (Int32.ofNat n)), .unset, .val (.int ok), .val (.int (((((own_dot c0 (0 : Int32) (Int32.ofNat n)) + (own_dot c1 (1 : Int32) (Int32.ofNat n))) + (own_dot c2 (2 : Int32) (Int32.ofNat n))) + (own_dot c3 (3 : Int32) (Int32.ofNat n))) + (own_dot c4 (4 : Int32) (Int32.ofNat n))))] [(.int (0 : Int32)), (.ref b1)])) ?_ (fun t_ k_ => XS.iconst X24.here hx rfl (hb hby at_214) k_)
        refine Goes.on (T' := T24) (g' := (mkF m 216 #[.val (.int ya0), .val (.int ya1), .val (.int ya2), .val (.int ya3), .val (.int ya4), .val (.int ya5), .val (.ref b1), .val (.ref b17), .val (.int (Int32.ofNat n)), .unset, .val (.int ok), .val (.int (((((own_dot c0 (0 : Int32) (Int32.ofNat n)) + (own_dot c1 (1 : Int32) (Int32.ofNat n))) + (own_dot c2 (2 : Int32) (Int32.ofNat n))) + (own_dot c3 (3 : Int32) (Int32.ofNat n))) + (own_dot c4 (4 : Int32) (Int32.ofNat n))))] [(.int c0)])) ?_ (X24.caload hx (j := (0 : Int32)) (v := (.int c0)) (by rw [eh24]; exact A1.1) (State.isArrayOf_alike hZ.alike A1.2.1) A1.2.2 (inb_of S1 ⟨by decide, by decide⟩) (by have q := H1 0 (by rw [S1]; decide); exact q) (g := (mkF m 215 #[.val (.int ya0), .val (.int ya1), .val (.int ya2), .val (.int ya3), .val (.int ya4), .val (.int ya5), .val (.ref b1), .val (.ref b17), .val (.int (Int32.ofNat n)), .unset, .val (.int ok), .val (.int (((((own_dot c0 (0 : Int32) (Int32.ofNat n)) + (own_dot c1 (1 : Int32) (Int32.ofNat n))) + (own_dot c2 (2 : Int32) (Int32.ofNat n))) + (own_dot c3 (3 : Int32) (Int32.ofNat n))) + (own_dot c4 (4 : Int32) (Int32.ofNat n))))] [(.int (0 : Int32)), (.ref b1)])) rfl rfl (hb hby at_215))
        obtain ⟨_, _, ⟨T25, Lq_25, kq_25, nq_25⟩, -, X25, ⟨Lc25, hQ25, l25, y25, z25⟩, st25⟩ := Jvm.LawKit.callS X24 hx (y := (⟨"com/example/syndic/syndic/input/AmountsIsWrittenPinLaw", "digit", "(C)Z"⟩ : MethodName)) hown (mvT hZ (hw _ (List.mem_of_getElem? (i := 39) rfl))) (mvT hZ (hw _ (List.mem_of_getElem? (i := 40) rfl))) (mvT hZ (hw _ (List.mem_of_getElem? (i := 3) rfl))) (mvT hZ (hw _ (List.mem_of_getElem? (i := 41) rfl))) (by decide) (backOf (W := 0) (rmDG l Z a0 hw [] c0 hS n0 ZS) hZ (hw _ (List.mem_of_getElem? (i := 41) rfl)) (hw _ (List.mem_of_getElem? (i := 3) rfl)) (by decide) (by decide)) (g := (mkF m 216 #[.val (.int ya0), .val (.int ya1), .val (.int ya2), .val (.int ya3), .val (.int ya4), .val (.int ya5), .val (.ref b1), .val (.ref b17), .val (.int (Int32.ofNat n)), .unset, .val (.int ok), .val (.int (((((own_dot c0 (0 : Int32) (Int32.ofNat n)) + (own_dot c1 (1 : Int32) (Int32.ofNat n))) + (own_dot c2 (2 : Int32) (Int32.ofNat n))) + (own_dot c3 (3 : Int32) (Int32.ofNat n))) + (own_dot c4 (4 : Int32) (Int32.ofNat n))))] [(.int c0)])) rfl (by rw [hml]; rfl) (argsL := [(.int c0)]) (rest := []) (lenOf pd_13 rfl) rfl (by show 2 * 0 + _ ≤ _; exact Nat.le_of_eq rfl) (hb hby at_216) (fun _ _ => ⟨rfl, eh24, (by decide : 4 + 0 ≤ _), (by decide : 57 + 0 ≤ _)⟩)
        dsimp only [Pt.U, Pt.locs, Pt.cells, Pt.slots] at X25 l25 y25 z25 st25 hQ25
        rw [l25, y25, z25] at X25
        change Stand p l e _ _ m _ below meth c T25 _ 4 57 at X25
        obtain ⟨rfl, N25q, eh25⟩ := hQ25
        have N25 := Fr.app N24 N25q
        refine Goes.on (T' := T25) (g' := (mkF m 219 #[.val (.int ya0), .val (.int ya1), .val (.int ya2), .val (.int ya3), .val (.int ya4), .val (.int ya5), .val (.ref b1), .val (.ref b17), .val (.int (Int32.ofNat n)), .unset, .val (.int ok), .val (.int (((((own_dot c0 (0 : Int32) (Int32.ofNat n)) + (own_dot c1 (1 : Int32) (Int32.ofNat n))) + (own_dot c2 (2 : Int32) (Int32.ofNat n))) + (own_dot c3 (3 : Int32) (Int32.ofNat n))) + (own_dot c4 (4 : Int32) (Int32.ofNat n))))] [(.int (own_dig c0))])) ?_ st25
        refine Goes.ifP X25 hx rfl (pc0 := 219) (pc' := 239) rfl (hb hby at_219) rfl (by decide) (by decide) (P := (own_dig c0) = (0 : Int32)) (ifc_eq _ _) (fun hc219 => ?_) (fun hc219 => ?_)
        · show Goes p e below W T25 (mkF m 239 #[.val (.int ya0), .val (.int ya1), .val (.int ya2), .val (.int ya3), .val (.int ya4), .val (.int ya5), .val (.ref b1), .val (.ref b17), .val (.int (Int32.ofNat n)), .unset, .val (.int ok), .val (.int (((((own_dot c0 (0 : Int32) (Int32.ofNat n)) + (own_dot c1 (1 : Int32) (Int32.ofNat n))) + (own_dot c2 (2 : Int32) (Int32.ofNat n))) + (own_dot c3 (3 : Int32) (Int32.ofNat n))) + (own_dot c4 (4 : Int32) (Int32.ofNat n))))] [])
          refine Goes.on (T' := T25) (g' := (mkF m 240 #[.val (.int ya0), .val (.int ya1), .val (.int ya2), .val (.int ya3), .val (.int ya4), .val (.int ya5), .val (.ref b1), .val (.ref b17), .val (.int (Int32.ofNat n)), .unset, .val (.int ok), .val (.int (((((own_dot c0 (0 : Int32) (Int32.ofNat n)) + (own_dot c1 (1 : Int32) (Int32.ofNat n))) + (own_dot c2 (2 : Int32) (Int32.ofNat n))) + (own_dot c3 (3 : Int32) (Int32.ofNat n))) + (own_dot c4 (4 : Int32) (Int32.ofNat n))))] [(.int (0 : Int32))])) ?_ (fun t_ k_ => XS.iconst X25.here hx rfl (hb hby at_239) k_)
          refine Goes.on (T' := T25) (g' := (mkF m 242 #[.val (.int ya0), .val (.int ya1), .val (.int ya2), .val (.int ya3), .val (.int ya4), .val (.int ya5), .val (.ref b1), .val (.ref b17), .val (.int (Int32.ofNat n)), .val (.int (0 : Int32)), .val (.int ok), .val (.int (((((own_dot c0 (0 : Int32) (Int32.ofNat n)) + (own_dot c1 (1 : Int32) (Int32.ofNat n))) + (own_dot c2 (2 : Int32) (Int32.ofNat n))) + (own_dot c3 (3 : Int32) (Int32.ofNat n))) + (own_dot c4 (4 : Int32) (Int32.ofNat n))))] [])) ?_ (fun t_ k_ => XS.istore X25.here hx rfl (hb hby at_240) rfl (l' := #[.val (.int ya0), .val (.int ya1), .val (.int ya2), .val (.int ya3), .val (.int ya4), .val (.int ya5), .val (.ref b1), .val (.ref b17), .val (.int (Int32.ofNat n)), .val (.int (0 : Int32)), .val (.int ok), .val (.int (((((own_dot c0 (0 : Int32) (Int32.ofNat n)) + (own_dot c1 (1 : Int32) (Int32.ofNat n))) + (own_dot c2 (2 : Int32) (Int32.ofNat n))) + (own_dot c3 (3 : Int32) (Int32.ofNat n))) + (own_dot c4 (4 : Int32) (Int32.ofNat n))))]) rfl k_)
          exact K242 _ _ _ _ _ X25 eh25 N25 (by rw [← hok]; simp only [own_exp, eq_false hc64, eq_false hc203, eq_false hc209, eq_true hc219, if_true, if_false, ↓reduceIte, not_true_eq_false, not_false_eq_true, true_and, and_true, false_and, and_false, or_true, true_or, or_false, false_or, and_self, or_self])
        · show Goes p e below W T25 (mkF m 222 #[.val (.int ya0), .val (.int ya1), .val (.int ya2), .val (.int ya3), .val (.int ya4), .val (.int ya5), .val (.ref b1), .val (.ref b17), .val (.int (Int32.ofNat n)), .unset, .val (.int ok), .val (.int (((((own_dot c0 (0 : Int32) (Int32.ofNat n)) + (own_dot c1 (1 : Int32) (Int32.ofNat n))) + (own_dot c2 (2 : Int32) (Int32.ofNat n))) + (own_dot c3 (3 : Int32) (Int32.ofNat n))) + (own_dot c4 (4 : Int32) (Int32.ofNat n))))] [])
          refine Goes.on (T' := T25) (g' := (mkF m 224 #[.val (.int ya0), .val (.int ya1), .val (.int ya2), .val (.int ya3), .val (.int ya4), .val (.int ya5), .val (.ref b1), .val (.ref b17), .val (.int (Int32.ofNat n)), .unset, .val (.int ok), .val (.int (((((own_dot c0 (0 : Int32) (Int32.ofNat n)) + (own_dot c1 (1 : Int32) (Int32.ofNat n))) + (own_dot c2 (2 : Int32) (Int32.ofNat n))) + (own_dot c3 (3 : Int32) (Int32.ofNat n))) + (own_dot c4 (4 : Int32) (Int32.ofNat n))))] [(.ref b1)])) ?_ (fun t_ k_ => XS.aload X25.here hx rfl (hb hby at_222) rfl rfl k_)
          refine Goes.on (T' := T25) (g' := (mkF m 226 #[.val (.int ya0), .val (.int ya1), .val (.int ya2), .val (.int ya3), .val (.int ya4), .val (.int ya5), .val (.ref b1), .val (.ref b17), .val (.int (Int32.ofNat n)), .unset, .val (.int ok), .val (.int (((((own_dot c0 (0 : Int32) (Int32.ofNat n)) + (own_dot c1 (1 : Int32) (Int32.ofNat n))) + (own_dot c2 (2 : Int32) (Int32.ofNat n))) + (own_dot c3 (3 : Int32) (Int32.ofNat n))) + (own_dot c4 (4 : Int32) (Int32.ofNat n))))] [(.int (Int32.ofNat n)), (.ref b1)])) ?_ (fun t_ k_ => XS.iload X25.here hx rfl (hb hby at_224) rfl k_)
          refine Goes.on (T' := T25) (g' := (mkF m 227 #[.val (.int ya0), .val (.int ya1), .val (.int ya2), .val (.int ya3), .val (.int ya4), .val (.int ya5), .val (.ref b1), .val (.ref b17), .val (.int (Int32.ofNat n)), .unset, .val (.int ok), .val (.int (((((own_dot c0 (0 : Int32) (Int32.ofNat n)) + (own_dot c1 (1 : Int32) (Int32.ofNat n))) + (own_dot c2 (2 : Int32) (Int32.ofNat n))) + (own_dot c3 (3 : Int32) (Int32.ofNat n))) + (own_dot c4 (4 : Int32) (Int32.ofNat n))))] [(.int (1 : Int32)), (.int (Int32.ofNat n)), (.ref b1)])) ?_ (fun t_ k_ => XS.iconst X25.here hx rfl (hb hby at_226) k_)
          refine Goes.on (T' := T25) (g' := (mkF m 228 #[.val (.int ya0), .val (.int ya1), .val (.int ya2), .val (.int ya3), .val (.int ya4), .val (.int ya5), .val (.ref b1), .val (.ref b17), .val (.int (Int32.ofNat n)), .unset, .val (.int ok), .val (.int (((((own_dot c0 (0 : Int32) (Int32.ofNat n)) + (own_dot c1 (1 : Int32) (Int32.ofNat n))) + (own_dot c2 (2 : Int32) (Int32.ofNat n))) + (own_dot c3 (3 : Int32) (Int32.ofNat n))) + (own_dot c4 (4 : Int32) (Int32.ofNat n))))] [(.int ((Int32.ofNat n) - (1 : Int32))), (.ref b1)])) ?_ (fun t_ k_ => XS.isub X25.here hx rfl (hb hby at_227) rfl k_)
          have hn0_ : 0 < n := Nat.pos_of_ne_zero (fun r => hc64 (by rw [r]; rfl))
          rw [own_predi hn0_ hn5]
          have hcl : (Int32.ofNat (n - 1)).toNatClampNeg = n - 1 := own_clamp (by omega)
          have S5 : cA.slots.size = 5 := S1.trans (by decide)
          refine Goes.on (T' := T25) (g' := (mkF m 229 #[.val (.int ya0), .val (.int ya1), .val (.int ya2), .val (.int ya3), .val (.int ya4), .val (.int ya5), .val (.ref b1), .val (.ref b17), .val (.int (Int32.ofNat n)), .unset, .val (.int ok), .val (.int (((((own_dot c0 (0 : Int32) (Int32.ofNat n)) + (own_dot c1 (1 : Int32) (Int32.ofNat n))) + (own_dot c2 (2 : Int32) (Int32.ofNat n))) + (own_dot c3 (3 : Int32) (Int32.ofNat n))) + (own_dot c4 (4 : Int32) (Int32.ofNat n))))] [(.int ([c0, c1, c2, c3, c4].getD (n - 1) 0))])) ?_ (X25.caload hx (j := (Int32.ofNat (n - 1))) (v := (.int ([c0, c1, c2, c3, c4].getD (n - 1) 0))) (by rw [eh25]; exact A1.1) (State.isArrayOf_alike hZ.alike A1.2.1) A1.2.2 (by rw [hcl, S5]; intro r; rcases r with r | r; exact own_nn (by omega) r; omega) (by rw [hcl, H1 (n - 1) (by omega)]; exact congrArg some (own_bget [c0, c1, c2, c3, c4] (n - 1))) (g := (mkF m 228 #[.val (.int ya0), .val (.int ya1), .val (.int ya2), .val (.int ya3), .val (.int ya4), .val (.int ya5), .val (.ref b1), .val (.ref b17), .val (.int (Int32.ofNat n)), .unset, .val (.int ok), .val (.int (((((own_dot c0 (0 : Int32) (Int32.ofNat n)) + (own_dot c1 (1 : Int32) (Int32.ofNat n))) + (own_dot c2 (2 : Int32) (Int32.ofNat n))) + (own_dot c3 (3 : Int32) (Int32.ofNat n))) + (own_dot c4 (4 : Int32) (Int32.ofNat n))))] [(.int (Int32.ofNat (n - 1))), (.ref b1)])) rfl rfl (hb hby at_228))
          obtain ⟨_, _, ⟨T26, Lq_26, kq_26, nq_26⟩, -, X26, ⟨Lc26, hQ26, l26, y26, z26⟩, st26⟩ := Jvm.LawKit.callS X25 hx (y := (⟨"com/example/syndic/syndic/input/AmountsIsWrittenPinLaw", "digit", "(C)Z"⟩ : MethodName)) hown (mvT hZ (hw _ (List.mem_of_getElem? (i := 39) rfl))) (mvT hZ (hw _ (List.mem_of_getElem? (i := 40) rfl))) (mvT hZ (hw _ (List.mem_of_getElem? (i := 3) rfl))) (mvT hZ (hw _ (List.mem_of_getElem? (i := 41) rfl))) (by decide) (backOf (W := 0) (rmDG l Z a0 hw [] ([c0, c1, c2, c3, c4].getD (n - 1) 0) hS n0 ZS) hZ (hw _ (List.mem_of_getElem? (i := 41) rfl)) (hw _ (List.mem_of_getElem? (i := 3) rfl)) (by decide) (by decide)) (g := (mkF m 229 #[.val (.int ya0), .val (.int ya1), .val (.int ya2), .val (.int ya3), .val (.int ya4), .val (.int ya5), .val (.ref b1), .val (.ref b17), .val (.int (Int32.ofNat n)), .unset, .val (.int ok), .val (.int (((((own_dot c0 (0 : Int32) (Int32.ofNat n)) + (own_dot c1 (1 : Int32) (Int32.ofNat n))) + (own_dot c2 (2 : Int32) (Int32.ofNat n))) + (own_dot c3 (3 : Int32) (Int32.ofNat n))) + (own_dot c4 (4 : Int32) (Int32.ofNat n))))] [(.int ([c0, c1, c2, c3, c4].getD (n - 1) 0))])) rfl (by rw [hml]; rfl) (argsL := [(.int ([c0, c1, c2, c3, c4].getD (n - 1) 0))]) (rest := []) (lenOf pd_13 rfl) rfl (by show 2 * 0 + _ ≤ _; exact Nat.le_of_eq rfl) (hb hby at_229) (fun _ _ => ⟨rfl, eh25, (by decide : 4 + 0 ≤ _), (by decide : 57 + 0 ≤ _)⟩)
          dsimp only [Pt.U, Pt.locs, Pt.cells, Pt.slots] at X26 l26 y26 z26 st26 hQ26
          rw [l26, y26, z26] at X26
          change Stand p l e _ _ m _ below meth c T26 _ 4 57 at X26
          obtain ⟨rfl, N26q, eh26⟩ := hQ26
          have N26 := Fr.app N25 N26q
          refine Goes.on (T' := T26) (g' := (mkF m 232 #[.val (.int ya0), .val (.int ya1), .val (.int ya2), .val (.int ya3), .val (.int ya4), .val (.int ya5), .val (.ref b1), .val (.ref b17), .val (.int (Int32.ofNat n)), .unset, .val (.int ok), .val (.int (((((own_dot c0 (0 : Int32) (Int32.ofNat n)) + (own_dot c1 (1 : Int32) (Int32.ofNat n))) + (own_dot c2 (2 : Int32) (Int32.ofNat n))) + (own_dot c3 (3 : Int32) (Int32.ofNat n))) + (own_dot c4 (4 : Int32) (Int32.ofNat n))))] [(.int (own_dig ([c0, c1, c2, c3, c4].getD (n - 1) 0)))])) ?_ st26
          refine Goes.ifP X26 hx rfl (pc0 := 232) (pc' := 239) rfl (hb hby at_232) rfl (by decide) (by decide) (P := (own_dig ([c0, c1, c2, c3, c4].getD (n - 1) 0)) = (0 : Int32)) (ifc_eq _ _) (fun hc232 => ?_) (fun hc232 => ?_)
          · show Goes p e below W T26 (mkF m 239 #[.val (.int ya0), .val (.int ya1), .val (.int ya2), .val (.int ya3), .val (.int ya4), .val (.int ya5), .val (.ref b1), .val (.ref b17), .val (.int (Int32.ofNat n)), .unset, .val (.int ok), .val (.int (((((own_dot c0 (0 : Int32) (Int32.ofNat n)) + (own_dot c1 (1 : Int32) (Int32.ofNat n))) + (own_dot c2 (2 : Int32) (Int32.ofNat n))) + (own_dot c3 (3 : Int32) (Int32.ofNat n))) + (own_dot c4 (4 : Int32) (Int32.ofNat n))))] [])
            refine Goes.on (T' := T26) (g' := (mkF m 240 #[.val (.int ya0), .val (.int ya1), .val (.int ya2), .val (.int ya3), .val (.int ya4), .val (.int ya5), .val (.ref b1), .val (.ref b17), .val (.int (Int32.ofNat n)), .unset, .val (.int ok), .val (.int (((((own_dot c0 (0 : Int32) (Int32.ofNat n)) + (own_dot c1 (1 : Int32) (Int32.ofNat n))) + (own_dot c2 (2 : Int32) (Int32.ofNat n))) + (own_dot c3 (3 : Int32) (Int32.ofNat n))) + (own_dot c4 (4 : Int32) (Int32.ofNat n))))] [(.int (0 : Int32))])) ?_ (fun t_ k_ => XS.iconst X26.here hx rfl (hb hby at_239) k_)
            refine Goes.on (T' := T26) (g' := (mkF m 242 #[.val (.int ya0), .val (.int ya1), .val (.int ya2), .val (.int ya3), .val (.int ya4), .val (.int ya5), .val (.ref b1), .val (.ref b17), .val (.int (Int32.ofNat n)), .val (.int (0 : Int32)), .val (.int ok), .val (.int (((((own_dot c0 (0 : Int32) (Int32.ofNat n)) + (own_dot c1 (1 : Int32) (Int32.ofNat n))) + (own_dot c2 (2 : Int32) (Int32.ofNat n))) + (own_dot c3 (3 : Int32) (Int32.ofNat n))) + (own_dot c4 (4 : Int32) (Int32.ofNat n))))] [])) ?_ (fun t_ k_ => XS.istore X26.here hx rfl (hb hby at_240) rfl (l' := #[.val (.int ya0), .val (.int ya1), .val (.int ya2), .val (.int ya3), .val (.int ya4), .val (.int ya5), .val (.ref b1), .val (.ref b17), .val (.int (Int32.ofNat n)), .val (.int (0 : Int32)), .val (.int ok), .val (.int (((((own_dot c0 (0 : Int32) (Int32.ofNat n)) + (own_dot c1 (1 : Int32) (Int32.ofNat n))) + (own_dot c2 (2 : Int32) (Int32.ofNat n))) + (own_dot c3 (3 : Int32) (Int32.ofNat n))) + (own_dot c4 (4 : Int32) (Int32.ofNat n))))]) rfl k_)
            exact K242 _ _ _ _ _ X26 eh26 N26 (by rw [← hok]; simp only [own_exp, eq_false hc64, eq_false hc203, eq_false hc209, eq_false hc219, eq_true hc232, if_true, if_false, ↓reduceIte, not_true_eq_false, not_false_eq_true, true_and, and_true, false_and, and_false, or_true, true_or, or_false, false_or, and_self, or_self])
          · show Goes p e below W T26 (mkF m 235 #[.val (.int ya0), .val (.int ya1), .val (.int ya2), .val (.int ya3), .val (.int ya4), .val (.int ya5), .val (.ref b1), .val (.ref b17), .val (.int (Int32.ofNat n)), .unset, .val (.int ok), .val (.int (((((own_dot c0 (0 : Int32) (Int32.ofNat n)) + (own_dot c1 (1 : Int32) (Int32.ofNat n))) + (own_dot c2 (2 : Int32) (Int32.ofNat n))) + (own_dot c3 (3 : Int32) (Int32.ofNat n))) + (own_dot c4 (4 : Int32) (Int32.ofNat n))))] [])
            refine Goes.on (T' := T26) (g' := (mkF m 236 #[.val (.int ya0), .val (.int ya1), .val (.int ya2), .val (.int ya3), .val (.int ya4), .val (.int ya5), .val (.ref b1), .val (.ref b17), .val (.int (Int32.ofNat n)), .unset, .val (.int ok), .val (.int (((((own_dot c0 (0 : Int32) (Int32.ofNat n)) + (own_dot c1 (1 : Int32) (Int32.ofNat n))) + (own_dot c2 (2 : Int32) (Int32.ofNat n))) + (own_dot c3 (3 : Int32) (Int32.ofNat n))) + (own_dot c4 (4 : Int32) (Int32.ofNat n))))] [(.int (1 : Int32))])) ?_ (fun t_ k_ => XS.iconst X26.here hx rfl (hb hby at_235) k_)
            refine Goes.on (T' := T26) (g' := (mkF m 240 #[.val (.int ya0), .val (.int ya1), .val (.int ya2), .val (.int ya3), .val (.int ya4), .val (.int ya5), .val (.ref b1), .val (.ref b17), .val (.int (Int32.ofNat n)), .unset, .val (.int ok), .val (.int (((((own_dot c0 (0 : Int32) (Int32.ofNat n)) + (own_dot c1 (1 : Int32) (Int32.ofNat n))) + (own_dot c2 (2 : Int32) (Int32.ofNat n))) + (own_dot c3 (3 : Int32) (Int32.ofNat n))) + (own_dot c4 (4 : Int32) (Int32.ofNat n))))] [(.int (1 : Int32))])) ?_ (fun t_ k_ => XS.goto X26.here hx rfl (pc0 := 236) (pc' := 240) rfl (hb hby at_236) (by decide) (by decide) k_)
            refine Goes.on (T' := T26) (g' := (mkF m 242 #[.val (.int ya0), .val (.int ya1), .val (.int ya2), .val (.int ya3), .val (.int ya4), .val (.int ya5), .val (.ref b1), .val (.ref b17), .val (.int (Int32.ofNat n)), .val (.int (1 : Int32)), .val (.int ok), .val (.int (((((own_dot c0 (0 : Int32) (Int32.ofNat n)) + (own_dot c1 (1 : Int32) (Int32.ofNat n))) + (own_dot c2 (2 : Int32) (Int32.ofNat n))) + (own_dot c3 (3 : Int32) (Int32.ofNat n))) + (own_dot c4 (4 : Int32) (Int32.ofNat n))))] [])) ?_ (fun t_ k_ => XS.istore X26.here hx rfl (hb hby at_240) rfl (l' := #[.val (.int ya0), .val (.int ya1), .val (.int ya2), .val (.int ya3), .val (.int ya4), .val (.int ya5), .val (.ref b1), .val (.ref b17), .val (.int (Int32.ofNat n)), .val (.int (1 : Int32)), .val (.int ok), .val (.int (((((own_dot c0 (0 : Int32) (Int32.ofNat n)) + (own_dot c1 (1 : Int32) (Int32.ofNat n))) + (own_dot c2 (2 : Int32) (Int32.ofNat n))) + (own_dot c3 (3 : Int32) (Int32.ofNat n))) + (own_dot c4 (4 : Int32) (Int32.ofNat n))))]) rfl k_)
            exact K242 _ _ _ _ _ X26 eh26 N26 (by rw [← hok]; simp only [own_exp, eq_false hc64, eq_false hc203, eq_false hc209, eq_false hc219, eq_false hc232, if_true, if_false, ↓reduceIte, not_true_eq_false, not_false_eq_true, true_and, and_true, false_and, and_false, or_true, true_or, or_false, false_or, and_self, or_self])
  refine Goes.on (T' := T18) (g' := (mkF m 64 #[.val (.int ya0), .val (.int ya1), .val (.int ya2), .val (.int ya3), .val (.int ya4), .val (.int ya5), .val (.ref b1), .val (.ref b17), .val (.int (Int32.ofNat n)), .unset, .unset, .unset] [(.int (Int32.ofNat n))])) ?_ (fun t_ k_ => XS.iload X18.here hx rfl (hb hby at_62) rfl k_)
  refine Goes.ifN X18 hx rfl (pc0 := 64) (pc' := 73) rfl (hb hby at_64) rfl (by decide) (by decide) (P := (Int32.ofNat n) = (0 : Int32)) (ifc_ne _ _) (fun hc64 => ?_) (fun hc64 => ?_)
  · show Goes p e below W T18 (mkF m 73 #[.val (.int ya0), .val (.int ya1), .val (.int ya2), .val (.int ya3), .val (.int ya4), .val (.int ya5), .val (.ref b1), .val (.ref b17), .val (.int (Int32.ofNat n)), .unset, .unset, .unset] [])
    refine Goes.on (T' := T18) (g' := (mkF m 75 #[.val (.int ya0), .val (.int ya1), .val (.int ya2), .val (.int ya3), .val (.int ya4), .val (.int ya5), .val (.ref b1), .val (.ref b17), .val (.int (Int32.ofNat n)), .unset, .unset, .unset] [(.ref b1)])) ?_ (fun t_ k_ => XS.aload X18.here hx rfl (hb hby at_73) rfl rfl k_)
    refine Goes.on (T' := T18) (g' := (mkF m 76 #[.val (.int ya0), .val (.int ya1), .val (.int ya2), .val (.int ya3), .val (.int ya4), .val (.int ya5), .val (.ref b1), .val (.ref b17), .val (.int (Int32.ofNat n)), .unset, .unset, .unset] [(.int (0 : Int32)), (.ref b1)])) ?_ (fun t_ k_ => XS.iconst X18.here hx rfl (hb hby at_75) k_)
    refine Goes.on (T' := T18) (g' := (mkF m 77 #[.val (.int ya0), .val (.int ya1), .val (.int ya2), .val (.int ya3), .val (.int ya4), .val (.int ya5), .val (.ref b1), .val (.ref b17), .val (.int (Int32.ofNat n)), .unset, .unset, .unset] [(.int c0)])) ?_ (X18.caload hx (j := (0 : Int32)) (v := (.int c0)) (by rw [ehS.symm]; exact A1.1) (State.isArrayOf_alike hZ.alike A1.2.1) A1.2.2 (inb_of S1 ⟨by decide, by decide⟩) (by have q := H1 0 (by rw [S1]; decide); exact q) (g := (mkF m 76 #[.val (.int ya0), .val (.int ya1), .val (.int ya2), .val (.int ya3), .val (.int ya4), .val (.int ya5), .val (.ref b1), .val (.ref b17), .val (.int (Int32.ofNat n)), .unset, .unset, .unset] [(.int (0 : Int32)), (.ref b1)])) rfl rfl (hb hby at_76))
    refine Goes.on (T' := T18) (g' := (mkF m 78 #[.val (.int ya0), .val (.int ya1), .val (.int ya2), .val (.int ya3), .val (.int ya4), .val (.int ya5), .val (.ref b1), .val (.ref b17), .val (.int (Int32.ofNat n)), .unset, .unset, .unset] [(.int (0 : Int32)), (.int c0)])) ?_ (fun t_ k_ => XS.iconst X18.here hx rfl (hb hby at_77) k_)
    refine Goes.on (T' := T18) (g' := (mkF m 80 #[.val (.int ya0), .val (.int ya1), .val (.int ya2), .val (.int ya3), .val (.int ya4), .val (.int ya5), .val (.ref b1), .val (.ref b17), .val (.int (Int32.ofNat n)), .unset, .unset, .unset] [(.int (Int32.ofNat n)), (.int (0 : Int32)), (.int c0)])) ?_ (fun t_ k_ => XS.iload X18.here hx rfl (hb hby at_78) rfl k_)
    obtain ⟨_, _, ⟨T27, Lq_27, kq_27, nq_27⟩, -, X27, ⟨Lc27, hQ27, l27, y27, z27⟩, st27⟩ := Jvm.LawKit.callS X18 hx (y := (⟨"com/example/syndic/syndic/input/AmountsIsWrittenPinLaw", "allowed", "(CII)Z"⟩ : MethodName)) hown (mvT hZ (hw _ (List.mem_of_getElem? (i := 36) rfl))) (mvT hZ (hw _ (List.mem_of_getElem? (i := 37) rfl))) (mvT hZ (hw _ (List.mem_of_getElem? (i := 3) rfl))) (mvT hZ (hw _ (List.mem_of_getElem? (i := 38) rfl))) (by decide) (backOf (W := 0) (rmAL l Z a0 hw [] c0 (0 : Int32) (Int32.ofNat n) hS n0 ZS) hZ (hw _ (List.mem_of_getElem? (i := 38) rfl)) (hw _ (List.mem_of_getElem? (i := 3) rfl)) (by decide) (by decide)) (g := (mkF m 80 #[.val (.int ya0), .val (.int ya1), .val (.int ya2), .val (.int ya3), .val (.int ya4), .val (.int ya5), .val (.ref b1), .val (.ref b17), .val (.int (Int32.ofNat n)), .unset, .unset, .unset] [(.int (Int32.ofNat n)), (.int (0 : Int32)), (.int c0)])) rfl (by rw [hml]; rfl) (argsL := [(.int c0), (.int (0 : Int32)), (.int (Int32.ofNat n))]) (rest := []) (lenOf pd_19 rfl) rfl (by show 2 * 0 + _ ≤ _; exact Nat.le_of_eq rfl) (hb hby at_80) (fun _ _ => ⟨rfl, ehS.symm, (by decide : 4 + 0 ≤ _), (by decide : 57 + 0 ≤ _)⟩)
    dsimp only [Pt.U, Pt.locs, Pt.cells, Pt.slots] at X27 l27 y27 z27 st27 hQ27
    rw [l27, y27, z27] at X27
    change Stand p l e _ _ m _ below meth c T27 _ 4 57 at X27
    obtain ⟨rfl, N27q, eh27⟩ := hQ27
    have N27 := Fr.app N18 N27q
    refine Goes.on (T' := T27) (g' := (mkF m 83 #[.val (.int ya0), .val (.int ya1), .val (.int ya2), .val (.int ya3), .val (.int ya4), .val (.int ya5), .val (.ref b1), .val (.ref b17), .val (.int (Int32.ofNat n)), .unset, .unset, .unset] [(.int (own_alw c0 (0 : Int32) (Int32.ofNat n)))])) ?_ st27
    refine Goes.ifP X27 hx rfl (pc0 := 83) (pc' := 142) rfl (hb hby at_83) rfl (by decide) (by decide) (P := (own_alw c0 (0 : Int32) (Int32.ofNat n)) = (0 : Int32)) (ifc_eq _ _) (fun hc83 => ?_) (fun hc83 => ?_)
    · show Goes p e below W T27 (mkF m 142 #[.val (.int ya0), .val (.int ya1), .val (.int ya2), .val (.int ya3), .val (.int ya4), .val (.int ya5), .val (.ref b1), .val (.ref b17), .val (.int (Int32.ofNat n)), .unset, .unset, .unset] [])
      refine Goes.on (T' := T27) (g' := (mkF m 143 #[.val (.int ya0), .val (.int ya1), .val (.int ya2), .val (.int ya3), .val (.int ya4), .val (.int ya5), .val (.ref b1), .val (.ref b17), .val (.int (Int32.ofNat n)), .unset, .unset, .unset] [(.int (0 : Int32))])) ?_ (fun t_ k_ => XS.iconst X27.here hx rfl (hb hby at_142) k_)
      exact K143 hc64 _ _ _ X27 eh27 N27 (by simp only [own_allok, eq_false hc64, eq_true hc83, if_true, if_false, ↓reduceIte, not_true_eq_false, not_false_eq_true, true_and, and_true, false_and, and_false, or_true, true_or, or_false, false_or, and_self, or_self])
    · show Goes p e below W T27 (mkF m 86 #[.val (.int ya0), .val (.int ya1), .val (.int ya2), .val (.int ya3), .val (.int ya4), .val (.int ya5), .val (.ref b1), .val (.ref b17), .val (.int (Int32.ofNat n)), .unset, .unset, .unset] [])
      refine Goes.on (T' := T27) (g' := (mkF m 88 #[.val (.int ya0), .val (.int ya1), .val (.int ya2), .val (.int ya3), .val (.int ya4), .val (.int ya5), .val (.ref b1), .val (.ref b17), .val (.int (Int32.ofNat n)), .unset, .unset, .unset] [(.ref b1)])) ?_ (fun t_ k_ => XS.aload X27.here hx rfl (hb hby at_86) rfl rfl k_)
      refine Goes.on (T' := T27) (g' := (mkF m 89 #[.val (.int ya0), .val (.int ya1), .val (.int ya2), .val (.int ya3), .val (.int ya4), .val (.int ya5), .val (.ref b1), .val (.ref b17), .val (.int (Int32.ofNat n)), .unset, .unset, .unset] [(.int (1 : Int32)), (.ref b1)])) ?_ (fun t_ k_ => XS.iconst X27.here hx rfl (hb hby at_88) k_)
      refine Goes.on (T' := T27) (g' := (mkF m 90 #[.val (.int ya0), .val (.int ya1), .val (.int ya2), .val (.int ya3), .val (.int ya4), .val (.int ya5), .val (.ref b1), .val (.ref b17), .val (.int (Int32.ofNat n)), .unset, .unset, .unset] [(.int c1)])) ?_ (X27.caload hx (j := (1 : Int32)) (v := (.int c1)) (by rw [eh27]; exact A1.1) (State.isArrayOf_alike hZ.alike A1.2.1) A1.2.2 (inb_of S1 ⟨by decide, by decide⟩) (by have q := H1 1 (by rw [S1]; decide); exact q) (g := (mkF m 89 #[.val (.int ya0), .val (.int ya1), .val (.int ya2), .val (.int ya3), .val (.int ya4), .val (.int ya5), .val (.ref b1), .val (.ref b17), .val (.int (Int32.ofNat n)), .unset, .unset, .unset] [(.int (1 : Int32)), (.ref b1)])) rfl rfl (hb hby at_89))
      refine Goes.on (T' := T27) (g' := (mkF m 91 #[.val (.int ya0), .val (.int ya1), .val (.int ya2), .val (.int ya3), .val (.int ya4), .val (.int ya5), .val (.ref b1), .val (.ref b17), .val (.int (Int32.ofNat n)), .unset, .unset, .unset] [(.int (1 : Int32)), (.int c1)])) ?_ (fun t_ k_ => XS.iconst X27.here hx rfl (hb hby at_90) k_)
      refine Goes.on (T' := T27) (g' := (mkF m 93 #[.val (.int ya0), .val (.int ya1), .val (.int ya2), .val (.int ya3), .val (.int ya4), .val (.int ya5), .val (.ref b1), .val (.ref b17), .val (.int (Int32.ofNat n)), .unset, .unset, .unset] [(.int (Int32.ofNat n)), (.int (1 : Int32)), (.int c1)])) ?_ (fun t_ k_ => XS.iload X27.here hx rfl (hb hby at_91) rfl k_)
      obtain ⟨_, _, ⟨T28, Lq_28, kq_28, nq_28⟩, -, X28, ⟨Lc28, hQ28, l28, y28, z28⟩, st28⟩ := Jvm.LawKit.callS X27 hx (y := (⟨"com/example/syndic/syndic/input/AmountsIsWrittenPinLaw", "allowed", "(CII)Z"⟩ : MethodName)) hown (mvT hZ (hw _ (List.mem_of_getElem? (i := 36) rfl))) (mvT hZ (hw _ (List.mem_of_getElem? (i := 37) rfl))) (mvT hZ (hw _ (List.mem_of_getElem? (i := 3) rfl))) (mvT hZ (hw _ (List.mem_of_getElem? (i := 38) rfl))) (by decide) (backOf (W := 0) (rmAL l Z a0 hw [] c1 (1 : Int32) (Int32.ofNat n) hS n0 ZS) hZ (hw _ (List.mem_of_getElem? (i := 38) rfl)) (hw _ (List.mem_of_getElem? (i := 3) rfl)) (by decide) (by decide)) (g := (mkF m 93 #[.val (.int ya0), .val (.int ya1), .val (.int ya2), .val (.int ya3), .val (.int ya4), .val (.int ya5), .val (.ref b1), .val (.ref b17), .val (.int (Int32.ofNat n)), .unset, .unset, .unset] [(.int (Int32.ofNat n)), (.int (1 : Int32)), (.int c1)])) rfl (by rw [hml]; rfl) (argsL := [(.int c1), (.int (1 : Int32)), (.int (Int32.ofNat n))]) (rest := []) (lenOf pd_19 rfl) rfl (by show 2 * 0 + _ ≤ _; exact Nat.le_of_eq rfl) (hb hby at_93) (fun _ _ => ⟨rfl, eh27, (by decide : 4 + 0 ≤ _), (by decide : 57 + 0 ≤ _)⟩)
      dsimp only [Pt.U, Pt.locs, Pt.cells, Pt.slots] at X28 l28 y28 z28 st28 hQ28
      rw [l28, y28, z28] at X28
      change Stand p l e _ _ m _ below meth c T28 _ 4 57 at X28
      obtain ⟨rfl, N28q, eh28⟩ := hQ28
      have N28 := Fr.app N27 N28q
      refine Goes.on (T' := T28) (g' := (mkF m 96 #[.val (.int ya0), .val (.int ya1), .val (.int ya2), .val (.int ya3), .val (.int ya4), .val (.int ya5), .val (.ref b1), .val (.ref b17), .val (.int (Int32.ofNat n)), .unset, .unset, .unset] [(.int (own_alw c1 (1 : Int32) (Int32.ofNat n)))])) ?_ st28
      refine Goes.ifP X28 hx rfl (pc0 := 96) (pc' := 142) rfl (hb hby at_96) rfl (by decide) (by decide) (P := (own_alw c1 (1 : Int32) (Int32.ofNat n)) = (0 : Int32)) (ifc_eq _ _) (fun hc96 => ?_) (fun hc96 => ?_)
      · show Goes p e below W T28 (mkF m 142 #[.val (.int ya0), .val (.int ya1), .val (.int ya2), .val (.int ya3), .val (.int ya4), .val (.int ya5), .val (.ref b1), .val (.ref b17), .val (.int (Int32.ofNat n)), .unset, .unset, .unset] [])
        refine Goes.on (T' := T28) (g' := (mkF m 143 #[.val (.int ya0), .val (.int ya1), .val (.int ya2), .val (.int ya3), .val (.int ya4), .val (.int ya5), .val (.ref b1), .val (.ref b17), .val (.int (Int32.ofNat n)), .unset, .unset, .unset] [(.int (0 : Int32))])) ?_ (fun t_ k_ => XS.iconst X28.here hx rfl (hb hby at_142) k_)
        exact K143 hc64 _ _ _ X28 eh28 N28 (by simp only [own_allok, eq_false hc64, eq_false hc83, eq_true hc96, if_true, if_false, ↓reduceIte, not_true_eq_false, not_false_eq_true, true_and, and_true, false_and, and_false, or_true, true_or, or_false, false_or, and_self, or_self])
      · show Goes p e below W T28 (mkF m 99 #[.val (.int ya0), .val (.int ya1), .val (.int ya2), .val (.int ya3), .val (.int ya4), .val (.int ya5), .val (.ref b1), .val (.ref b17), .val (.int (Int32.ofNat n)), .unset, .unset, .unset] [])
        refine Goes.on (T' := T28) (g' := (mkF m 101 #[.val (.int ya0), .val (.int ya1), .val (.int ya2), .val (.int ya3), .val (.int ya4), .val (.int ya5), .val (.ref b1), .val (.ref b17), .val (.int (Int32.ofNat n)), .unset, .unset, .unset] [(.ref b1)])) ?_ (fun t_ k_ => XS.aload X28.here hx rfl (hb hby at_99) rfl rfl k_)
        refine Goes.on (T' := T28) (g' := (mkF m 102 #[.val (.int ya0), .val (.int ya1), .val (.int ya2), .val (.int ya3), .val (.int ya4), .val (.int ya5), .val (.ref b1), .val (.ref b17), .val (.int (Int32.ofNat n)), .unset, .unset, .unset] [(.int (2 : Int32)), (.ref b1)])) ?_ (fun t_ k_ => XS.iconst X28.here hx rfl (hb hby at_101) k_)
        refine Goes.on (T' := T28) (g' := (mkF m 103 #[.val (.int ya0), .val (.int ya1), .val (.int ya2), .val (.int ya3), .val (.int ya4), .val (.int ya5), .val (.ref b1), .val (.ref b17), .val (.int (Int32.ofNat n)), .unset, .unset, .unset] [(.int c2)])) ?_ (X28.caload hx (j := (2 : Int32)) (v := (.int c2)) (by rw [eh28]; exact A1.1) (State.isArrayOf_alike hZ.alike A1.2.1) A1.2.2 (inb_of S1 ⟨by decide, by decide⟩) (by have q := H1 2 (by rw [S1]; decide); exact q) (g := (mkF m 102 #[.val (.int ya0), .val (.int ya1), .val (.int ya2), .val (.int ya3), .val (.int ya4), .val (.int ya5), .val (.ref b1), .val (.ref b17), .val (.int (Int32.ofNat n)), .unset, .unset, .unset] [(.int (2 : Int32)), (.ref b1)])) rfl rfl (hb hby at_102))
        refine Goes.on (T' := T28) (g' := (mkF m 104 #[.val (.int ya0), .val (.int ya1), .val (.int ya2), .val (.int ya3), .val (.int ya4), .val (.int ya5), .val (.ref b1), .val (.ref b17), .val (.int (Int32.ofNat n)), .unset, .unset, .unset] [(.int (2 : Int32)), (.int c2)])) ?_ (fun t_ k_ => XS.iconst X28.here hx rfl (hb hby at_103) k_)
        refine Goes.on (T' := T28) (g' := (mkF m 106 #[.val (.int ya0), .val (.int ya1), .val (.int ya2), .val (.int ya3), .val (.int ya4), .val (.int ya5), .val (.ref b1), .val (.ref b17), .val (.int (Int32.ofNat n)), .unset, .unset, .unset] [(.int (Int32.ofNat n)), (.int (2 : Int32)), (.int c2)])) ?_ (fun t_ k_ => XS.iload X28.here hx rfl (hb hby at_104) rfl k_)
        obtain ⟨_, _, ⟨T29, Lq_29, kq_29, nq_29⟩, -, X29, ⟨Lc29, hQ29, l29, y29, z29⟩, st29⟩ := Jvm.LawKit.callS X28 hx (y := (⟨"com/example/syndic/syndic/input/AmountsIsWrittenPinLaw", "allowed", "(CII)Z"⟩ : MethodName)) hown (mvT hZ (hw _ (List.mem_of_getElem? (i := 36) rfl))) (mvT hZ (hw _ (List.mem_of_getElem? (i := 37) rfl))) (mvT hZ (hw _ (List.mem_of_getElem? (i := 3) rfl))) (mvT hZ (hw _ (List.mem_of_getElem? (i := 38) rfl))) (by decide) (backOf (W := 0) (rmAL l Z a0 hw [] c2 (2 : Int32) (Int32.ofNat n) hS n0 ZS) hZ (hw _ (List.mem_of_getElem? (i := 38) rfl)) (hw _ (List.mem_of_getElem? (i := 3) rfl)) (by decide) (by decide)) (g := (mkF m 106 #[.val (.int ya0), .val (.int ya1), .val (.int ya2), .val (.int ya3), .val (.int ya4), .val (.int ya5), .val (.ref b1), .val (.ref b17), .val (.int (Int32.ofNat n)), .unset, .unset, .unset] [(.int (Int32.ofNat n)), (.int (2 : Int32)), (.int c2)])) rfl (by rw [hml]; rfl) (argsL := [(.int c2), (.int (2 : Int32)), (.int (Int32.ofNat n))]) (rest := []) (lenOf pd_19 rfl) rfl (by show 2 * 0 + _ ≤ _; exact Nat.le_of_eq rfl) (hb hby at_106) (fun _ _ => ⟨rfl, eh28, (by decide : 4 + 0 ≤ _), (by decide : 57 + 0 ≤ _)⟩)
        dsimp only [Pt.U, Pt.locs, Pt.cells, Pt.slots] at X29 l29 y29 z29 st29 hQ29
        rw [l29, y29, z29] at X29
        change Stand p l e _ _ m _ below meth c T29 _ 4 57 at X29
        obtain ⟨rfl, N29q, eh29⟩ := hQ29
        have N29 := Fr.app N28 N29q
        refine Goes.on (T' := T29) (g' := (mkF m 109 #[.val (.int ya0), .val (.int ya1), .val (.int ya2), .val (.int ya3), .val (.int ya4), .val (.int ya5), .val (.ref b1), .val (.ref b17), .val (.int (Int32.ofNat n)), .unset, .unset, .unset] [(.int (own_alw c2 (2 : Int32) (Int32.ofNat n)))])) ?_ st29
        refine Goes.ifP X29 hx rfl (pc0 := 109) (pc' := 142) rfl (hb hby at_109) rfl (by decide) (by decide) (P := (own_alw c2 (2 : Int32) (Int32.ofNat n)) = (0 : Int32)) (ifc_eq _ _) (fun hc109 => ?_) (fun hc109 => ?_)
        · show Goes p e below W T29 (mkF m 142 #[.val (.int ya0), .val (.int ya1), .val (.int ya2), .val (.int ya3), .val (.int ya4), .val (.int ya5), .val (.ref b1), .val (.ref b17), .val (.int (Int32.ofNat n)), .unset, .unset, .unset] [])
          refine Goes.on (T' := T29) (g' := (mkF m 143 #[.val (.int ya0), .val (.int ya1), .val (.int ya2), .val (.int ya3), .val (.int ya4), .val (.int ya5), .val (.ref b1), .val (.ref b17), .val (.int (Int32.ofNat n)), .unset, .unset, .unset] [(.int (0 : Int32))])) ?_ (fun t_ k_ => XS.iconst X29.here hx rfl (hb hby at_142) k_)
          exact K143 hc64 _ _ _ X29 eh29 N29 (by simp only [own_allok, eq_false hc64, eq_false hc83, eq_false hc96, eq_true hc109, if_true, if_false, ↓reduceIte, not_true_eq_false, not_false_eq_true, true_and, and_true, false_and, and_false, or_true, true_or, or_false, false_or, and_self, or_self])
        · show Goes p e below W T29 (mkF m 112 #[.val (.int ya0), .val (.int ya1), .val (.int ya2), .val (.int ya3), .val (.int ya4), .val (.int ya5), .val (.ref b1), .val (.ref b17), .val (.int (Int32.ofNat n)), .unset, .unset, .unset] [])
          refine Goes.on (T' := T29) (g' := (mkF m 114 #[.val (.int ya0), .val (.int ya1), .val (.int ya2), .val (.int ya3), .val (.int ya4), .val (.int ya5), .val (.ref b1), .val (.ref b17), .val (.int (Int32.ofNat n)), .unset, .unset, .unset] [(.ref b1)])) ?_ (fun t_ k_ => XS.aload X29.here hx rfl (hb hby at_112) rfl rfl k_)
          refine Goes.on (T' := T29) (g' := (mkF m 115 #[.val (.int ya0), .val (.int ya1), .val (.int ya2), .val (.int ya3), .val (.int ya4), .val (.int ya5), .val (.ref b1), .val (.ref b17), .val (.int (Int32.ofNat n)), .unset, .unset, .unset] [(.int (3 : Int32)), (.ref b1)])) ?_ (fun t_ k_ => XS.iconst X29.here hx rfl (hb hby at_114) k_)
          refine Goes.on (T' := T29) (g' := (mkF m 116 #[.val (.int ya0), .val (.int ya1), .val (.int ya2), .val (.int ya3), .val (.int ya4), .val (.int ya5), .val (.ref b1), .val (.ref b17), .val (.int (Int32.ofNat n)), .unset, .unset, .unset] [(.int c3)])) ?_ (X29.caload hx (j := (3 : Int32)) (v := (.int c3)) (by rw [eh29]; exact A1.1) (State.isArrayOf_alike hZ.alike A1.2.1) A1.2.2 (inb_of S1 ⟨by decide, by decide⟩) (by have q := H1 3 (by rw [S1]; decide); exact q) (g := (mkF m 115 #[.val (.int ya0), .val (.int ya1), .val (.int ya2), .val (.int ya3), .val (.int ya4), .val (.int ya5), .val (.ref b1), .val (.ref b17), .val (.int (Int32.ofNat n)), .unset, .unset, .unset] [(.int (3 : Int32)), (.ref b1)])) rfl rfl (hb hby at_115))
          refine Goes.on (T' := T29) (g' := (mkF m 117 #[.val (.int ya0), .val (.int ya1), .val (.int ya2), .val (.int ya3), .val (.int ya4), .val (.int ya5), .val (.ref b1), .val (.ref b17), .val (.int (Int32.ofNat n)), .unset, .unset, .unset] [(.int (3 : Int32)), (.int c3)])) ?_ (fun t_ k_ => XS.iconst X29.here hx rfl (hb hby at_116) k_)
          refine Goes.on (T' := T29) (g' := (mkF m 119 #[.val (.int ya0), .val (.int ya1), .val (.int ya2), .val (.int ya3), .val (.int ya4), .val (.int ya5), .val (.ref b1), .val (.ref b17), .val (.int (Int32.ofNat n)), .unset, .unset, .unset] [(.int (Int32.ofNat n)), (.int (3 : Int32)), (.int c3)])) ?_ (fun t_ k_ => XS.iload X29.here hx rfl (hb hby at_117) rfl k_)
          obtain ⟨_, _, ⟨T30, Lq_30, kq_30, nq_30⟩, -, X30, ⟨Lc30, hQ30, l30, y30, z30⟩, st30⟩ := Jvm.LawKit.callS X29 hx (y := (⟨"com/example/syndic/syndic/input/AmountsIsWrittenPinLaw", "allowed", "(CII)Z"⟩ : MethodName)) hown (mvT hZ (hw _ (List.mem_of_getElem? (i := 36) rfl))) (mvT hZ (hw _ (List.mem_of_getElem? (i := 37) rfl))) (mvT hZ (hw _ (List.mem_of_getElem? (i := 3) rfl))) (mvT hZ (hw _ (List.mem_of_getElem? (i := 38) rfl))) (by decide) (backOf (W := 0) (rmAL l Z a0 hw [] c3 (3 : Int32) (Int32.ofNat n) hS n0 ZS) hZ (hw _ (List.mem_of_getElem? (i := 38) rfl)) (hw _ (List.mem_of_getElem? (i := 3) rfl)) (by decide) (by decide)) (g := (mkF m 119 #[.val (.int ya0), .val (.int ya1), .val (.int ya2), .val (.int ya3), .val (.int ya4), .val (.int ya5), .val (.ref b1), .val (.ref b17), .val (.int (Int32.ofNat n)), .unset, .unset, .unset] [(.int (Int32.ofNat n)), (.int (3 : Int32)), (.int c3)])) rfl (by rw [hml]; rfl) (argsL := [(.int c3), (.int (3 : Int32)), (.int (Int32.ofNat n))]) (rest := []) (lenOf pd_19 rfl) rfl (by show 2 * 0 + _ ≤ _; exact Nat.le_of_eq rfl) (hb hby at_119) (fun _ _ => ⟨rfl, eh29, (by decide : 4 + 0 ≤ _), (by decide : 57 + 0 ≤ _)⟩)
          dsimp only [Pt.U, Pt.locs, Pt.cells, Pt.slots] at X30 l30 y30 z30 st30 hQ30
          rw [l30, y30, z30] at X30
          change Stand p l e _ _ m _ below meth c T30 _ 4 57 at X30
          obtain ⟨rfl, N30q, eh30⟩ := hQ30
          have N30 := Fr.app N29 N30q
          refine Goes.on (T' := T30) (g' := (mkF m 122 #[.val (.int ya0), .val (.int ya1), .val (.int ya2), .val (.int ya3), .val (.int ya4), .val (.int ya5), .val (.ref b1), .val (.ref b17), .val (.int (Int32.ofNat n)), .unset, .unset, .unset] [(.int (own_alw c3 (3 : Int32) (Int32.ofNat n)))])) ?_ st30
          refine Goes.ifP X30 hx rfl (pc0 := 122) (pc' := 142) rfl (hb hby at_122) rfl (by decide) (by decide) (P := (own_alw c3 (3 : Int32) (Int32.ofNat n)) = (0 : Int32)) (ifc_eq _ _) (fun hc122 => ?_) (fun hc122 => ?_)
          · show Goes p e below W T30 (mkF m 142 #[.val (.int ya0), .val (.int ya1), .val (.int ya2), .val (.int ya3), .val (.int ya4), .val (.int ya5), .val (.ref b1), .val (.ref b17), .val (.int (Int32.ofNat n)), .unset, .unset, .unset] [])
            refine Goes.on (T' := T30) (g' := (mkF m 143 #[.val (.int ya0), .val (.int ya1), .val (.int ya2), .val (.int ya3), .val (.int ya4), .val (.int ya5), .val (.ref b1), .val (.ref b17), .val (.int (Int32.ofNat n)), .unset, .unset, .unset] [(.int (0 : Int32))])) ?_ (fun t_ k_ => XS.iconst X30.here hx rfl (hb hby at_142) k_)
            exact K143 hc64 _ _ _ X30 eh30 N30 (by simp only [own_allok, eq_false hc64, eq_false hc83, eq_false hc96, eq_false hc109, eq_true hc122, if_true, if_false, ↓reduceIte, not_true_eq_false, not_false_eq_true, true_and, and_true, false_and, and_false, or_true, true_or, or_false, false_or, and_self, or_self])
          · show Goes p e below W T30 (mkF m 125 #[.val (.int ya0), .val (.int ya1), .val (.int ya2), .val (.int ya3), .val (.int ya4), .val (.int ya5), .val (.ref b1), .val (.ref b17), .val (.int (Int32.ofNat n)), .unset, .unset, .unset] [])
            refine Goes.on (T' := T30) (g' := (mkF m 127 #[.val (.int ya0), .val (.int ya1), .val (.int ya2), .val (.int ya3), .val (.int ya4), .val (.int ya5), .val (.ref b1), .val (.ref b17), .val (.int (Int32.ofNat n)), .unset, .unset, .unset] [(.ref b1)])) ?_ (fun t_ k_ => XS.aload X30.here hx rfl (hb hby at_125) rfl rfl k_)
            refine Goes.on (T' := T30) (g' := (mkF m 128 #[.val (.int ya0), .val (.int ya1), .val (.int ya2), .val (.int ya3), .val (.int ya4), .val (.int ya5), .val (.ref b1), .val (.ref b17), .val (.int (Int32.ofNat n)), .unset, .unset, .unset] [(.int (4 : Int32)), (.ref b1)])) ?_ (fun t_ k_ => XS.iconst X30.here hx rfl (hb hby at_127) k_)
            refine Goes.on (T' := T30) (g' := (mkF m 129 #[.val (.int ya0), .val (.int ya1), .val (.int ya2), .val (.int ya3), .val (.int ya4), .val (.int ya5), .val (.ref b1), .val (.ref b17), .val (.int (Int32.ofNat n)), .unset, .unset, .unset] [(.int c4)])) ?_ (X30.caload hx (j := (4 : Int32)) (v := (.int c4)) (by rw [eh30]; exact A1.1) (State.isArrayOf_alike hZ.alike A1.2.1) A1.2.2 (inb_of S1 ⟨by decide, by decide⟩) (by have q := H1 4 (by rw [S1]; decide); exact q) (g := (mkF m 128 #[.val (.int ya0), .val (.int ya1), .val (.int ya2), .val (.int ya3), .val (.int ya4), .val (.int ya5), .val (.ref b1), .val (.ref b17), .val (.int (Int32.ofNat n)), .unset, .unset, .unset] [(.int (4 : Int32)), (.ref b1)])) rfl rfl (hb hby at_128))
            refine Goes.on (T' := T30) (g' := (mkF m 130 #[.val (.int ya0), .val (.int ya1), .val (.int ya2), .val (.int ya3), .val (.int ya4), .val (.int ya5), .val (.ref b1), .val (.ref b17), .val (.int (Int32.ofNat n)), .unset, .unset, .unset] [(.int (4 : Int32)), (.int c4)])) ?_ (fun t_ k_ => XS.iconst X30.here hx rfl (hb hby at_129) k_)
            refine Goes.on (T' := T30) (g' := (mkF m 132 #[.val (.int ya0), .val (.int ya1), .val (.int ya2), .val (.int ya3), .val (.int ya4), .val (.int ya5), .val (.ref b1), .val (.ref b17), .val (.int (Int32.ofNat n)), .unset, .unset, .unset] [(.int (Int32.ofNat n)), (.int (4 : Int32)), (.int c4)])) ?_ (fun t_ k_ => XS.iload X30.here hx rfl (hb hby at_130) rfl k_)
            obtain ⟨_, _, ⟨T31, Lq_31, kq_31, nq_31⟩, -, X31, ⟨Lc31, hQ31, l31, y31, z31⟩, st31⟩ := Jvm.LawKit.callS X30 hx (y := (⟨"com/example/syndic/syndic/input/AmountsIsWrittenPinLaw", "allowed", "(CII)Z"⟩ : MethodName)) hown (mvT hZ (hw _ (List.mem_of_getElem? (i := 36) rfl))) (mvT hZ (hw _ (List.mem_of_getElem? (i := 37) rfl))) (mvT hZ (hw _ (List.mem_of_getElem? (i := 3) rfl))) (mvT hZ (hw _ (List.mem_of_getElem? (i := 38) rfl))) (by decide) (backOf (W := 0) (rmAL l Z a0 hw [] c4 (4 : Int32) (Int32.ofNat n) hS n0 ZS) hZ (hw _ (List.mem_of_getElem? (i := 38) rfl)) (hw _ (List.mem_of_getElem? (i := 3) rfl)) (by decide) (by decide)) (g := (mkF m 132 #[.val (.int ya0), .val (.int ya1), .val (.int ya2), .val (.int ya3), .val (.int ya4), .val (.int ya5), .val (.ref b1), .val (.ref b17), .val (.int (Int32.ofNat n)), .unset, .unset, .unset] [(.int (Int32.ofNat n)), (.int (4 : Int32)), (.int c4)])) rfl (by rw [hml]; rfl) (argsL := [(.int c4), (.int (4 : Int32)), (.int (Int32.ofNat n))]) (rest := []) (lenOf pd_19 rfl) rfl (by show 2 * 0 + _ ≤ _; exact Nat.le_of_eq rfl) (hb hby at_132) (fun _ _ => ⟨rfl, eh30, (by decide : 4 + 0 ≤ _), (by decide : 57 + 0 ≤ _)⟩)
            dsimp only [Pt.U, Pt.locs, Pt.cells, Pt.slots] at X31 l31 y31 z31 st31 hQ31
            rw [l31, y31, z31] at X31
            change Stand p l e _ _ m _ below meth c T31 _ 4 57 at X31
            obtain ⟨rfl, N31q, eh31⟩ := hQ31
            have N31 := Fr.app N30 N31q
            refine Goes.on (T' := T31) (g' := (mkF m 135 #[.val (.int ya0), .val (.int ya1), .val (.int ya2), .val (.int ya3), .val (.int ya4), .val (.int ya5), .val (.ref b1), .val (.ref b17), .val (.int (Int32.ofNat n)), .unset, .unset, .unset] [(.int (own_alw c4 (4 : Int32) (Int32.ofNat n)))])) ?_ st31
            refine Goes.ifP X31 hx rfl (pc0 := 135) (pc' := 142) rfl (hb hby at_135) rfl (by decide) (by decide) (P := (own_alw c4 (4 : Int32) (Int32.ofNat n)) = (0 : Int32)) (ifc_eq _ _) (fun hc135 => ?_) (fun hc135 => ?_)
            · show Goes p e below W T31 (mkF m 142 #[.val (.int ya0), .val (.int ya1), .val (.int ya2), .val (.int ya3), .val (.int ya4), .val (.int ya5), .val (.ref b1), .val (.ref b17), .val (.int (Int32.ofNat n)), .unset, .unset, .unset] [])
              refine Goes.on (T' := T31) (g' := (mkF m 143 #[.val (.int ya0), .val (.int ya1), .val (.int ya2), .val (.int ya3), .val (.int ya4), .val (.int ya5), .val (.ref b1), .val (.ref b17), .val (.int (Int32.ofNat n)), .unset, .unset, .unset] [(.int (0 : Int32))])) ?_ (fun t_ k_ => XS.iconst X31.here hx rfl (hb hby at_142) k_)
              exact K143 hc64 _ _ _ X31 eh31 N31 (by simp only [own_allok, eq_false hc64, eq_false hc83, eq_false hc96, eq_false hc109, eq_false hc122, eq_true hc135, if_true, if_false, ↓reduceIte, not_true_eq_false, not_false_eq_true, true_and, and_true, false_and, and_false, or_true, true_or, or_false, false_or, and_self, or_self])
            · show Goes p e below W T31 (mkF m 138 #[.val (.int ya0), .val (.int ya1), .val (.int ya2), .val (.int ya3), .val (.int ya4), .val (.int ya5), .val (.ref b1), .val (.ref b17), .val (.int (Int32.ofNat n)), .unset, .unset, .unset] [])
              refine Goes.on (T' := T31) (g' := (mkF m 139 #[.val (.int ya0), .val (.int ya1), .val (.int ya2), .val (.int ya3), .val (.int ya4), .val (.int ya5), .val (.ref b1), .val (.ref b17), .val (.int (Int32.ofNat n)), .unset, .unset, .unset] [(.int (1 : Int32))])) ?_ (fun t_ k_ => XS.iconst X31.here hx rfl (hb hby at_138) k_)
              refine Goes.on (T' := T31) (g' := (mkF m 143 #[.val (.int ya0), .val (.int ya1), .val (.int ya2), .val (.int ya3), .val (.int ya4), .val (.int ya5), .val (.ref b1), .val (.ref b17), .val (.int (Int32.ofNat n)), .unset, .unset, .unset] [(.int (1 : Int32))])) ?_ (fun t_ k_ => XS.goto X31.here hx rfl (pc0 := 139) (pc' := 143) rfl (hb hby at_139) (by decide) (by decide) k_)
              exact K143 hc64 _ _ _ X31 eh31 N31 (by simp only [own_allok, eq_false hc64, eq_false hc83, eq_false hc96, eq_false hc109, eq_false hc122, eq_false hc135, if_true, if_false, ↓reduceIte, not_true_eq_false, not_false_eq_true, true_and, and_true, false_and, and_false, or_true, true_or, or_false, false_or, and_self, or_self])
  · show Goes p e below W T18 (mkF m 67 #[.val (.int ya0), .val (.int ya1), .val (.int ya2), .val (.int ya3), .val (.int ya4), .val (.int ya5), .val (.ref b1), .val (.ref b17), .val (.int (Int32.ofNat n)), .unset, .unset, .unset] [])
    refine Goes.on (T' := T18) (g' := (mkF m 68 #[.val (.int ya0), .val (.int ya1), .val (.int ya2), .val (.int ya3), .val (.int ya4), .val (.int ya5), .val (.ref b1), .val (.ref b17), .val (.int (Int32.ofNat n)), .unset, .unset, .unset] [(.int (0 : Int32))])) ?_ (fun t_ k_ => XS.iconst X18.here hx rfl (hb hby at_67) k_)
    refine Goes.on (T' := T18) (g' := (mkF m 70 #[.val (.int ya0), .val (.int ya1), .val (.int ya2), .val (.int ya3), .val (.int ya4), .val (.int ya5), .val (.ref b1), .val (.ref b17), .val (.int (Int32.ofNat n)), .val (.int (0 : Int32)), .unset, .unset] [])) ?_ (fun t_ k_ => XS.istore X18.here hx rfl (hb hby at_68) rfl (l' := #[.val (.int ya0), .val (.int ya1), .val (.int ya2), .val (.int ya3), .val (.int ya4), .val (.int ya5), .val (.ref b1), .val (.ref b17), .val (.int (Int32.ofNat n)), .val (.int (0 : Int32)), .unset, .unset]) rfl k_)
    refine Goes.on (T' := T18) (g' := (mkF m 242 #[.val (.int ya0), .val (.int ya1), .val (.int ya2), .val (.int ya3), .val (.int ya4), .val (.int ya5), .val (.ref b1), .val (.ref b17), .val (.int (Int32.ofNat n)), .val (.int (0 : Int32)), .unset, .unset] [])) ?_ (fun t_ k_ => XS.goto X18.here hx rfl (pc0 := 70) (pc' := 242) rfl (hb hby at_70) (by decide) (by decide) k_)
    exact K242 _ _ _ _ _ X18 ehS.symm N18 (by simp only [own_exp, eq_true hc64, if_true, if_false, ↓reduceIte, not_true_eq_false, not_false_eq_true, true_and, and_true, false_and, and_false, or_true, true_or, or_false, false_or, and_self, or_self])
set_option maxRecDepth 65536 in
set_option maxHeartbeats 40000000 in
theorem comes_1 {Post : Tables → Env → Array Value → State → Outcome → State → Prop} (hpost : ∀ tb e args s v u, (limb_1_1.after args s (.returned v) u = true ∧ limb_1_2.after args s (.returned v) u = true ∧ True) → FrameEnd s (.returned v) u (Jvm.fieldLocs frame_1_writes args s ++ Jvm.arrayLocs frame_1_arrays args s ++ Jvm.staticLocs frame_1_statics s) 16 128 → Post tb e args s (.returned v) u) :
    ArmFor flags0 classFile x code maxLocals ret World_1 tables_1 room_1 Calls_1 rest_1 Pre_1 Post := by
  intro l hfl _ _ p e ha hc hk s m args below hf hA hF happ hP
  obtain ⟨hcalls, hrest, hpre⟩ := hP
  obtain ⟨-, -, -, hnamed, -, -, -, hat⟩ := (Spec.applies_iff hf).mp happ
  obtain ⟨hg, hn⟩ := and_e (Cond.before_iff.mp (show (Jvm.Cond.and given_1 narrow_1).before args s = true from hpre))
  obtain ⟨hcount, hq0⟩ := and_e hg
  obtain ⟨ha0, hq1⟩ := and_e hq0
  obtain ⟨ha1, hq2⟩ := and_e hq1
  obtain ⟨ha2, hq3⟩ := and_e hq2
  obtain ⟨ha3, hq4⟩ := and_e hq3
  obtain ⟨ha4, hq5⟩ := and_e hq4
  have ha5 := hq5
  obtain ⟨w0, w1, w2, w3, w4, w5, rfl⟩ : ∃ w0 w1 w2 w3 w4 w5 : Value, args = #[w0, w1, w2, w3, w4, w5] := by
    have hs : args.size = 6 := by simpa [Cond.value, given_1] using hcount
    obtain ⟨L⟩ := args
    match L, hs with
    | [w0, w1, w2, w3, w4, w5], _ => exact ⟨w0, w1, w2, w3, w4, w5, rfl⟩
  have hw := fun d (hd : d ∈ tables_1) => atoms_spec (ws := Jvm.Cond.code x code maxLocals ret :: tables_1) hat d (List.mem_cons_of_mem _ hd)
  obtain ⟨hsets, hown0⟩ := atoms_of _ (rest_1_c_eq ▸ (show rest_1_c.before _ s = true from hrest))
  have hfit : Fit s := fun {y c} hc i hi => by
    obtain ⟨ha, rfl⟩ := Array.getElem?_eq_some_iff.mp hc
    have q := List.all_eq_true.mp ((Array.all_eq_true_iff_forall_mem.mp hF) _ (Array.getElem_mem ha)) i (List.mem_range.mpr hi)
    simpa [Array.getElem?_eq_getElem hi] using q
  obtain ⟨i0, ea0⟩ := is_v ha0
  obtain rfl : w0 = (.int i0) := Option.some.inj ea0
  obtain ⟨i1, ea1⟩ := is_v ha1
  obtain rfl : w1 = (.int i1) := Option.some.inj ea1
  obtain ⟨i2, ea2⟩ := is_v ha2
  obtain rfl : w2 = (.int i2) := Option.some.inj ea2
  obtain ⟨i3, ea3⟩ := is_v ha3
  obtain rfl : w3 = (.int i3) := Option.some.inj ea3
  obtain ⟨i4, ea4⟩ := is_v ha4
  obtain rfl : w4 = (.int i4) := Option.some.inj ea4
  obtain ⟨i5, ea5⟩ := is_v ha5
  obtain rfl : w5 = (.int i5) := Option.some.inj ea5
  obtain ⟨zc, ecz⟩ := is_v (Cond.before_iff.mp (hsets _ (List.mem_of_getElem? (i := 1) rfl)))
  have CS : Sta s s.heap "java/lang/String" "COMPACT_STRINGS" "Z" (.int zc) := Sta.start ecz (Or.inl (hsets _ (List.mem_of_getElem? (i := 0) rfl)))
  have hzc : ¬ zc = (0 : Int32) := gotF (Cond.eq_ints ecz (Term.int_eval (0))) (not_v (Cond.before_iff.mp (hsets _ (List.mem_of_getElem? (i := 2) rfl))))
  obtain ⟨vf, evf, rG⟩ := isR_v (Cond.before_iff.mp (hsets _ (List.mem_of_getElem? (i := 8) rfl)))
  have SO : Sta s s.heap "jdk/internal/util/Preconditions" "SIOOBE_FORMATTER" "Ljava/util/function/BiFunction;" vf := Sta.start evf (Or.inl (hsets _ (List.mem_of_getElem? (i := 7) rfl)))
  have AD : Sta s s.heap "java/lang/StringUTF16" "$assertionsDisabled" "Z" (.int (1 : Int32)) := Sta.start (eqv_i (Term.int_eval (1)) (Cond.before_iff.mp (hsets _ (List.mem_of_getElem? (i := 12) rfl)))) (Or.inl (hsets _ (List.mem_of_getElem? (i := 11) rfl)))
  have HB : Sta s s.heap "java/lang/StringUTF16" "HI_BYTE_SHIFT" "I" (.int (0 : Int32)) := Sta.start (eqv_i (Term.int_eval (0)) (Cond.before_iff.mp (hsets _ (List.mem_of_getElem? (i := 15) rfl)))) (Or.inl (hsets _ (List.mem_of_getElem? (i := 14) rfl)))
  have LB : Sta s s.heap "java/lang/StringUTF16" "LO_BYTE_SHIFT" "I" (.int (8 : Int32)) := Sta.start (eqv_i (Term.int_eval (8)) (Cond.before_iff.mp (hsets _ (List.mem_of_getElem? (i := 18) rfl)))) (Or.inl (hsets _ (List.mem_of_getElem? (i := 17) rfl)))
  obtain ⟨n, o, h1, h2, h3, _, L, rfl, ⟨rfl, N⟩, hq⟩ := rm0 l s _ hw tables_1 i0 i1 i2 i3 i4 i5 zc vf s.heap s.heap.size (Nat.le_refl _) CS hzc AD HB LB SO rG (Old.start s) p e ha hc hk s m _ below hf ((Spec.applies_iff_loose hf).mp happ).1 ⟨rfl, State.Warmed39.refl s, rfl⟩ trivial
  refine ⟨n, _, h1, h2, h3, hpost _ _ _ _ _ _ ⟨Cond.after_iff.mpr rfl, Cond.after_iff.mpr (eq_i res_at (Term.int_eval (1)) rfl), trivial⟩ ⟨hq.1, hq.2.1, (hq.2.2.sift fun y hy => Or.inr (N y hy)).mono (by decide) (by decide)⟩⟩
theorem main_1_1 : Claimed_1_1 := comes_1 fun _ _ _ _ _ _ h hF => ⟨h.1, hF⟩
theorem main_1_2 : Claimed_1_2 := comes_1 fun _ _ _ _ _ _ h hF => ⟨h.2.1, hF⟩
end Jvm.Pilot.@@N@@
namespace Jvm.Pilot.@@N@@
open Jvm Jvm.ClassFile Sem Op Lib Jvm.Free Jvm.Stand Jvm.Pilot.@@N@@.Jvm.D
/-! MADE BY PROGRAM (witnessworld.py) out of the Statement's table words and the real class files: 20 classes; the members and pool entries that the words name. The judged class is class 1, her method 5. -/
namespace start1
open Jvm.ClassFile
def u (s : String) : CpInfo := .utf8 (stringToUtf16 s)
/-- a pool by its gaps: so many unusable entries, then the entry; so many at the end -/
def gap : Nat → List CpInfo → List CpInfo
  | 0, r => r
  | n + 1, r => .unusable :: gap n r
def poolList (es : List (Nat × CpInfo)) (last : Nat) : List CpInfo := es.foldr (fun e r => gap e.1 (e.2 :: r)) (gap last [])
def pool (es : List (Nat × CpInfo)) (last : Nat) : Array CpInfo := ⟨poolList es last⟩
def fileOf (pool : Array CpInfo) (this : Nat) (attrs : Array Attribute := #[]) (ms : Array MethodInfo := #[]) (fl : Nat := 33) (sup : Nat := 0) (ifs : Array Nat := #[]) (fds : Array FieldInfo := #[]) : ClassFile where
  minorVersion := 0
  majorVersion := 65
  constantPool := pool
  accessFlags := fl
  thisClass := this
  superClass := sup
  interfaces := ifs
  fields := fds
  methods := ms
  attributes := attrs
def plain (name : String) (sup : Option ClassId) : Class where
  name := name
  kind := .ordinary
  loader := none
  accessFlags := 33
  super := sup
  interfaces := #[]
  cf := none
  fields := #[]
  methods := #[]
  instanceTypes := #[]
  staticTypes := #[]
  resolved := #[]
  callSites := []
  init := .initialized
  statics := none
  mirror := none

def pool0 : Array CpInfo := pool [(5, u "<init>"), (0, u "()V"), (1, .class_ 10), (1, u "java/lang/Object")] 113

def k0c0 : Code := { maxStack := 0, maxLocals := 1, code := object_method_1_code, exceptionTable := #[], attributes := #[] }
def k0m0 : Method := { name := "<init>", desc := "()V", sig := { parameters := [], returnType := none }, accessFlags := 1, code := some k0c0 }
/-- java/lang/Object -/
def k0 : Class := { plain "java/lang/Object" none with
  accessFlags := 33
  interfaces := #[]
  cf := some (fileOf pool0 8 #[] #[{ accessFlags := 1, nameIndex := 5, descriptorIndex := 6, attributes := #[] }] 33 0 #[] #[])
  fields := #[]
  methods := #[k0m0]
  instanceTypes := #[]
  staticTypes := #[]
  resolved := Array.replicate 124 none
  statics := none }

def pool1 : Array CpInfo := pool [(2, .class_ 4), (1, u "java/lang/Object"), (0, u "<init>"), (0, u "()V"), (0, .integer 65535), (0, .methodref 9 10), (0, .class_ 11), (0, .nameAndType 12 13), (0, u "com/example/syndic/syndic/input/AmountsIsWrittenPinLaw"), (0, u "digit"), (0, u "(C)Z"), (0, .methodref 9 15), (0, .nameAndType 16 17), (0, u "pick"), (0, u "(I)C"), (0, .class_ 19), (0, u "java/lang/String"), (0, .methodref 18 21), (0, .nameAndType 5 22), (0, u "([C)V"), (0, .integer 2147483647), (0, .methodref 9 25), (0, .nameAndType 26 27), (0, u "allowed"), (0, u "(CII)Z"), (0, .methodref 9 29), (0, .nameAndType 30 31), (0, u "dot"), (0, u "(CII)I"), (0, .methodref 33 34), (0, .class_ 35), (0, .nameAndType 36 37), (0, u "com/example/syndic/syndic/input/Amounts"), (0, u "isWritten"), (0, u "(Ljava/lang/String;I)Z"), (3, u "law"), (0, u "(IIIIII)Z")] 4

def k1m0 : Method := { name := "<init>", desc := "()V", sig := { parameters := [], returnType := none }, accessFlags := 2, code := none }
def k1c1 : Code := { maxStack := 3, maxLocals := 3, code := method_2_code, exceptionTable := #[], attributes := #[] }
def k1m1 : Method := { name := "pick", desc := "(I)C", sig := { parameters := [.int], returnType := some .char }, accessFlags := 10, code := some k1c1 }
def k1c2 : Code := { maxStack := 2, maxLocals := 1, code := method_3_code, exceptionTable := #[], attributes := #[] }
def k1m2 : Method := { name := "digit", desc := "(C)Z", sig := { parameters := [.char], returnType := some .boolean }, accessFlags := 10, code := some k1c2 }
def k1c3 : Code := { maxStack := 2, maxLocals := 3, code := method_4_code, exceptionTable := #[], attributes := #[] }
def k1m3 : Method := { name := "allowed", desc := "(CII)Z", sig := { parameters := [.char, .int, .int], returnType := some .boolean }, accessFlags := 10, code := some k1c3 }
def k1c4 : Code := { maxStack := 2, maxLocals := 3, code := method_5_code, exceptionTable := #[], attributes := #[] }
def k1m4 : Method := { name := "dot", desc := "(CII)I", sig := { parameters := [.char, .int, .int], returnType := some .int }, accessFlags := 10, code := some k1c4 }
def k1c5 : Code := { maxStack := 4, maxLocals := 12, code := code, exceptionTable := #[], attributes := #[] }
def k1m5 : Method := { name := "law", desc := "(IIIIII)Z", sig := { parameters := [.int, .int, .int, .int, .int, .int], returnType := some .boolean }, accessFlags := 9, code := some k1c5 }
/-- com/example/syndic/syndic/input/AmountsIsWrittenPinLaw -/
def k1 : Class := { plain "com/example/syndic/syndic/input/AmountsIsWrittenPinLaw" (some 0) with
  accessFlags := 49
  interfaces := #[]
  cf := some (fileOf pool1 9 #[] #[{ accessFlags := 2, nameIndex := 5, descriptorIndex := 6, attributes := #[] }, { accessFlags := 10, nameIndex := 16, descriptorIndex := 17, attributes := #[] }, { accessFlags := 10, nameIndex := 12, descriptorIndex := 13, attributes := #[] }, { accessFlags := 10, nameIndex := 26, descriptorIndex := 27, attributes := #[] }, { accessFlags := 10, nameIndex := 30, descriptorIndex := 31, attributes := #[] }, { accessFlags := 9, nameIndex := 41, descriptorIndex := 42, attributes := #[] }] 49 2 #[] #[])
  fields := #[]
  methods := #[k1m0, k1m1, k1m2, k1m3, k1m4, k1m5]
  instanceTypes := #[]
  staticTypes := #[]
  resolved := Array.replicate 47 none
  statics := none }

def pool2 : Array CpInfo := pool [(1, .class_ 2), (0, u "java/io/Serializable"), (0, .class_ 4), (0, u "java/lang/Object")] 2

/-- java/io/Serializable -/
def k2 : Class := { plain "java/io/Serializable" (some 0) with
  accessFlags := 1537
  interfaces := #[]
  cf := some (fileOf pool2 1 #[] #[] 1537 3 #[] #[])
  fields := #[]
  methods := #[]
  instanceTypes := #[]
  staticTypes := #[]
  resolved := Array.replicate 7 none
  statics := none }

def pool3 : Array CpInfo := pool [(1, .class_ 2), (0, u "java/lang/Comparable"), (0, .class_ 4), (0, u "java/lang/Object")] 7

/-- java/lang/Comparable -/
def k3 : Class := { plain "java/lang/Comparable" (some 0) with
  accessFlags := 1537
  interfaces := #[]
  cf := some (fileOf pool3 1 #[] #[] 1537 3 #[] #[])
  fields := #[]
  methods := #[]
  instanceTypes := #[]
  staticTypes := #[]
  resolved := Array.replicate 12 none
  statics := none }

def pool4 : Array CpInfo := pool [(2, .class_ 4), (1, u "java/lang/CharSequence"), (42, .class_ 48), (0, u "java/lang/CharSequence$1CodePointIterator"), (10, .class_ 60), (0, u "java/lang/CharSequence$1CharIterator"), (5, .class_ 67), (0, u "java/lang/Object")] 63

/-- java/lang/CharSequence -/
def k4 : Class := { plain "java/lang/CharSequence" (some 0) with
  accessFlags := 1537
  interfaces := #[]
  cf := some (fileOf pool4 2 #[.nestMembers #[47, 59]] #[] 1537 66 #[] #[])
  fields := #[]
  methods := #[]
  instanceTypes := #[]
  staticTypes := #[]
  resolved := Array.replicate 131 none
  statics := none }

def pool5 : Array CpInfo := pool [(1, .class_ 2), (0, u "java/lang/constant/Constable"), (0, .class_ 4), (0, u "java/lang/Object")] 6

/-- java/lang/constant/Constable -/
def k5 : Class := { plain "java/lang/constant/Constable" (some 0) with
  accessFlags := 1537
  interfaces := #[]
  cf := some (fileOf pool5 1 #[] #[] 1537 3 #[] #[])
  fields := #[]
  methods := #[]
  instanceTypes := #[]
  staticTypes := #[]
  resolved := Array.replicate 11 none
  statics := none }

def pool6 : Array CpInfo := pool [(1, .class_ 2), (0, u "java/lang/constant/ConstantDesc"), (0, .class_ 4), (0, u "java/lang/Object")] 32

/-- java/lang/constant/ConstantDesc -/
def k6 : Class := { plain "java/lang/constant/ConstantDesc" (some 0) with
  accessFlags := 1537
  interfaces := #[]
  cf := some (fileOf pool6 1 #[] #[] 1537 3 #[] #[])
  fields := #[]
  methods := #[]
  instanceTypes := #[]
  staticTypes := #[]
  resolved := Array.replicate 37 none
  statics := none }

def pool7 : Array CpInfo := pool [(1, .methodref 2 3), (0, .class_ 4), (0, .nameAndType 5 6), (0, u "java/lang/Object"), (0, u "<init>"), (0, u "()V"), (2, .fieldref 10 11), (0, .class_ 12), (0, .nameAndType 13 14), (0, u "java/lang/String"), (0, u "value"), (0, u "[B"), (0, .fieldref 10 16), (0, .nameAndType 17 18), (0, u "coder"), (0, u "B"), (2, u "hash"), (0, u "I"), (2, u "hashIsZero"), (0, u "Z"), (0, .methodref 10 28), (0, .nameAndType 5 29), (0, u "([CIILjava/lang/Void;)V"), (8, .fieldref 10 39), (0, .nameAndType 40 26), (0, u "COMPACT_STRINGS"), (1, .class_ 44), (1, u "java/lang/StringUTF16"), (0, u "compress"), (1, .methodref 42 48), (0, .nameAndType 49 50), (0, u "coderFromArrayLen"), (0, u "([BI)B"), (56, .class_ 109), (1, u "java/lang/StringLatin1"), (32, u "()Z"), (34, .methodref 42 178), (0, .nameAndType 45 179), (0, u "([CII)[B"), (183, u "([BI)C"), (27, u "(II)V"), (35, u "(I)C"), (64, .methodref 10 493), (0, .nameAndType 494 142), (0, u "isLatin1"), (0, .methodref 107 496), (0, .nameAndType 497 363), (0, u "charAt"), (0, .methodref 42 496), (2, u "checkIndex"), (73, .class_ 576), (0, u "java/lang/CharSequence"), (22, u "CASE_INSENSITIVE_ORDER"), (0, u "Ljava/util/Comparator;"), (409, u "([C)V"), (42, .fieldref 1054 1055), (0, .class_ 1056), (0, .nameAndType 1057 1058), (0, u "jdk/internal/util/Preconditions"), (0, u "SIOOBE_FORMATTER"), (0, u "Ljava/util/function/BiFunction;"), (0, .methodref 1054 1060), (0, .nameAndType 501 1061), (0, u "(IILjava/util/function/BiFunction;)I"), (39, u "serialPersistentFields"), (0, u "[Ljava/io/ObjectStreamField;"), (0, .class_ 1104), (0, u "java/lang/String$CaseInsensitiveComparator"), (1, .class_ 1107), (0, u "java/io/Serializable"), (0, .class_ 1109), (0, u "java/lang/Comparable"), (0, .class_ 1111), (0, u "java/lang/constant/Constable"), (0, .class_ 1113), (0, u "java/lang/constant/ConstantDesc"), (2, u "serialVersionUID"), (0, u "J"), (3, u "REPL"), (0, u "C"), (2, u "LATIN1"), (1, u "UTF16")] 323

def k7m0 : Method := { name := "<init>", desc := "()V", sig := { parameters := [], returnType := none }, accessFlags := 1, code := none }
def k7c1 : Code := { maxStack := 5, maxLocals := 2, code := jdk_42_method_3_code, exceptionTable := #[], attributes := #[] }
def k7m1 : Method := { name := "<init>", desc := "([C)V", sig := { parameters := [(.array .char)], returnType := none }, accessFlags := 1, code := some k7c1 }
def k7c2 : Code := { maxStack := 2, maxLocals := 2, code := jdk_42_method_56_code, exceptionTable := #[], attributes := #[] }
def k7m2 : Method := { name := "charAt", desc := "(I)C", sig := { parameters := [.int], returnType := some .char }, accessFlags := 1, code := some k7c2 }
def k7c3 : Code := { maxStack := 4, maxLocals := 6, code := jdk_42_method_149_code, exceptionTable := #[], attributes := #[] }
def k7m3 : Method := { name := "<init>", desc := "([CIILjava/lang/Void;)V", sig := { parameters := [(.array .char), .int, .int, (.object "java/lang/Void")], returnType := none }, accessFlags := 2, code := some k7c3 }
def k7c4 : Code := { maxStack := 1, maxLocals := 1, code := jdk_42_method_154_code, exceptionTable := #[], attributes := #[] }
def k7m4 : Method := { name := "isLatin1", desc := "()Z", sig := { parameters := [], returnType := some .boolean }, accessFlags := 0, code := some k7c4 }
def k7c5 : Code := { maxStack := 3, maxLocals := 2, code := jdk_42_method_155_code, exceptionTable := #[], attributes := #[] }
def k7m5 : Method := { name := "checkIndex", desc := "(II)V", sig := { parameters := [.int, .int], returnType := none }, accessFlags := 8, code := some k7c5 }
/-- java/lang/String -/
def k7 : Class := { plain "java/lang/String" (some 0) with
  accessFlags := 49
  interfaces := #[2, 3, 4, 5, 6]
  cf := some (fileOf pool7 10 #[.nestMembers #[1103]] #[{ accessFlags := 1, nameIndex := 5, descriptorIndex := 6, attributes := #[] }, { accessFlags := 1, nameIndex := 5, descriptorIndex := 1010, attributes := #[] }, { accessFlags := 1, nameIndex := 497, descriptorIndex := 427, attributes := #[] }, { accessFlags := 2, nameIndex := 5, descriptorIndex := 29, attributes := #[] }, { accessFlags := 0, nameIndex := 494, descriptorIndex := 142, attributes := #[] }, { accessFlags := 8, nameIndex := 501, descriptorIndex := 391, attributes := #[] }] 49 2 #[1106, 1108, 575, 1110, 1112] #[{ accessFlags := 18, nameIndex := 13, descriptorIndex := 14, attributes := #[] }, { accessFlags := 18, nameIndex := 17, descriptorIndex := 18, attributes := #[] }, { accessFlags := 2, nameIndex := 21, descriptorIndex := 22, attributes := #[] }, { accessFlags := 2, nameIndex := 25, descriptorIndex := 26, attributes := #[] }, { accessFlags := 26, nameIndex := 1116, descriptorIndex := 1117, attributes := #[] }, { accessFlags := 24, nameIndex := 40, descriptorIndex := 26, attributes := #[] }, { accessFlags := 26, nameIndex := 1101, descriptorIndex := 1102, attributes := #[] }, { accessFlags := 26, nameIndex := 1121, descriptorIndex := 1122, attributes := #[] }, { accessFlags := 25, nameIndex := 599, descriptorIndex := 600, attributes := #[] }, { accessFlags := 24, nameIndex := 1125, descriptorIndex := 18, attributes := #[] }, { accessFlags := 24, nameIndex := 1127, descriptorIndex := 18, attributes := #[] }])
  fields := #[{ name := "value", type := (.array .byte), accessFlags := 18, slot := 0, constantValue := 0 }, { name := "coder", type := .byte, accessFlags := 18, slot := 1, constantValue := 0 }, { name := "hash", type := .int, accessFlags := 2, slot := 2, constantValue := 0 }, { name := "hashIsZero", type := .boolean, accessFlags := 2, slot := 3, constantValue := 0 }, { name := "serialVersionUID", type := .long, accessFlags := 26, slot := 0, constantValue := 0 }, { name := "COMPACT_STRINGS", type := .boolean, accessFlags := 24, slot := 1, constantValue := 0 }, { name := "serialPersistentFields", type := (.array (.object "java/io/ObjectStreamField")), accessFlags := 26, slot := 2, constantValue := 0 }, { name := "REPL", type := .char, accessFlags := 26, slot := 3, constantValue := 0 }, { name := "CASE_INSENSITIVE_ORDER", type := (.object "java/util/Comparator"), accessFlags := 25, slot := 4, constantValue := 0 }, { name := "LATIN1", type := .byte, accessFlags := 24, slot := 5, constantValue := 0 }, { name := "UTF16", type := .byte, accessFlags := 24, slot := 6, constantValue := 0 }]
  methods := #[k7m0, k7m1, k7m2, k7m3, k7m4, k7m5]
  instanceTypes := #[(.array .byte), .byte, .int, .boolean]
  staticTypes := #[.long, .boolean, (.array (.object "java/io/ObjectStreamField")), .char, (.object "java/util/Comparator"), .byte, .byte]
  resolved := Array.replicate 1451 none
  statics := some 0 }

def pool8 : Array CpInfo := pool [(3, .class_ 4), (0, u "java/lang/String"), (1, .class_ 8), (1, u "java/lang/Object"), (0, u "<init>"), (0, u "()V"), (0, .methodref 12 13), (0, .class_ 14), (0, .nameAndType 15 16), (0, u "java/lang/StringUTF16"), (0, u "newBytesLength"), (0, u "(I)I"), (3, .integer 1073741823), (23, .fieldref 12 45), (0, .nameAndType 46 47), (0, u "$assertionsDisabled"), (0, u "Z"), (0, .methodref 12 49), (0, .nameAndType 50 51), (0, u "length"), (0, u "([B)I"), (7, .fieldref 12 60), (0, .nameAndType 61 62), (0, u "HI_BYTE_SHIFT"), (0, u "I"), (0, .fieldref 12 64), (0, .nameAndType 65 62), (0, u "LO_BYTE_SHIFT"), (1, .methodref 12 68), (0, .nameAndType 69 70), (0, u "checkIndex"), (0, u "(I[B)V"), (0, .methodref 12 72), (0, .nameAndType 73 74), (0, u "getChar"), (0, u "([BI)C"), (32, .methodref 12 108), (0, .nameAndType 109 110), (0, u "newBytesFor"), (0, u "(I)[B"), (0, .methodref 12 112), (0, .nameAndType 113 114), (0, u "putChar"), (0, u "([BII)V"), (0, .methodref 12 116), (0, .nameAndType 117 118), (0, u "compress"), (0, u "([CI[BII)I"), (0, .methodref 12 120), (0, .nameAndType 121 122), (0, u "toBytes"), (0, u "([CII)[B"), (138, u "coderFromArrayLen"), (0, u "([BI)B"), (106, .class_ 371), (1, u "java/lang/StringUTF16$LinesSpliterator"), (20, u "charAt"), (21, .methodref 3 415), (0, .nameAndType 69 416), (0, u "(II)V"), (13, u "MAX_LENGTH"), (196, .class_ 628), (0, u "java/lang/StringUTF16$CodePointsSpliterator"), (0, .class_ 630), (0, u "java/lang/StringUTF16$CharsSpliterator")] 4

def k8m0 : Method := { name := "<init>", desc := "()V", sig := { parameters := [], returnType := none }, accessFlags := 0, code := none }
def k8c1 : Code := { maxStack := 1, maxLocals := 1, code := jdk_52_method_2_code, exceptionTable := #[], attributes := #[] }
def k8m1 : Method := { name := "newBytesFor", desc := "(I)[B", sig := { parameters := [.int], returnType := some (.array .byte) }, accessFlags := 9, code := some k8c1 }
def k8c2 : Code := { maxStack := 4, maxLocals := 1, code := jdk_52_method_3_code, exceptionTable := #[], attributes := #[] }
def k8m2 : Method := { name := "newBytesLength", desc := "(I)I", sig := { parameters := [.int], returnType := some .int }, accessFlags := 9, code := some k8c2 }
def k8c3 : Code := { maxStack := 4, maxLocals := 3, code := jdk_52_method_4_code, exceptionTable := #[], attributes := #[] }
def k8m3 : Method := { name := "putChar", desc := "([BII)V", sig := { parameters := [(.array .byte), .int, .int], returnType := none }, accessFlags := 8, code := some k8c3 }
def k8c4 : Code := { maxStack := 3, maxLocals := 2, code := jdk_52_method_5_code, exceptionTable := #[], attributes := #[] }
def k8m4 : Method := { name := "getChar", desc := "([BI)C", sig := { parameters := [(.array .byte), .int], returnType := some .char }, accessFlags := 8, code := some k8c4 }
def k8c5 : Code := { maxStack := 2, maxLocals := 1, code := jdk_52_method_6_code, exceptionTable := #[], attributes := #[] }
def k8m5 : Method := { name := "length", desc := "([B)I", sig := { parameters := [(.array .byte)], returnType := some .int }, accessFlags := 9, code := some k8c5 }
def k8c6 : Code := { maxStack := 4, maxLocals := 5, code := jdk_52_method_14_code, exceptionTable := #[], attributes := #[] }
def k8m6 : Method := { name := "toBytes", desc := "([CII)[B", sig := { parameters := [(.array .char), .int, .int], returnType := some (.array .byte) }, accessFlags := 9, code := some k8c6 }
def k8c7 : Code := { maxStack := 2, maxLocals := 2, code := jdk_52_method_15_code, exceptionTable := #[], attributes := #[] }
def k8m7 : Method := { name := "coderFromArrayLen", desc := "([BI)B", sig := { parameters := [(.array .byte), .int], returnType := some .byte }, accessFlags := 8, code := some k8c7 }
def k8c8 : Code := { maxStack := 5, maxLocals := 6, code := jdk_52_method_16_code, exceptionTable := #[], attributes := #[] }
def k8m8 : Method := { name := "compress", desc := "([CII)[B", sig := { parameters := [(.array .char), .int, .int], returnType := some (.array .byte) }, accessFlags := 9, code := some k8c8 }
def k8c9 : Code := { maxStack := 3, maxLocals := 7, code := jdk_52_method_21_code, exceptionTable := #[], attributes := #[] }
def k8m9 : Method := { name := "compress", desc := "([CI[BII)I", sig := { parameters := [(.array .char), .int, (.array .byte), .int, .int], returnType := some .int }, accessFlags := 9, code := some k8c9 }
def k8c10 : Code := { maxStack := 2, maxLocals := 2, code := jdk_52_method_83_code, exceptionTable := #[], attributes := #[] }
def k8m10 : Method := { name := "charAt", desc := "([BI)C", sig := { parameters := [(.array .byte), .int], returnType := some .char }, accessFlags := 9, code := some k8c10 }
def k8c11 : Code := { maxStack := 2, maxLocals := 2, code := jdk_52_method_91_code, exceptionTable := #[], attributes := #[] }
def k8m11 : Method := { name := "checkIndex", desc := "(I[B)V", sig := { parameters := [.int, (.array .byte)], returnType := none }, accessFlags := 9, code := some k8c11 }
/-- java/lang/StringUTF16 -/
def k8 : Class := { plain "java/lang/StringUTF16" (some 0) with
  accessFlags := 48
  interfaces := #[]
  cf := some (fileOf pool8 12 #[.nestMembers #[627, 629, 369]] #[{ accessFlags := 0, nameIndex := 9, descriptorIndex := 10, attributes := #[] }, { accessFlags := 9, nameIndex := 109, descriptorIndex := 110, attributes := #[] }, { accessFlags := 9, nameIndex := 15, descriptorIndex := 16, attributes := #[] }, { accessFlags := 8, nameIndex := 113, descriptorIndex := 114, attributes := #[] }, { accessFlags := 8, nameIndex := 73, descriptorIndex := 74, attributes := #[] }, { accessFlags := 9, nameIndex := 50, descriptorIndex := 51, attributes := #[] }, { accessFlags := 9, nameIndex := 121, descriptorIndex := 122, attributes := #[] }, { accessFlags := 8, nameIndex := 261, descriptorIndex := 262, attributes := #[] }, { accessFlags := 9, nameIndex := 117, descriptorIndex := 122, attributes := #[] }, { accessFlags := 9, nameIndex := 117, descriptorIndex := 118, attributes := #[] }, { accessFlags := 9, nameIndex := 392, descriptorIndex := 74, attributes := #[] }, { accessFlags := 9, nameIndex := 69, descriptorIndex := 70, attributes := #[] }] 48 6 #[] #[{ accessFlags := 26, nameIndex := 61, descriptorIndex := 62, attributes := #[] }, { accessFlags := 26, nameIndex := 65, descriptorIndex := 62, attributes := #[] }, { accessFlags := 24, nameIndex := 430, descriptorIndex := 62, attributes := #[] }, { accessFlags := 4120, nameIndex := 46, descriptorIndex := 47, attributes := #[] }])
  fields := #[{ name := "HI_BYTE_SHIFT", type := .int, accessFlags := 26, slot := 0, constantValue := 0 }, { name := "LO_BYTE_SHIFT", type := .int, accessFlags := 26, slot := 1, constantValue := 0 }, { name := "MAX_LENGTH", type := .int, accessFlags := 24, slot := 2, constantValue := 0 }, { name := "$assertionsDisabled", type := .boolean, accessFlags := 4120, slot := 3, constantValue := 0 }]
  methods := #[k8m0, k8m1, k8m2, k8m3, k8m4, k8m5, k8m6, k8m7, k8m8, k8m9, k8m10, k8m11]
  instanceTypes := #[]
  staticTypes := #[.int, .int, .int, .boolean]
  resolved := Array.replicate 635 none
  statics := some 1 }

def pool9 : Array CpInfo := pool [(2, .class_ 4), (1, u "java/lang/Object"), (0, u "<init>"), (0, u "()V"), (1, .class_ 10), (1, u "com/example/syndic/syndic/input/Amounts"), (31, .class_ 44), (1, u "java/lang/String"), (3, u "isWritten"), (0, u "(Ljava/lang/String;I)Z"), (11, .methodref 42 62), (0, .nameAndType 63 64), (0, u "charAt"), (0, u "(I)C"), (8, .methodref 8 74), (0, .nameAndType 75 76), (0, u "digitsFrom"), (0, u "(Ljava/lang/String;II)I"), (22, u "NO_SIGN"), (0, u "Ljava/lang/String;"), (3, u "LONG_DIGITS"), (0, u "I")] 36

def k9m0 : Method := { name := "<init>", desc := "()V", sig := { parameters := [], returnType := none }, accessFlags := 2, code := none }
def k9c1 : Code := { maxStack := 3, maxLocals := 3, code := prog_25_method_5_code, exceptionTable := #[], attributes := #[] }
def k9m1 : Method := { name := "isWritten", desc := "(Ljava/lang/String;I)Z", sig := { parameters := [(.object "java/lang/String"), .int], returnType := some .boolean }, accessFlags := 8, code := some k9c1 }
def k9c2 : Code := { maxStack := 2, maxLocals := 4, code := prog_25_method_6_code, exceptionTable := #[], attributes := #[] }
def k9m2 : Method := { name := "digitsFrom", desc := "(Ljava/lang/String;II)I", sig := { parameters := [(.object "java/lang/String"), .int, .int], returnType := some .int }, accessFlags := 10, code := some k9c2 }
/-- com/example/syndic/syndic/input/Amounts -/
def k9 : Class := { plain "com/example/syndic/syndic/input/Amounts" (some 0) with
  accessFlags := 49
  interfaces := #[]
  cf := some (fileOf pool9 8 #[] #[{ accessFlags := 2, nameIndex := 5, descriptorIndex := 6, attributes := #[] }, { accessFlags := 8, nameIndex := 48, descriptorIndex := 49, attributes := #[] }, { accessFlags := 10, nameIndex := 75, descriptorIndex := 76, attributes := #[] }] 49 2 #[] #[{ accessFlags := 26, nameIndex := 99, descriptorIndex := 100, attributes := #[] }, { accessFlags := 26, nameIndex := 104, descriptorIndex := 105, attributes := #[] }])
  fields := #[{ name := "NO_SIGN", type := (.object "java/lang/String"), accessFlags := 26, slot := 0, constantValue := 0 }, { name := "LONG_DIGITS", type := .int, accessFlags := 26, slot := 1, constantValue := 0 }]
  methods := #[k9m0, k9m1, k9m2]
  instanceTypes := #[]
  staticTypes := #[(.object "java/lang/String"), .int]
  resolved := Array.replicate 142 none
  statics := none }

def pool10 : Array CpInfo := pool [(1, .class_ 2), (0, u "java/lang/String"), (1, .class_ 6), (1, u "java/lang/Object"), (0, u "<init>"), (0, u "()V"), (0, .methodref 1 10), (0, .nameAndType 11 12), (0, u "checkIndex"), (0, u "(II)V"), (1, .class_ 16), (1, u "java/lang/StringLatin1"), (36, u "([BI)C"), (67, u "$assertionsDisabled"), (0, u "Z"), (98, .class_ 223), (1, u "java/lang/StringLatin1$LinesSpliterator"), (28, u "charAt"), (137, .class_ 391), (0, u "java/lang/StringLatin1$CharsSpliterator")] 3

def k10m0 : Method := { name := "<init>", desc := "()V", sig := { parameters := [], returnType := none }, accessFlags := 0, code := none }
def k10c1 : Code := { maxStack := 2, maxLocals := 2, code := jdk_43_method_2_code, exceptionTable := #[], attributes := #[] }
def k10m1 : Method := { name := "charAt", desc := "([BI)C", sig := { parameters := [(.array .byte), .int], returnType := some .char }, accessFlags := 9, code := some k10c1 }
/-- java/lang/StringLatin1 -/
def k10 : Class := { plain "java/lang/StringLatin1" (some 0) with
  accessFlags := 48
  interfaces := #[]
  cf := some (fileOf pool10 14 #[.nestMembers #[390, 221]] #[{ accessFlags := 0, nameIndex := 7, descriptorIndex := 8, attributes := #[] }, { accessFlags := 9, nameIndex := 252, descriptorIndex := 53, attributes := #[] }] 48 4 #[] #[{ accessFlags := 4120, nameIndex := 121, descriptorIndex := 122, attributes := #[] }])
  fields := #[{ name := "$assertionsDisabled", type := .boolean, accessFlags := 4120, slot := 0, constantValue := 0 }]
  methods := #[k10m0, k10m1]
  instanceTypes := #[]
  staticTypes := #[.boolean]
  resolved := Array.replicate 395 none
  statics := none }

def pool11 : Array CpInfo := pool [(2, .class_ 4), (1, u "java/lang/Object"), (0, u "<init>"), (0, u "()V"), (17, .class_ 26), (1, u "jdk/internal/util/Preconditions"), (6, u "checkIndex"), (21, .class_ 56), (0, u "jdk/internal/util/Preconditions$4"), (57, .class_ 115), (0, u "jdk/internal/util/Preconditions$1"), (7, u "SIOOBE_FORMATTER"), (0, u "Ljava/util/function/BiFunction;"), (0, .class_ 126), (0, u "jdk/internal/util/Preconditions$2"), (3, u "AIOOBE_FORMATTER"), (0, .class_ 132), (0, u "jdk/internal/util/Preconditions$3"), (3, u "IOOBE_FORMATTER"), (41, u "(IILjava/util/function/BiFunction;)I")] 15

def k11m0 : Method := { name := "<init>", desc := "()V", sig := { parameters := [], returnType := none }, accessFlags := 1, code := none }
def k11c1 : Code := { maxStack := 3, maxLocals := 3, code := jdk_41_method_11_code, exceptionTable := #[], attributes := #[] }
def k11m1 : Method := { name := "checkIndex", desc := "(IILjava/util/function/BiFunction;)I", sig := { parameters := [.int, .int, (.object "java/util/function/BiFunction")], returnType := some .int }, accessFlags := 9, code := some k11c1 }
/-- jdk/internal/util/Preconditions -/
def k11 : Class := { plain "jdk/internal/util/Preconditions" (some 0) with
  accessFlags := 33
  interfaces := #[]
  cf := some (fileOf pool11 24 #[.nestMembers #[55, 131, 125, 114]] #[{ accessFlags := 1, nameIndex := 5, descriptorIndex := 6, attributes := #[] }, { accessFlags := 9, nameIndex := 33, descriptorIndex := 178, attributes := #[] }] 33 2 #[] #[{ accessFlags := 25, nameIndex := 123, descriptorIndex := 124, attributes := #[] }, { accessFlags := 25, nameIndex := 130, descriptorIndex := 124, attributes := #[] }, { accessFlags := 25, nameIndex := 136, descriptorIndex := 124, attributes := #[] }])
  fields := #[{ name := "SIOOBE_FORMATTER", type := (.object "java/util/function/BiFunction"), accessFlags := 25, slot := 0, constantValue := 0 }, { name := "AIOOBE_FORMATTER", type := (.object "java/util/function/BiFunction"), accessFlags := 25, slot := 1, constantValue := 0 }, { name := "IOOBE_FORMATTER", type := (.object "java/util/function/BiFunction"), accessFlags := 25, slot := 2, constantValue := 0 }]
  methods := #[k11m0, k11m1]
  instanceTypes := #[]
  staticTypes := #[(.object "java/util/function/BiFunction"), (.object "java/util/function/BiFunction"), (.object "java/util/function/BiFunction")]
  resolved := Array.replicate 194 none
  statics := some 2 }

def pool12 : Array CpInfo := pool [(9, u "<init>"), (6, .class_ 18), (1, u "java/lang/Object"), (0, u "()V"), (1, .class_ 23), (1, u "jdk/internal/util/ArraysSupport"), (0, u "LOG2_ARRAY_LONG_INDEX_SCALE"), (0, u "I"), (2, u "U"), (0, u "Ljdk/internal/misc/Unsafe;"), (8, u "BIG_ENDIAN"), (0, u "Z"), (8, u "LOG2_BYTE_BIT_SIZE"), (4, u "LOG2_ARRAY_INT_INDEX_SCALE"), (54, u "JLA"), (0, u "Ljdk/internal/access/JavaLangAccess;"), (11, u "LOG2_ARRAY_BOOLEAN_INDEX_SCALE"), (9, u "LOG2_ARRAY_BYTE_INDEX_SCALE"), (5, u "LOG2_ARRAY_CHAR_INDEX_SCALE"), (5, u "LOG2_ARRAY_SHORT_INDEX_SCALE"), (18, u "LOG2_ARRAY_FLOAT_INDEX_SCALE"), (24, u "LOG2_ARRAY_DOUBLE_INDEX_SCALE"), (89, u "T_BOOLEAN"), (2, u "T_CHAR"), (1, u "T_FLOAT"), (1, u "T_DOUBLE"), (1, u "T_BYTE"), (1, u "T_SHORT"), (1, u "T_INT"), (1, u "T_LONG"), (1, u "SOFT_MAX_ARRAY_LENGTH")] 83

def k12m0 : Method := { name := "<init>", desc := "()V", sig := { parameters := [], returnType := none }, accessFlags := 2, code := none }
/-- jdk/internal/util/ArraysSupport -/
def k12 : Class := { plain "jdk/internal/util/ArraysSupport" (some 0) with
  accessFlags := 33
  interfaces := #[]
  cf := some (fileOf pool12 21 #[] #[{ accessFlags := 2, nameIndex := 9, descriptorIndex := 19, attributes := #[] }] 33 16 #[] #[{ accessFlags := 24, nameIndex := 28, descriptorIndex := 29, attributes := #[] }, { accessFlags := 26, nameIndex := 38, descriptorIndex := 39, attributes := #[] }, { accessFlags := 25, nameIndex := 121, descriptorIndex := 25, attributes := #[] }, { accessFlags := 25, nameIndex := 131, descriptorIndex := 25, attributes := #[] }, { accessFlags := 25, nameIndex := 137, descriptorIndex := 25, attributes := #[] }, { accessFlags := 25, nameIndex := 143, descriptorIndex := 25, attributes := #[] }, { accessFlags := 25, nameIndex := 53, descriptorIndex := 25, attributes := #[] }, { accessFlags := 25, nameIndex := 24, descriptorIndex := 25, attributes := #[] }, { accessFlags := 25, nameIndex := 162, descriptorIndex := 25, attributes := #[] }, { accessFlags := 25, nameIndex := 187, descriptorIndex := 25, attributes := #[] }, { accessFlags := 26, nameIndex := 48, descriptorIndex := 25, attributes := #[] }, { accessFlags := 25, nameIndex := 277, descriptorIndex := 25, attributes := #[] }, { accessFlags := 25, nameIndex := 280, descriptorIndex := 25, attributes := #[] }, { accessFlags := 25, nameIndex := 282, descriptorIndex := 25, attributes := #[] }, { accessFlags := 25, nameIndex := 284, descriptorIndex := 25, attributes := #[] }, { accessFlags := 25, nameIndex := 286, descriptorIndex := 25, attributes := #[] }, { accessFlags := 25, nameIndex := 288, descriptorIndex := 25, attributes := #[] }, { accessFlags := 25, nameIndex := 290, descriptorIndex := 25, attributes := #[] }, { accessFlags := 25, nameIndex := 292, descriptorIndex := 25, attributes := #[] }, { accessFlags := 26, nameIndex := 108, descriptorIndex := 109, attributes := #[] }, { accessFlags := 25, nameIndex := 294, descriptorIndex := 25, attributes := #[] }])
  fields := #[{ name := "U", type := (.object "jdk/internal/misc/Unsafe"), accessFlags := 24, slot := 0, constantValue := 0 }, { name := "BIG_ENDIAN", type := .boolean, accessFlags := 26, slot := 1, constantValue := 0 }, { name := "LOG2_ARRAY_BOOLEAN_INDEX_SCALE", type := .int, accessFlags := 25, slot := 2, constantValue := 0 }, { name := "LOG2_ARRAY_BYTE_INDEX_SCALE", type := .int, accessFlags := 25, slot := 3, constantValue := 0 }, { name := "LOG2_ARRAY_CHAR_INDEX_SCALE", type := .int, accessFlags := 25, slot := 4, constantValue := 0 }, { name := "LOG2_ARRAY_SHORT_INDEX_SCALE", type := .int, accessFlags := 25, slot := 5, constantValue := 0 }, { name := "LOG2_ARRAY_INT_INDEX_SCALE", type := .int, accessFlags := 25, slot := 6, constantValue := 0 }, { name := "LOG2_ARRAY_LONG_INDEX_SCALE", type := .int, accessFlags := 25, slot := 7, constantValue := 0 }, { name := "LOG2_ARRAY_FLOAT_INDEX_SCALE", type := .int, accessFlags := 25, slot := 8, constantValue := 0 }, { name := "LOG2_ARRAY_DOUBLE_INDEX_SCALE", type := .int, accessFlags := 25, slot := 9, constantValue := 0 }, { name := "LOG2_BYTE_BIT_SIZE", type := .int, accessFlags := 26, slot := 10, constantValue := 0 }, { name := "T_BOOLEAN", type := .int, accessFlags := 25, slot := 11, constantValue := 0 }, { name := "T_CHAR", type := .int, accessFlags := 25, slot := 12, constantValue := 0 }, { name := "T_FLOAT", type := .int, accessFlags := 25, slot := 13, constantValue := 0 }, { name := "T_DOUBLE", type := .int, accessFlags := 25, slot := 14, constantValue := 0 }, { name := "T_BYTE", type := .int, accessFlags := 25, slot := 15, constantValue := 0 }, { name := "T_SHORT", type := .int, accessFlags := 25, slot := 16, constantValue := 0 }, { name := "T_INT", type := .int, accessFlags := 25, slot := 17, constantValue := 0 }, { name := "T_LONG", type := .int, accessFlags := 25, slot := 18, constantValue := 0 }, { name := "JLA", type := (.object "jdk/internal/access/JavaLangAccess"), accessFlags := 26, slot := 19, constantValue := 0 }, { name := "SOFT_MAX_ARRAY_LENGTH", type := .int, accessFlags := 25, slot := 20, constantValue := 0 }]
  methods := #[k12m0]
  instanceTypes := #[]
  staticTypes := #[(.object "jdk/internal/misc/Unsafe"), .boolean, .int, .int, .int, .int, .int, .int, .int, .int, .int, .int, .int, .int, .int, .int, .int, .int, .int, (.object "jdk/internal/access/JavaLangAccess"), .int]
  resolved := Array.replicate 378 none
  statics := none }

def pool13 : Array CpInfo := pool [(1, u "java/lang/Cloneable"), (0, .class_ 1), (0, u "java/lang/Object"), (0, .class_ 3)] 3

/-- java/lang/Cloneable -/
def k13 : Class := { plain "java/lang/Cloneable" (some 0) with
  accessFlags := 1537
  interfaces := #[]
  cf := some (fileOf pool13 2 #[] #[] 1537 4 #[] #[])
  fields := #[]
  methods := #[]
  instanceTypes := #[]
  staticTypes := #[]
  resolved := Array.replicate 8 none
  statics := none }

/-- the primitive byte -/
def k14 : Class := { plain "byte" none with kind := .primitive 'B', accessFlags := 0x411 }
/-- [B -/
def k15 : Class := { plain "[B" (some 0) with kind := .array 14 .byte, interfaces := #[13, 2], accessFlags := 1041 }

/-- the primitive char -/
def k16 : Class := { plain "char" none with kind := .primitive 'C', accessFlags := 0x411 }
/-- [C -/
def k17 : Class := { plain "[C" (some 0) with kind := .array 16 .char, interfaces := #[13, 2], accessFlags := 1041 }

/-- the primitive int -/
def k18 : Class := { plain "int" none with kind := .primitive 'I', accessFlags := 0x411 }
/-- [I -/
def k19 : Class := { plain "[I" (some 0) with kind := .array 18 .int, interfaces := #[13, 2], accessFlags := 1041 }

def heap : Heap := #[{ cls := 7, slots := #[.long 0, .int 1, .null, .int 0, .null, .int 0, .int 0], vm := .statics 7 },
  { cls := 8, slots := #[.int 0, .int 8, .int 0, .int 1], vm := .statics 8 },
  { cls := 11, slots := #[.null, .null, .null], vm := .statics 11 }]
def classes : Array Class := #[k0, k1, k2, k3, k4, k5, k6, k7, k8, k9, k10, k11, k12, k13, k14, k15, k16, k17, k18, k19]
def interned : List (Array UInt16 × Addr) := []
def slotsUsed : Nat := 14
def theMethod : MethodId := ⟨1, 5⟩
def args0 : Array Value := #[.int 5, .int 1, .int 2, .int 3, .int 4, .int 6]
def aboutOver (below : List Frame) : State where
  vm := { classes := classes, interned := interned.toArray }
  heap := heap
  slotsUsed := slotsUsed
  threads := #[{ frames := .invoking theMethod args0 :: below }]
def below0 : List Frame := [.native { method := ⟨0, 0⟩, args := #[] }]
def about1 : State := aboutOver below0
def p0 : Program := .bare "" "" ""
def e0 : Env := launch0.env 0 0 0
theorem w_frames : about1.frames = Frame.invoking theMethod args0 :: below0 := rfl
set_option maxRecDepth 65536 in
theorem w_args : argsFit about1.vm theMethod args0 = true := by decide +kernel
set_option maxRecDepth 65536 in
theorem w_heap : heapFits about1 = true := by decide +kernel
set_option maxRecDepth 65536 in
theorem w_runnable : about1.curStatus? = some .runnable := by decide +kernel
set_option maxRecDepth 65536 in
theorem w_alone : about1.alone = true := by decide +kernel
set_option maxRecDepth 65536 in
theorem w_named : about1.methodNamed? x = some theMethod := by decide +kernel
set_option maxRecDepth 65536 in
theorem w_hears : about1.hears theMethod below0 = true := by decide +kernel
set_option maxRecDepth 65536 in
theorem w_ripe : about1.ripe theMethod args0 below0 = true := by decide +kernel
theorem w_running : about1.status = .running := rfl
set_option maxRecDepth 65536 in
theorem w_room : about1.hasRoom e0.platform room_1 = true :=
  launch0.hasRoom_least _ room_1 (by decide +kernel) (by decide +kernel) (by decide +kernel) (by decide +kernel) (by decide +kernel) (by decide +kernel)
theorem allAtoms_all (ts : List Jvm.Cond) (a : Array Jvm.Value) (st : Jvm.State) : (allAtoms ts).before a st = ts.all (fun c => c.before a st) := by
  induction ts with
  | nil => rfl
  | cons c t ih =>
    show (Jvm.Cond.and c (allAtoms t)).before a st = _
    rw [Jvm.Cond.before_and, ih, List.all_cons]
def words1 : List Jvm.Cond := Jvm.Cond.code x code maxLocals ret :: tables_1
/-- a 'code' word, met by the world's own term for the bytes: nothing is compared byte by byte -/
theorem code_word {y : MethodName} {bytes : ByteArray} {mx : Nat} {rt : Option FieldType} {a : Array Value} {s : State} {m : MethodId} {meth : Method} {c : Code} (h1 : s.methodNamed? y = some m) (h2 : s.vm.method? m = some meth) (h3 : meth.code = some c) (h4 : c.code = bytes)
    (h5 : (c.maxLocals == mx && c.exceptionTable.isEmpty && decide (c.maxStack ≤ mostOperands) && decide (meth.sig.returnType = rt) && !meth.locks && decide (parseMethodDescriptor y.desc = some meth.sig)) = true) : (Jvm.Cond.code y bytes mx rt).before a s = true := by
  simp only [Bool.and_eq_true, beq_iff_eq, Bool.not_eq_true', decide_eq_true_eq] at h5
  obtain ⟨⟨⟨⟨⟨g1, g2⟩, g3⟩, g4⟩, g5⟩, g6⟩ := h5
  simp [Cond.before, Cond.holds, Cond.value, h1, h2, h3, h4, g1, g2, g3, g4, g5, g6]
def isCode : Jvm.Cond → Bool
  | .code _ _ _ _ => true
  | _ => false
theorem all_split {L : List Jvm.Cond} {P : Jvm.Cond → Bool} (h1 : L.all (fun c => isCode c || P c) = true) (h2 : ∀ c ∈ L.filter isCode, P c = true) : L.all P = true := by
  refine List.all_eq_true.mpr fun c hc => ?_
  have h := List.all_eq_true.mp h1 c hc
  rcases Bool.eq_false_or_eq_true (isCode c) with hi | hi
  · exact h2 c (List.mem_filter.mpr ⟨hc, hi⟩)
  · simpa [hi] using h
set_option maxRecDepth 65536 in
theorem w_c0 : (Jvm.Cond.code x code maxLocals ret).before args0 about1 = true := code_word (m := ⟨1, 5⟩) (meth := k1m5) (c := k1c5) (by decide +kernel) rfl rfl rfl (by decide +kernel)
set_option maxRecDepth 65536 in
theorem w_c1 : (Jvm.Cond.code ({ cls := "com/example/syndic/syndic/input/AmountsIsWrittenPinLaw", name := "pick", desc := "(I)C" } : Jvm.MethodName) method_2_code (3 : Nat) (Option.some Jvm.ClassFile.FieldType.char)).before args0 about1 = true := code_word (m := ⟨1, 1⟩) (meth := k1m1) (c := k1c1) (by decide +kernel) rfl rfl rfl (by decide +kernel)
set_option maxRecDepth 65536 in
theorem w_c2 : (Jvm.Cond.code ({ cls := "java/lang/String", name := "<init>", desc := "([C)V" } : Jvm.MethodName) jdk_42_method_3_code (2 : Nat) (Option.none : Option Jvm.ClassFile.FieldType)).before args0 about1 = true := code_word (m := ⟨7, 1⟩) (meth := k7m1) (c := k7c1) (by decide +kernel) rfl rfl rfl (by decide +kernel)
set_option maxRecDepth 65536 in
theorem w_c3 : (Jvm.Cond.code ({ cls := "java/lang/String", name := "<init>", desc := "([CIILjava/lang/Void;)V" } : Jvm.MethodName) jdk_42_method_149_code (6 : Nat) (Option.none : Option Jvm.ClassFile.FieldType)).before args0 about1 = true := code_word (m := ⟨7, 3⟩) (meth := k7m3) (c := k7c3) (by decide +kernel) rfl rfl rfl (by decide +kernel)
set_option maxRecDepth 65536 in
theorem w_c4 : (Jvm.Cond.code ({ cls := "java/lang/Object", name := "<init>", desc := "()V" } : Jvm.MethodName) object_method_1_code (1 : Nat) (Option.none : Option Jvm.ClassFile.FieldType)).before args0 about1 = true := code_word (m := ⟨0, 0⟩) (meth := k0m0) (c := k0c0) (by decide +kernel) rfl rfl rfl (by decide +kernel)
set_option maxRecDepth 65536 in
theorem w_c5 : (Jvm.Cond.code ({ cls := "java/lang/StringUTF16", name := "compress", desc := "([CII)[B" } : Jvm.MethodName) jdk_52_method_16_code (6 : Nat) (Option.some (Jvm.ClassFile.FieldType.array Jvm.ClassFile.FieldType.byte))).before args0 about1 = true := code_word (m := ⟨8, 8⟩) (meth := k8m8) (c := k8c8) (by decide +kernel) rfl rfl rfl (by decide +kernel)
set_option maxRecDepth 65536 in
theorem w_c6 : (Jvm.Cond.code ({ cls := "java/lang/StringUTF16", name := "compress", desc := "([CI[BII)I" } : Jvm.MethodName) jdk_52_method_21_code (7 : Nat) (Option.some Jvm.ClassFile.FieldType.int)).before args0 about1 = true := code_word (m := ⟨8, 9⟩) (meth := k8m9) (c := k8c9) (by decide +kernel) rfl rfl rfl (by decide +kernel)
set_option maxRecDepth 65536 in
theorem w_c7 : (Jvm.Cond.code ({ cls := "java/lang/StringUTF16", name := "coderFromArrayLen", desc := "([BI)B" } : Jvm.MethodName) jdk_52_method_15_code (2 : Nat) (Option.some Jvm.ClassFile.FieldType.byte)).before args0 about1 = true := code_word (m := ⟨8, 7⟩) (meth := k8m7) (c := k8c7) (by decide +kernel) rfl rfl rfl (by decide +kernel)
set_option maxRecDepth 65536 in
theorem w_c8 : (Jvm.Cond.code ({ cls := "com/example/syndic/syndic/input/AmountsIsWrittenPinLaw", name := "allowed", desc := "(CII)Z" } : Jvm.MethodName) method_4_code (3 : Nat) (Option.some Jvm.ClassFile.FieldType.boolean)).before args0 about1 = true := code_word (m := ⟨1, 3⟩) (meth := k1m3) (c := k1c3) (by decide +kernel) rfl rfl rfl (by decide +kernel)
set_option maxRecDepth 65536 in
theorem w_c9 : (Jvm.Cond.code ({ cls := "com/example/syndic/syndic/input/AmountsIsWrittenPinLaw", name := "digit", desc := "(C)Z" } : Jvm.MethodName) method_3_code (1 : Nat) (Option.some Jvm.ClassFile.FieldType.boolean)).before args0 about1 = true := code_word (m := ⟨1, 2⟩) (meth := k1m2) (c := k1c2) (by decide +kernel) rfl rfl rfl (by decide +kernel)
set_option maxRecDepth 65536 in
theorem w_c10 : (Jvm.Cond.code ({ cls := "com/example/syndic/syndic/input/AmountsIsWrittenPinLaw", name := "dot", desc := "(CII)I" } : Jvm.MethodName) method_5_code (3 : Nat) (Option.some Jvm.ClassFile.FieldType.int)).before args0 about1 = true := code_word (m := ⟨1, 4⟩) (meth := k1m4) (c := k1c4) (by decide +kernel) rfl rfl rfl (by decide +kernel)
set_option maxRecDepth 65536 in
theorem w_c11 : (Jvm.Cond.code ({ cls := "com/example/syndic/syndic/input/Amounts", name := "isWritten", desc := "(Ljava/lang/String;I)Z" } : Jvm.MethodName) prog_25_method_5_code (3 : Nat) (Option.some Jvm.ClassFile.FieldType.boolean)).before args0 about1 = true := code_word (m := ⟨9, 1⟩) (meth := k9m1) (c := k9c1) (by decide +kernel) rfl rfl rfl (by decide +kernel)
set_option maxRecDepth 65536 in
theorem w_c12 : (Jvm.Cond.code ({ cls := "com/example/syndic/syndic/input/Amounts", name := "digitsFrom", desc := "(Ljava/lang/String;II)I" } : Jvm.MethodName) prog_25_method_6_code (4 : Nat) (Option.some Jvm.ClassFile.FieldType.int)).before args0 about1 = true := code_word (m := ⟨9, 2⟩) (meth := k9m2) (c := k9c2) (by decide +kernel) rfl rfl rfl (by decide +kernel)
set_option maxRecDepth 65536 in
theorem w_c13 : (Jvm.Cond.code ({ cls := "java/lang/String", name := "charAt", desc := "(I)C" } : Jvm.MethodName) jdk_42_method_56_code (2 : Nat) (Option.some Jvm.ClassFile.FieldType.char)).before args0 about1 = true := code_word (m := ⟨7, 2⟩) (meth := k7m2) (c := k7c2) (by decide +kernel) rfl rfl rfl (by decide +kernel)
set_option maxRecDepth 65536 in
theorem w_c14 : (Jvm.Cond.code ({ cls := "java/lang/String", name := "isLatin1", desc := "()Z" } : Jvm.MethodName) jdk_42_method_154_code (1 : Nat) (Option.some Jvm.ClassFile.FieldType.boolean)).before args0 about1 = true := code_word (m := ⟨7, 4⟩) (meth := k7m4) (c := k7c4) (by decide +kernel) rfl rfl rfl (by decide +kernel)
set_option maxRecDepth 65536 in
theorem w_c15 : (Jvm.Cond.code ({ cls := "java/lang/StringLatin1", name := "charAt", desc := "([BI)C" } : Jvm.MethodName) jdk_43_method_2_code (2 : Nat) (Option.some Jvm.ClassFile.FieldType.char)).before args0 about1 = true := code_word (m := ⟨10, 1⟩) (meth := k10m1) (c := k10c1) (by decide +kernel) rfl rfl rfl (by decide +kernel)
set_option maxRecDepth 65536 in
theorem w_c16 : (Jvm.Cond.code ({ cls := "java/lang/String", name := "checkIndex", desc := "(II)V" } : Jvm.MethodName) jdk_42_method_155_code (2 : Nat) (Option.none : Option Jvm.ClassFile.FieldType)).before args0 about1 = true := code_word (m := ⟨7, 5⟩) (meth := k7m5) (c := k7c5) (by decide +kernel) rfl rfl rfl (by decide +kernel)
set_option maxRecDepth 65536 in
theorem w_c17 : (Jvm.Cond.code ({ cls := "jdk/internal/util/Preconditions", name := "checkIndex", desc := "(IILjava/util/function/BiFunction;)I" } : Jvm.MethodName) jdk_41_method_11_code (3 : Nat) (Option.some Jvm.ClassFile.FieldType.int)).before args0 about1 = true := code_word (m := ⟨11, 1⟩) (meth := k11m1) (c := k11c1) (by decide +kernel) rfl rfl rfl (by decide +kernel)
set_option maxRecDepth 65536 in
theorem w_c18 : (Jvm.Cond.code ({ cls := "java/lang/StringUTF16", name := "toBytes", desc := "([CII)[B" } : Jvm.MethodName) jdk_52_method_14_code (5 : Nat) (Option.some (Jvm.ClassFile.FieldType.array Jvm.ClassFile.FieldType.byte))).before args0 about1 = true := code_word (m := ⟨8, 6⟩) (meth := k8m6) (c := k8c6) (by decide +kernel) rfl rfl rfl (by decide +kernel)
set_option maxRecDepth 65536 in
theorem w_c19 : (Jvm.Cond.code ({ cls := "java/lang/StringUTF16", name := "newBytesFor", desc := "(I)[B" } : Jvm.MethodName) jdk_52_method_2_code (1 : Nat) (Option.some (Jvm.ClassFile.FieldType.array Jvm.ClassFile.FieldType.byte))).before args0 about1 = true := code_word (m := ⟨8, 1⟩) (meth := k8m1) (c := k8c1) (by decide +kernel) rfl rfl rfl (by decide +kernel)
set_option maxRecDepth 65536 in
theorem w_c20 : (Jvm.Cond.code ({ cls := "java/lang/StringUTF16", name := "newBytesLength", desc := "(I)I" } : Jvm.MethodName) jdk_52_method_3_code (1 : Nat) (Option.some Jvm.ClassFile.FieldType.int)).before args0 about1 = true := code_word (m := ⟨8, 2⟩) (meth := k8m2) (c := k8c2) (by decide +kernel) rfl rfl rfl (by decide +kernel)
set_option maxRecDepth 65536 in
theorem w_c21 : (Jvm.Cond.code ({ cls := "java/lang/StringUTF16", name := "putChar", desc := "([BII)V" } : Jvm.MethodName) jdk_52_method_4_code (3 : Nat) (Option.none : Option Jvm.ClassFile.FieldType)).before args0 about1 = true := code_word (m := ⟨8, 3⟩) (meth := k8m3) (c := k8c3) (by decide +kernel) rfl rfl rfl (by decide +kernel)
set_option maxRecDepth 65536 in
theorem w_c22 : (Jvm.Cond.code ({ cls := "java/lang/StringUTF16", name := "getChar", desc := "([BI)C" } : Jvm.MethodName) jdk_52_method_5_code (2 : Nat) (Option.some Jvm.ClassFile.FieldType.char)).before args0 about1 = true := code_word (m := ⟨8, 4⟩) (meth := k8m4) (c := k8c4) (by decide +kernel) rfl rfl rfl (by decide +kernel)
set_option maxRecDepth 65536 in
theorem w_c23 : (Jvm.Cond.code ({ cls := "java/lang/StringUTF16", name := "charAt", desc := "([BI)C" } : Jvm.MethodName) jdk_52_method_83_code (2 : Nat) (Option.some Jvm.ClassFile.FieldType.char)).before args0 about1 = true := code_word (m := ⟨8, 10⟩) (meth := k8m10) (c := k8c10) (by decide +kernel) rfl rfl rfl (by decide +kernel)
set_option maxRecDepth 65536 in
theorem w_c24 : (Jvm.Cond.code ({ cls := "java/lang/StringUTF16", name := "checkIndex", desc := "(I[B)V" } : Jvm.MethodName) jdk_52_method_91_code (2 : Nat) (Option.none : Option Jvm.ClassFile.FieldType)).before args0 about1 = true := code_word (m := ⟨8, 11⟩) (meth := k8m11) (c := k8c11) (by decide +kernel) rfl rfl rfl (by decide +kernel)
set_option maxRecDepth 65536 in
theorem w_c25 : (Jvm.Cond.code ({ cls := "java/lang/StringUTF16", name := "length", desc := "([B)I" } : Jvm.MethodName) jdk_52_method_6_code (1 : Nat) (Option.some Jvm.ClassFile.FieldType.int)).before args0 about1 = true := code_word (m := ⟨8, 5⟩) (meth := k8m5) (c := k8c5) (by decide +kernel) rfl rfl rfl (by decide +kernel)
def codes1 : List Jvm.Cond := [Jvm.Cond.code x code maxLocals ret, Jvm.Cond.code ({ cls := "com/example/syndic/syndic/input/AmountsIsWrittenPinLaw", name := "pick", desc := "(I)C" } : Jvm.MethodName) method_2_code (3 : Nat) (Option.some Jvm.ClassFile.FieldType.char), Jvm.Cond.code ({ cls := "java/lang/String", name := "<init>", desc := "([C)V" } : Jvm.MethodName) jdk_42_method_3_code (2 : Nat) (Option.none : Option Jvm.ClassFile.FieldType), Jvm.Cond.code ({ cls := "java/lang/String", name := "<init>", desc := "([CIILjava/lang/Void;)V" } : Jvm.MethodName) jdk_42_method_149_code (6 : Nat) (Option.none : Option Jvm.ClassFile.FieldType), Jvm.Cond.code ({ cls := "java/lang/Object", name := "<init>", desc := "()V" } : Jvm.MethodName) object_method_1_code (1 : Nat) (Option.none : Option Jvm.ClassFile.FieldType), Jvm.Cond.code ({ cls := "java/lang/StringUTF16", name := "compress", desc := "([CII)[B" } : Jvm.MethodName) jdk_52_method_16_code (6 : Nat) (Option.some (Jvm.ClassFile.FieldType.array Jvm.ClassFile.FieldType.byte)), Jvm.Cond.code ({ cls := "java/lang/StringUTF16", name := "compress", desc := "([CI[BII)I" } : Jvm.MethodName) jdk_52_method_21_code (7 : Nat) (Option.some Jvm.ClassFile.FieldType.int), Jvm.Cond.code ({ cls := "java/lang/StringUTF16", name := "coderFromArrayLen", desc := "([BI)B" } : Jvm.MethodName) jdk_52_method_15_code (2 : Nat) (Option.some Jvm.ClassFile.FieldType.byte), Jvm.Cond.code ({ cls := "com/example/syndic/syndic/input/AmountsIsWrittenPinLaw", name := "allowed", desc := "(CII)Z" } : Jvm.MethodName) method_4_code (3 : Nat) (Option.some Jvm.ClassFile.FieldType.boolean), Jvm.Cond.code ({ cls := "com/example/syndic/syndic/input/AmountsIsWrittenPinLaw", name := "digit", desc := "(C)Z" } : Jvm.MethodName) method_3_code (1 : Nat) (Option.some Jvm.ClassFile.FieldType.boolean), Jvm.Cond.code ({ cls := "com/example/syndic/syndic/input/AmountsIsWrittenPinLaw", name := "dot", desc := "(CII)I" } : Jvm.MethodName) method_5_code (3 : Nat) (Option.some Jvm.ClassFile.FieldType.int), Jvm.Cond.code ({ cls := "com/example/syndic/syndic/input/Amounts", name := "isWritten", desc := "(Ljava/lang/String;I)Z" } : Jvm.MethodName) prog_25_method_5_code (3 : Nat) (Option.some Jvm.ClassFile.FieldType.boolean), Jvm.Cond.code ({ cls := "com/example/syndic/syndic/input/Amounts", name := "digitsFrom", desc := "(Ljava/lang/String;II)I" } : Jvm.MethodName) prog_25_method_6_code (4 : Nat) (Option.some Jvm.ClassFile.FieldType.int), Jvm.Cond.code ({ cls := "java/lang/String", name := "charAt", desc := "(I)C" } : Jvm.MethodName) jdk_42_method_56_code (2 : Nat) (Option.some Jvm.ClassFile.FieldType.char), Jvm.Cond.code ({ cls := "java/lang/String", name := "isLatin1", desc := "()Z" } : Jvm.MethodName) jdk_42_method_154_code (1 : Nat) (Option.some Jvm.ClassFile.FieldType.boolean), Jvm.Cond.code ({ cls := "java/lang/StringLatin1", name := "charAt", desc := "([BI)C" } : Jvm.MethodName) jdk_43_method_2_code (2 : Nat) (Option.some Jvm.ClassFile.FieldType.char), Jvm.Cond.code ({ cls := "java/lang/String", name := "checkIndex", desc := "(II)V" } : Jvm.MethodName) jdk_42_method_155_code (2 : Nat) (Option.none : Option Jvm.ClassFile.FieldType), Jvm.Cond.code ({ cls := "jdk/internal/util/Preconditions", name := "checkIndex", desc := "(IILjava/util/function/BiFunction;)I" } : Jvm.MethodName) jdk_41_method_11_code (3 : Nat) (Option.some Jvm.ClassFile.FieldType.int), Jvm.Cond.code ({ cls := "java/lang/StringUTF16", name := "toBytes", desc := "([CII)[B" } : Jvm.MethodName) jdk_52_method_14_code (5 : Nat) (Option.some (Jvm.ClassFile.FieldType.array Jvm.ClassFile.FieldType.byte)), Jvm.Cond.code ({ cls := "java/lang/StringUTF16", name := "newBytesFor", desc := "(I)[B" } : Jvm.MethodName) jdk_52_method_2_code (1 : Nat) (Option.some (Jvm.ClassFile.FieldType.array Jvm.ClassFile.FieldType.byte)), Jvm.Cond.code ({ cls := "java/lang/StringUTF16", name := "newBytesLength", desc := "(I)I" } : Jvm.MethodName) jdk_52_method_3_code (1 : Nat) (Option.some Jvm.ClassFile.FieldType.int), Jvm.Cond.code ({ cls := "java/lang/StringUTF16", name := "putChar", desc := "([BII)V" } : Jvm.MethodName) jdk_52_method_4_code (3 : Nat) (Option.none : Option Jvm.ClassFile.FieldType), Jvm.Cond.code ({ cls := "java/lang/StringUTF16", name := "getChar", desc := "([BI)C" } : Jvm.MethodName) jdk_52_method_5_code (2 : Nat) (Option.some Jvm.ClassFile.FieldType.char), Jvm.Cond.code ({ cls := "java/lang/StringUTF16", name := "charAt", desc := "([BI)C" } : Jvm.MethodName) jdk_52_method_83_code (2 : Nat) (Option.some Jvm.ClassFile.FieldType.char), Jvm.Cond.code ({ cls := "java/lang/StringUTF16", name := "checkIndex", desc := "(I[B)V" } : Jvm.MethodName) jdk_52_method_91_code (2 : Nat) (Option.none : Option Jvm.ClassFile.FieldType), Jvm.Cond.code ({ cls := "java/lang/StringUTF16", name := "length", desc := "([B)I" } : Jvm.MethodName) jdk_52_method_6_code (1 : Nat) (Option.some Jvm.ClassFile.FieldType.int)]
set_option maxRecDepth 65536 in
theorem codes_eq : words1.filter isCode = codes1 := rfl
theorem w_codes : ∀ c ∈ words1.filter isCode, c.before args0 about1 = true := by
  rw [codes_eq]
  intro c hc
  simp only [codes1, List.mem_cons, List.not_mem_nil, or_false] at hc
  rcases hc with rfl | rfl | rfl | rfl | rfl | rfl | rfl | rfl | rfl | rfl | rfl | rfl | rfl | rfl | rfl | rfl | rfl | rfl | rfl | rfl | rfl | rfl | rfl | rfl | rfl | rfl
  · exact w_c0
  · exact w_c1
  · exact w_c2
  · exact w_c3
  · exact w_c4
  · exact w_c5
  · exact w_c6
  · exact w_c7
  · exact w_c8
  · exact w_c9
  · exact w_c10
  · exact w_c11
  · exact w_c12
  · exact w_c13
  · exact w_c14
  · exact w_c15
  · exact w_c16
  · exact w_c17
  · exact w_c18
  · exact w_c19
  · exact w_c20
  · exact w_c21
  · exact w_c22
  · exact w_c23
  · exact w_c24
  · exact w_c25
set_option maxRecDepth 65536 in
theorem w_t1 : (words1.take 24).all (fun c => isCode c || c.before args0 about1) = true := by decide +kernel
set_option maxRecDepth 65536 in
theorem w_t2 : ((words1.drop 24).take 24).all (fun c => isCode c || c.before args0 about1) = true := by decide +kernel
set_option maxRecDepth 65536 in
theorem w_t3 : (((words1.drop 24).drop 24).take 24).all (fun c => isCode c || c.before args0 about1) = true := by decide +kernel
set_option maxRecDepth 65536 in
theorem w_t4 : ((((words1.drop 24).drop 24).drop 24).take 24).all (fun c => isCode c || c.before args0 about1) = true := by decide +kernel
set_option maxRecDepth 65536 in
theorem w_t5 : ((((words1.drop 24).drop 24).drop 24).drop 24).all (fun c => isCode c || c.before args0 about1) = true := by decide +kernel
theorem w_tables : (allAtoms (Jvm.Cond.code x code maxLocals ret :: tables_1)).before args0 about1 = true := by
  rw [allAtoms_all]
  show words1.all (fun c => c.before args0 about1) = true
  refine all_split ?_ w_codes
  rw [← List.take_append_drop 24 words1, List.all_append, w_t1, ← List.take_append_drop 24 (words1.drop 24), List.all_append, w_t2, ← List.take_append_drop 24 ((words1.drop 24).drop 24), List.all_append, w_t3, ← List.take_append_drop 24 (((words1.drop 24).drop 24).drop 24), List.all_append, w_t4, w_t5]
  rfl
set_option maxRecDepth 65536 in
theorem w_rest : rest_1_c.before args0 about1 = true := by decide +kernel
set_option maxRecDepth 65536 in
theorem w_case : (Jvm.Cond.and given_1 narrow_1).before args0 about1 = true := by decide +kernel
theorem w_applies : (headSpec (Jvm.Cond.code x code maxLocals ret :: tables_1) room_1).applies x e0.platform about1 = true :=
  (Spec.applies_iff w_frames).mpr ⟨w_running, w_runnable, w_alone, w_named, w_hears, w_ripe, w_room, w_tables⟩
theorem atStart : AtStart classFile x code maxLocals ret World_1 tables_1 room_1 Calls_1 rest_1 Pre_1 launch0 p0 e0 about1 theMethod args0 below0 :=
  ⟨lists_1, trivial, launch0.admits_env _ _ _, launch0.least_env, fairChoices_fair.cas, fairChoices_fair.clock, w_frames, w_args, w_heap, w_applies, trivial, w_rest, w_case⟩
end start1
theorem witness_1 : WitnessClaimed_1 := ⟨start1.p0, start1.e0, start1.about1, start1.theMethod, start1.args0, start1.below0, start1.atStart⟩
end Jvm.Pilot.@@N@@
